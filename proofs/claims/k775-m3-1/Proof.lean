import JvmDerived
import JvmDerived.Pilot.@@N@@Statement
import JvmDerived.Pilot.@@N@@Code
set_option linter.unusedVariables false
set_option linter.unusedSimpArgs false
namespace Jvm.OwnW
open Sem ClassFile Op Lib Jvm.Stand Jvm.Free Jvm.LawKit Jvm.RoadKit
theorem adr_ne {a b : Nat} (h : a < b ∨ b < a) : @Ne Addr a b := fun z => by
  have z : @Eq Nat a b := z
  omega
/-- what was written lies in one of 'ws' or is new -/
def Fw (ws : List Addr) (N : Nat) (L : List Loc) : Prop := ∀ y ∈ L, y.base ∈ ws ∨ N ≤ y.base
theorem Fw.nil (ws : List Addr) (N : Nat) : Fw ws N [] := fun _ q => nomatch q
theorem Fw.app {ws : List Addr} {N : Nat} {L L' : List Loc} (A : Fw ws N L) (B : Fw ws N L') : Fw ws N (L ++ L') := fun y q => (List.mem_append.mp q).elim (A y) (B y)
theorem Fw.snoc {ws : List Addr} {N : Nat} {L : List Loc} {a : Addr} {sl : Nat} (A : Fw ws N L) (q : a ∈ ws ∨ N ≤ a) : Fw ws N (L ++ [⟨a, sl⟩]) := A.app fun y hy => by cases List.mem_singleton.mp hy; exact q
/-- where a walk stands: what was written is new, the heap, the figures within the room -/
def Pos (p : Program) (l : Launch) (e : Env) (R : Room) (s : State) (m : MethodId) (args : Array Value) (below : List Frame) (meth : Method) (c : Code) (Z : State) (own : String) (ws : List Addr) (bd : Nat) (T : State) (h : Heap) (k n : Nat) : Prop :=
  (∃ locs, Stand p l e R s m args below meth c T locs k n ∧ Fw ws bd locs) ∧ T.heap = h ∧ bd ≤ h.size ∧ Z.Warmed39 s.vm ∧ p.tables.exec = Jvm.exec ∧ s.vm.findClass own = some m.cls ∧ meth.locks = false ∧ k ≤ R.cells ∧ n ≤ R.slots
/-- the walk that stands at the frame g in T comes to its return, and Q holds of what it returns and of the heap it leaves -/
def Done (p : Program) (l : Launch) (e : Env) (R : Room) (s : State) (m : MethodId) (args : Array Value) (below : List Frame) (meth : Method) (c : Code) (Z : State) (own : String) (ws : List Addr) (bd : Nat) (Q : Option Value → Heap → Prop) (T : State) (g : JFrame) : Prop :=
  ∃ v T' h' k n, Pos p l e R s m args below meth c Z own ws bd T' h' k n ∧ (meth.sig.returnType = none → v = none) ∧ Q v h' ∧
    ∀ fs, (∀ (f : JFrame) (acts : List Action), f.method = m → f.locked = none → f.entered = [] → (doReturn e (T'.setTop f) acts v).1 = T'.setFrames fs) → Steps p.tables e below (T.setTop g) (T'.setFrames fs)
/-- a method's contract, asked at one heap and one row of arguments; it writes what lies in 'ws' and what it makes, alone -/
def OMet (l : Launch) (y : MethodName) (bytes : ByteArray) (maxL : Nat) (ret : Option FieldType) (wd : List Cond) (rm : Room) (Z : State) (h : Heap) (ws : List Addr) (as' : Array Value) (Q : Option Value → Heap → Prop) : Prop :=
  MetFree l y (head1 (Cond.code y bytes maxL ret :: wd) rm) (fun a U => a = as' ∧ Z.Warmed39 U.vm ∧ U.heap = h) (fun _ _ _ _ _ => True) (fun _ U o U' => ∃ v L, o = .returned v ∧ (Q v U'.heap ∧ Fw ws h.size L ∧ Keep h U'.heap ws) ∧ FrameEnd U o U' L rm.cells rm.slots)
section A
variable {p : Program} {l : Launch} {e : Env} {R : Room} {s : State} {m : MethodId} {args : Array Value} {below : List Frame} {meth : Method} {c : Code} {Z : State} {own : String} {ws : List Addr} {bd : Nat} {T : State} {h h' : Heap} {k n : Nat} {a0 : Array Value} {Q : Option Value → Heap → Prop} {pc pc' : Nat} {Ls : Array Slot} {st : List Value} {T₁ : State} {g₁ : JFrame}
theorem Pos.here (P : Pos p l e R s m args below meth c Z own ws bd T h k n) : At T m c below := by obtain ⟨⟨_, X, _⟩, _⟩ := P; exact X.here
theorem Pos.x (P : Pos p l e R s m args below meth c Z own ws bd T h k n) : p.tables.exec = Jvm.exec := P.2.2.2.2.1
theorem Pos.ge (P : Pos p l e R s m args below meth c Z own ws bd T h k n) : bd ≤ h.size := P.2.2.1
theorem Pos.wa (P : Pos p l e R s m args below meth c Z own ws bd T h k n) : Z.Warmed39 s.vm := P.2.2.2.1
theorem Pos.more (P : Pos p l e R s m args below meth c Z own ws bd T h k n) {k' n' : Nat} (hk : k ≤ k') (hn : n ≤ n') (hk' : k' ≤ R.cells) (hn' : n' ≤ R.slots) : Pos p l e R s m args below meth c Z own ws bd T h k' n' := by
  obtain ⟨⟨L, X, N'⟩, a, b, c, d, f, g, _, _⟩ := P
  exact ⟨⟨L, X.more hk hn, N'⟩, a, b, c, d, f, g, hk', hn'⟩
theorem Pos.cast {k' n' : Nat} (P : Pos p l e R s m args below meth c Z own ws bd T h k n) (hk : k = k') (hn : n = n') : Pos p l e R s m args below meth c Z own ws bd T h k' n' := by subst hk hn; exact P
theorem Done.step {T' : State} {g g' : JFrame} (hs : ∀ t, Steps p.tables e below (T'.setTop g') t → Steps p.tables e below (T.setTop g) t) (D : Done p l e R s m args below meth c Z own ws bd Q T' g') : Done p l e R s m args below meth c Z own ws bd Q T g := by
  obtain ⟨v, T1, h1, k1, n1, P, hv, hq, st⟩ := D
  exact ⟨v, T1, h1, k1, n1, P, hv, hq, fun fs hl => hs _ (st fs hl)⟩
theorem Done.stepL {st' : List Value} (hs : ∀ t, Steps p.tables e below (T.setTop (mkF m pc' Ls st')) t → Steps p.tables e below (T.setTop (mkF m pc Ls st)) t) (D : Done p l e R s m args below meth c Z own ws bd Q T (mkF m pc' Ls st')) : Done p l e R s m args below meth c Z own ws bd Q T (mkF m pc Ls st) := Done.step hs D
theorem Done.imp {Q' : Option Value → Heap → Prop} {g : JFrame} (D : Done p l e R s m args below meth c Z own ws bd Q T g) (q : ∀ v h, Q v h → Q' v h) : Done p l e R s m args below meth c Z own ws bd Q' T g := by
  obtain ⟨v, T1, h1, k1, n1, P, hv, hq, st⟩ := D
  exact ⟨v, T1, h1, k1, n1, P, hv, q _ _ hq, st⟩
theorem keepOf {u : State} {L : List Loc} (q : s.sameButNew u L k n) (F : Fw ws s.heap.size L) : Keep s.heap u.heap ws := by
  obtain ⟨-, h1, -, -, -, H⟩ := q
  refine ⟨h1, fun x cl hx hn => ?_, fun x cl hx => ?_⟩
  · obtain ⟨c', e1, e2, e3, e4⟩ := H x cl hx
    have hlt := (Array.getElem?_eq_some_iff.mp hx).1
    have es : c'.slots = cl.slots := by
      apply Array.ext_getElem?
      intro i
      exact e4 i fun hm => (F _ hm).elim (fun z => hn z) (fun z => absurd z (Nat.not_le.mpr hlt))
    rw [e1, e2, es]
  · obtain ⟨c', e1, e2, e3, e4⟩ := H x cl hx
    exact ⟨c', e1, by rw [e2], by rw [e2], e3⟩
/-- a contract out of a walk -/
theorem OMet.of {y : MethodName} {bytes : ByteArray} {maxL : Nat} {ret : Option FieldType} {wd : List Cond} {rm : Room} {as' : Array Value} {nm : String} (hy : plainFor y = true) (hyc : y.cls = own) (hyn : y.name = nm)
    (H : ∀ p e s m below meth c s₁, Pos p l e rm s m as' below meth c Z own ws h.size s₁ h 0 0 → c.code = bytes → c.maxLocals = maxL → meth.sig.returnType = ret → meth.name = nm → Done p l e rm s m as' below meth c Z own ws h.size Q s₁ (entryFrame m as' maxL)) :
    OMet l y bytes maxL ret wd rm Z h ws as' Q := by
  subst hyc hyn
  refine MetFree.of_bodySF hy hisR ?_
  intro p e s m args below meth c s₁ Bd hml hP hK
  obtain ⟨rfl, hZ, hh⟩ := hP
  have hown : s.vm.findClass y.cls = some m.cls := findClass_of_methodNamed Bd.named
  have hnm := (name_of_methodNamed Bd.named Bd.method).1
  have X0 : Stand p l e rm s m args below meth c s₁ [] 0 0 := Stand.of_body Bd
  have e0 : s₁.heap = h := by rw [← hh, Bd.state]; rfl
  obtain ⟨v, T', h', k, n, ⟨⟨L, X, N⟩, eT, _, _, _, _, hlk, hk, hnn⟩, hv, hq, st⟩ := H p e s m below meth c s₁ ⟨⟨[], X0, Fw.nil _ _⟩, e0, Nat.le_refl _, hZ, Bd.exec, hown, Bd.notSynchronized, Nat.zero_le _, Nat.zero_le _⟩ Bd.bytes hml Bd.returns hnm
  obtain ⟨fs, hr, hrun, hended, hW, hsame⟩ := X.leave (v := v) hv hlk
  refine ⟨_, _, st fs hr, hrun, hended, v, L, rfl, ⟨?_, N, ?_⟩, ⟨_, rfl⟩, hW, hsame.mono hk hnn⟩
  · rw [show (T'.setFrames fs).heap = T'.heap from rfl, eT]
    exact hq
  · subst hh
    have q := keepOf hsame N
    exact q
/-! returns -/
theorem wRet {w : Value} {t : FieldType} {i : Instr} (P : Pos p l e R s m args below meth c Z own ws bd T h k n) (hret : meth.sig.returnType = some t) (hn : narrow t w = w)
    (hi : (i = .ireturn ∧ (t = .int ∨ t = .boolean ∨ t = .byte ∨ t = .char ∨ t = .short) ∧ ∃ z, w = .int z) ∨ (i = .lreturn ∧ t = .long ∧ ∃ z, w = .long z) ∨ (i = .dreturn ∧ t = .double ∧ ∃ z, w = .double z) ∨ (i = .freturn ∧ t = .float ∧ ∃ z, w = .float z) ∨ (i = .areturn ∧ t.isReference = true ∧ w.isRef = true))
    (hd : decode c.code pc = .ok (i, 1)) (hq : Q (some w) h) : Done p l e R s m args below meth c Z own ws bd Q T (mkF m pc Ls (w :: st)) := by
  obtain ⟨⟨L, X, N'⟩, r⟩ := id P
  exact ⟨some w, T, h, k, n, P, (fun q => by rw [hret] at q; cases q), hq, fun fs hl => retOut X P.x hret hn hi hd hl⟩
theorem wRetI {z : Int32} (P : Pos p l e R s m args below meth c Z own ws bd T h k n) (hret : meth.sig.returnType = some .int) (hd : decode c.code pc = .ok (.ireturn, 1)) (hq : Q (some (.int z)) h) : Done p l e R s m args below meth c Z own ws bd Q T (mkF m pc Ls (.int z :: st)) :=
  wRet P hret rfl (Or.inl ⟨rfl, Or.inl rfl, z, rfl⟩) hd hq
theorem wRetJ {z : Int64} (P : Pos p l e R s m args below meth c Z own ws bd T h k n) (hret : meth.sig.returnType = some .long) (hd : decode c.code pc = .ok (.lreturn, 1)) (hq : Q (some (.long z)) h) : Done p l e R s m args below meth c Z own ws bd Q T (mkF m pc Ls (.long z :: st)) :=
  wRet P hret rfl (Or.inr (Or.inl ⟨rfl, rfl, z, rfl⟩)) hd hq
theorem wRetD {z : UInt64} (P : Pos p l e R s m args below meth c Z own ws bd T h k n) (hret : meth.sig.returnType = some .double) (hd : decode c.code pc = .ok (.dreturn, 1)) (hq : Q (some (.double z)) h) : Done p l e R s m args below meth c Z own ws bd Q T (mkF m pc Ls (.double z :: st)) :=
  wRet P hret rfl (Or.inr (Or.inr (Or.inl ⟨rfl, rfl, z, rfl⟩))) hd hq
theorem wRetA {w : Value} {t : FieldType} (P : Pos p l e R s m args below meth c Z own ws bd T h k n) (hret : meth.sig.returnType = some t) (ht : t.isReference = true) (hw : w.isRef = true) (hd : decode c.code pc = .ok (.areturn, 1)) (hq : Q (some w) h) : Done p l e R s m args below meth c Z own ws bd Q T (mkF m pc Ls (w :: st)) :=
  wRet P hret (by cases w <;> first | rfl | (simp [Value.isRef] at hw; done) | (cases t <;> first | rfl | (simp [FieldType.isReference] at ht))) (Or.inr (Or.inr (Or.inr (Or.inr ⟨rfl, ht, hw⟩)))) hd hq
theorem wRetN {z : Int32} {t : FieldType} (P : Pos p l e R s m args below meth c Z own ws bd T h k n) (hret : meth.sig.returnType = some t) (ht : t = .boolean ∨ t = .byte ∨ t = .char ∨ t = .short) (hd : decode c.code pc = .ok (.ireturn, 1)) (hq : Q (some (.int (nar t z))) h) : Done p l e R s m args below meth c Z own ws bd Q T (mkF m pc Ls (.int z :: st)) := by
  obtain ⟨⟨L, X, N'⟩, r⟩ := id P
  exact ⟨_, T, h, k, n, P, (fun q => by rw [hret] at q; cases q), hq, fun fs hl => retN X P.x hret ht hd hl⟩
theorem wRetV (P : Pos p l e R s m args below meth c Z own ws bd T h k n) (hret : meth.sig.returnType = none) (hd : decode c.code pc = .ok (.return_, 1)) (hq : Q none h) : Done p l e R s m args below meth c Z own ws bd Q T (mkF m pc Ls []) := by
  obtain ⟨⟨L, X, N'⟩, r⟩ := id P
  exact ⟨none, T, h, k, n, P, fun _ => rfl, hq, fun fs hl => X.returnOut P.x hret hd hl⟩
/-! fields -/
theorem wGet {R0 O nm d host : String} {index : Nat} {a : Addr} {v : Value} (P : Pos p l e R s m args below meth c Z own ws bd T h k n) (w : (Cond.fieldLink own index R0 nm d).before a0 Z = true ∨ (Cond.fieldLinkNest own index R0 nm d host).before a0 Z = true) (via : Via Z R0 O nm d) (F : Fld Z h a O nm d v)
    (hd : decode c.code pc = .ok (.getfield index, 3)) (hp : pc + 3 = pc') (K : ∀ T', Pos p l e R s m args below meth c Z own ws bd T' h k n → Done p l e R s m args below meth c Z own ws bd Q T' (mkF m pc' Ls (v :: st))) : Done p l e R s m args below meth c Z own ws bd Q T (mkF m pc Ls (.ref a :: st)) := by
  obtain ⟨⟨L, X, N'⟩, eT, b, hZ, hx, ho, r⟩ := id P
  obtain ⟨T', X', e', stp⟩ := getF X hx hZ ho w via eT F (g := mkF m pc Ls (.ref a :: st)) rfl rfl hd
  subst hp
  exact Done.step stp (K T' ⟨⟨L, X', N'⟩, e', b, hZ, hx, ho, r⟩)
theorem wGetS {R0 O nm d host : String} {index : Nat} {v : Value} (P : Pos p l e R s m args below meth c Z own ws bd T h k n) (w : (Cond.fieldLink own index R0 nm d).before a0 Z = true ∨ (Cond.fieldLinkNest own index R0 nm d host).before a0 Z = true) (via : Via Z R0 O nm d) (F : Sta Z h O nm d v)
    (hd : decode c.code pc = .ok (.getstatic index, 3)) (hp : pc + 3 = pc') (K : ∀ T', Pos p l e R s m args below meth c Z own ws bd T' h k n → Done p l e R s m args below meth c Z own ws bd Q T' (mkF m pc' Ls (v :: st))) : Done p l e R s m args below meth c Z own ws bd Q T (mkF m pc Ls st) := by
  obtain ⟨⟨L, X, N'⟩, eT, b, hZ, hx, ho, r⟩ := id P
  obtain ⟨T', X', e', stp⟩ := getS2 X hx hZ ho w via eT F (g := mkF m pc Ls st) rfl hd
  subst hp
  exact Done.step stp (K T' ⟨⟨L, X', N'⟩, e', b, hZ, hx, ho, r⟩)
theorem wPut {R0 O nm d host C : String} {index kk : Nat} {ty : FieldType} {a : Addr} {v old : Value} (P : Pos p l e R s m args below meth c Z own ws bd T h k n) (w : (Cond.fieldLink own index R0 nm d).before a0 Z = true ∨ (Cond.fieldLinkNest own index R0 nm d host).before a0 Z = true) (via : Via Z R0 O nm d) (F : Fld Z h a O nm d old) (E : Exa Z h a C)
    (La : (Cond.lays C O nm d).before a0 Z = true ∨ ((Cond.laysFinal C O nm d).before a0 Z = true ∧ own = O ∧ meth.name = "<init>")) (wi : (Cond.instantiable C kk).before a0 Z = true) (hty : parseFieldDescriptor d = some ty) (hn : narrow ty v = v) (hf : fits ty v = true) (hge : a ∈ ws ∨ bd ≤ a)
    (hd : decode c.code pc = .ok (.putfield index, 3)) (hp : pc + 3 = pc') (K : ∀ T' h', Pos p l e R s m args below meth c Z own ws bd T' h' k n → Wr h h' a (Jvm.RoadKit.slotOf Z O nm d) v → Fld Z h' a O nm d v → Done p l e R s m args below meth c Z own ws bd Q T' (mkF m pc' Ls st)) : Done p l e R s m args below meth c Z own ws bd Q T (mkF m pc Ls (v :: .ref a :: st)) := by
  obtain ⟨⟨L, X, N'⟩, eT, b, hZ, hx, ho, r⟩ := id P
  obtain ⟨T', h', X', e', W, stp⟩ := putF X hx hZ ho w via eT F E La wi hty hn hf (g := mkF m pc Ls (v :: .ref a :: st)) rfl rfl hd
  subst hp
  exact Done.step stp (K T' h' ⟨⟨_, X', Fw.snoc N' hge⟩, e', by rw [W.size]; exact b, hZ, hx, ho, r⟩ W (F.same W))
theorem wPutN {R0 O nm d C : String} {index kk : Nat} {ty : FieldType} {a : Addr} {x x' : Int32} {old : Value} (P : Pos p l e R s m args below meth c Z own ws bd T h k n) (w : (Cond.fieldLink own index R0 nm d).before a0 Z = true) (via : Via Z R0 O nm d) (F : Fld Z h a O nm d old) (E : Exa Z h a C)
    (La : (Cond.lays C O nm d).before a0 Z = true ∨ ((Cond.laysFinal C O nm d).before a0 Z = true ∧ own = O ∧ meth.name = "<init>")) (wi : (Cond.instantiable C kk).before a0 Z = true) (hty : parseFieldDescriptor d = some ty) (hn : narrow ty (.int x) = .int x') (hf : fits ty (.int x') = true) (hge : a ∈ ws ∨ bd ≤ a)
    (hd : decode c.code pc = .ok (.putfield index, 3)) (hp : pc + 3 = pc') (K : ∀ T' h', Pos p l e R s m args below meth c Z own ws bd T' h' k n → Wr h h' a (Jvm.RoadKit.slotOf Z O nm d) (.int x') → Fld Z h' a O nm d (.int x') → Done p l e R s m args below meth c Z own ws bd Q T' (mkF m pc' Ls st)) : Done p l e R s m args below meth c Z own ws bd Q T (mkF m pc Ls (.int x :: .ref a :: st)) := by
  obtain ⟨⟨L, X, N'⟩, eT, b, hZ, hx, ho, r⟩ := id P
  obtain ⟨T', h', X', e', W, stp⟩ := putFN X hx hZ ho w via eT F E La wi (v' := .int x') hty hn hf (g := mkF m pc Ls (.int x :: .ref a :: st)) rfl rfl hd
  subst hp
  exact Done.step stp (K T' h' ⟨⟨_, X', Fw.snoc N' hge⟩, e', by rw [W.size]; exact b, hZ, hx, ho, r⟩ W (F.same W))
/-! objects and arrays -/
theorem wNew {C : String} {index nn : Nat} (P : Pos p l e R s m args below meth c Z own ws bd T h k n) (w : (Cond.classLink own index C).before a0 Z = true) (wi : (Cond.instantiable C nn).before a0 Z = true) (wz : (Cond.initialized C).before a0 Z = true)
    (hd : decode c.code pc = .ok (.new index, 3)) (hp : pc + 3 = pc') (hc : k + 1 ≤ R.cells) (hl : n + nn ≤ R.slots) {k' n' : Nat} (hk' : k + 1 = k') (hn' : n + nn = n')
    (K : ∀ T' h' a, a = h.size → h.size < h'.size → Pos p l e R s m args below meth c Z own ws bd T' h' k' n' → Ext h h' → Exa Z h' a C → (∀ {O nm d : String} {ty : FieldType}, Laid Z a0 C O nm d → parseFieldDescriptor d = some ty → Fld Z h' a O nm d (defaultValue ty)) → Done p l e R s m args below meth c Z own ws bd Q T' (mkF m pc' Ls (.ref a :: st))) : Done p l e R s m args below meth c Z own ws bd Q T (mkF m pc Ls st) := by
  obtain ⟨⟨L, X, N'⟩, eT, b, hZ, hx, ho, hlk, _, _⟩ := id P
  obtain ⟨T', h', X', e', E, A, D, -, stp⟩ := newO X hx hZ ho w wi wz eT (g := mkF m pc Ls st) rfl hd hc hl
  subst hp hk' hn'
  exact Done.step stp (K T' h' h.size rfl A.lt ⟨⟨L, X', N'⟩, e', Nat.le_trans b E.1, hZ, hx, ho, hlk, hc, hl⟩ E A D)
/-- an array by its places' values -/
def Ar (Z : State) (h : Heap) (a : Addr) (ty : FieldType) (n : Nat) (f : Nat → Value) : Prop := ∃ cl : Cell, Arr Z h a cl ty ∧ cl.slots.size = n ∧ n < 2147483648 ∧ ∀ i, i < n → cl.slots[i]? = some (f i)
def oupd {α : Type} (f : Nat → α) (i : Nat) (v : α) : Nat → α := fun j => if j = i then v else f j
theorem oupd_same {α : Type} (f : Nat → α) (i : Nat) (v : α) : oupd f i v i = v := if_pos rfl
theorem oupd_ne {α : Type} {f : Nat → α} {i j : Nat} {v : α} (q : j ≠ i) : oupd f i v j = f j := if_neg q
theorem Ar.lt {a : Addr} {ty : FieldType} {N : Nat} {f : Nat → Value} (A : Ar Z h a ty N f) : a < h.size := by obtain ⟨c, A, -⟩ := A; exact A.lt
theorem Ar.ltN {a : Addr} {ty : FieldType} {N : Nat} {f : Nat → Value} (A : Ar Z h a ty N f) : @LT.lt Nat instLTNat a h.size := A.lt
theorem exaN {a : Addr} {C : String} (E : Exa Z h a C) : @LT.lt Nat instLTNat a h.size := E.lt
theorem Ar.ext {a : Addr} {ty : FieldType} {N : Nat} {f : Nat → Value} (A : Ar Z h a ty N f) (E : Ext h h') : Ar Z h' a ty N f := by obtain ⟨c, A, r⟩ := A; exact ⟨c, A.ext E, r⟩
theorem Ar.other {a b : Addr} {sl : Nat} {v : Value} {ty : FieldType} {N : Nat} {f : Nat → Value} (A : Ar Z h b ty N f) (W : Wr h h' a sl v) (q : b ≠ a) : Ar Z h' b ty N f := by obtain ⟨c, A, r⟩ := A; exact ⟨c, A.other W q, r⟩
theorem Ar.keep {a : Addr} {ws : List Addr} {ty : FieldType} {N : Nat} {f : Nat → Value} (A : Ar Z h a ty N f) (K : Keep h h' ws) (q : a ∉ ws) : Ar Z h' a ty N f := by obtain ⟨c, A, r⟩ := A; exact ⟨c, ⟨K.2.1 a c A.1 q, A.2⟩, r⟩
theorem Ar.len {a : Addr} {ty : FieldType} {N : Nat} {f : Nat → Value} (A : Ar Z h a ty N f) : N < 2147483648 := by obtain ⟨c, A, r1, r2, -⟩ := A; exact r2
theorem Ar.congr {a : Addr} {ty : FieldType} {N : Nat} {f g : Nat → Value} (A : Ar Z h a ty N f) (q : ∀ i, i < N → f i = g i) : Ar Z h a ty N g := by obtain ⟨c, A, r1, r2, r3⟩ := A; exact ⟨c, A, r1, r2, fun i hi => by rw [← q i hi]; exact r3 i hi⟩
theorem in_of {cl : Cell} {N i : Nat} {j : Int32} (S : cl.slots.size = N) (hj : j.toInt = (i : Int)) (hi : i < N) : ¬ (j < 0 ∨ cl.slots.size ≤ j.toNatClampNeg) ∧ j.toNatClampNeg = i := by
  have e : j.toNatClampNeg = i := by rw [Int32.toNatClampNeg, hj]; omega
  refine ⟨?_, e⟩
  rw [S, e, Int32.lt_iff_toInt_lt, hj, show (0 : Int32).toInt = 0 from rfl]
  omega
theorem toI32 {N : Nat} (h : N < 2147483648) : (N.toInt32).toInt = (N : Int) := by
  rw [show N.toInt32 = Int32.ofNat N from rfl, Int32.toInt_ofNat_of_lt (by omega)]
theorem wNewA {aty : ArrayType} {z : Int32} {N cap : Nat} (P : Pos p l e R s m args below meth c Z own ws bd T h k n) (w : (Cond.arrayClass (newarray.typeOf aty)).before a0 Z = true) (hd : decode c.code pc = .ok (.newarray aty, 2)) (hp : pc + 2 = pc') (hz : z.toInt = (N : Int)) (hcap : N ≤ cap) (hb : cap * 8 ≤ 536870912) (hc : k + 1 ≤ R.cells) (hl : n + cap ≤ R.slots)
    {ad : String} (had : "[" ++ (newarray.typeOf aty).toString = ad) {ty : FieldType} {dv : Value} (hty : newarray.typeOf aty = ty) (hdv : defaultValue ty = dv) {k' n' : Nat} (hk' : k + 1 = k') (hn' : n + cap = n')
    (K : ∀ T' h' a, a = h.size → h.size < h'.size → Pos p l e R s m args below meth c Z own ws bd T' h' k' n' → Ext h h' → Ar Z h' a ty N (fun _ => dv) → Exa Z h' a ad → Done p l e R s m args below meth c Z own ws bd Q T' (mkF m pc' Ls (.ref a :: st))) : Done p l e R s m args below meth c Z own ws bd Q T (mkF m pc Ls (.int z :: st)) := by
  obtain ⟨⟨L, X, N'⟩, eT, b, hZ, hx, ho, hlk, _, _⟩ := id P
  have hz0 : ¬ z < 0 := by rw [Int32.lt_iff_toInt_lt, hz, show (0 : Int32).toInt = 0 from rfl]; omega
  have hzn : z.toNatClampNeg = N := by rw [Int32.toNatClampNeg, hz]; omega
  have hN := z.toInt_lt
  obtain ⟨T', h', kA, X', e', E, A, Ex, stp⟩ := newPE X hx hZ w eT (g := mkF m pc Ls (.int z :: st)) rfl hd rfl hz0 (by rw [hzn]; exact hcap) hb hc hl had
  subst hp hk' hn' hty hdv
  refine Done.step stp (K T' h' h.size rfl A.lt ⟨⟨L, X', N'⟩, e', Nat.le_trans b E.1, hZ, hx, ho, hlk, hc, hl⟩ E ⟨_, A, by rw [sz_new, hzn], by omega, fun i hi => ?_⟩ Ex)
  simp [newA, hzn, hi]
theorem wLen {ty : FieldType} {N : Nat} {f : Nat → Value} {a : Addr} (P : Pos p l e R s m args below meth c Z own ws bd T h k n) (A : Ar Z h a ty N f) {z : Int32} (hz : z.toInt = (N : Int)) (hd : decode c.code pc = .ok (.arraylength, 1)) (hp : pc + 1 = pc')
    (K : Done p l e R s m args below meth c Z own ws bd Q T (mkF m pc' Ls (.int z :: st))) : Done p l e R s m args below meth c Z own ws bd Q T (mkF m pc Ls (.ref a :: st)) := by
  obtain ⟨⟨L, X, N'⟩, eT, b, hZ, hx, ho, hlk, _, _⟩ := id P
  obtain ⟨cl, Ar, S, hN, H⟩ := A
  subst hp
  refine Done.step (fun t kk => X.arraylength hx (by rw [eT]; exact Ar.1) (State.isArrayOf_alike hZ.alike Ar.2.1) (g := mkF m pc Ls (.ref a :: st)) rfl rfl hd t ?_) K
  rw [S, show N.toInt32 = z from Int32.toInt_inj.mp (by rw [toI32 hN, hz])]
  exact kk
theorem wDaload {N i : Nat} {f : Nat → Value} {a : Addr} {j : Int32} (P : Pos p l e R s m args below meth c Z own ws bd T h k n) (A : Ar Z h a .double N f) (hj : j.toInt = (i : Int)) (hi : i < N) {v : Value} (hv : f i = v) (hd : decode c.code pc = .ok (.daload, 1)) (hp : pc + 1 = pc')
    (K : Done p l e R s m args below meth c Z own ws bd Q T (mkF m pc' Ls (v :: st))) : Done p l e R s m args below meth c Z own ws bd Q T (mkF m pc Ls (.int j :: .ref a :: st)) := by
  obtain ⟨⟨L, X, N'⟩, eT, b, hZ, hx, ho, hlk, _, _⟩ := id P
  obtain ⟨cl, Ar, S, hN, H⟩ := A
  obtain ⟨q1, q2⟩ := in_of S hj hi
  subst hp hv
  exact Done.step (fun t kk => X.daload hx (by rw [eT]; exact Ar.1) (State.isArrayOf_alike hZ.alike Ar.2.1) Ar.2.2 q1 (by rw [q2]; exact H i hi) (g := mkF m pc Ls (.int j :: .ref a :: st)) rfl rfl hd t kk) K
theorem wIaload {N i : Nat} {f : Nat → Value} {a : Addr} {j : Int32} (P : Pos p l e R s m args below meth c Z own ws bd T h k n) (A : Ar Z h a .int N f) (hj : j.toInt = (i : Int)) (hi : i < N) {v : Value} (hv : f i = v) (hd : decode c.code pc = .ok (.iaload, 1)) (hp : pc + 1 = pc')
    (K : Done p l e R s m args below meth c Z own ws bd Q T (mkF m pc' Ls (v :: st))) : Done p l e R s m args below meth c Z own ws bd Q T (mkF m pc Ls (.int j :: .ref a :: st)) := by
  obtain ⟨⟨L, X, N'⟩, eT, b, hZ, hx, ho, hlk, _, _⟩ := id P
  obtain ⟨cl, Ar, S, hN, H⟩ := A
  obtain ⟨q1, q2⟩ := in_of S hj hi
  subst hp hv
  exact Done.step (fun t kk => X.iaload hx (by rw [eT]; exact Ar.1) (State.isArrayOf_alike hZ.alike Ar.2.1) Ar.2.2 q1 (by rw [q2]; exact H i hi) (g := mkF m pc Ls (.int j :: .ref a :: st)) rfl rfl hd t kk) K
theorem wCaload {N i : Nat} {f : Nat → Value} {a : Addr} {j : Int32} (P : Pos p l e R s m args below meth c Z own ws bd T h k n) (A : Ar Z h a .char N f) (hj : j.toInt = (i : Int)) (hi : i < N) {v : Value} (hv : f i = v) (hd : decode c.code pc = .ok (.caload, 1)) (hp : pc + 1 = pc')
    (K : Done p l e R s m args below meth c Z own ws bd Q T (mkF m pc' Ls (v :: st))) : Done p l e R s m args below meth c Z own ws bd Q T (mkF m pc Ls (.int j :: .ref a :: st)) := by
  obtain ⟨⟨L, X, N'⟩, eT, b, hZ, hx, ho, hlk, _, _⟩ := id P
  obtain ⟨cl, Ar, S, hN, H⟩ := A
  obtain ⟨q1, q2⟩ := in_of S hj hi
  subst hp hv
  exact Done.step (fun t kk => X.caload hx (by rw [eT]; exact Ar.1) (State.isArrayOf_alike hZ.alike Ar.2.1) Ar.2.2 q1 (by rw [q2]; exact H i hi) (g := mkF m pc Ls (.int j :: .ref a :: st)) rfl rfl hd t kk) K
theorem wAaload {N i : Nat} {f : Nat → Value} {a : Addr} {j : Int32} {ty : FieldType} (P : Pos p l e R s m args below meth c Z own ws bd T h k n) (A : Ar Z h a ty N f) (hty : ty.isReference = true) (hj : j.toInt = (i : Int)) (hi : i < N) {v : Value} (hv : f i = v) (hd : decode c.code pc = .ok (.aaload, 1)) (hp : pc + 1 = pc')
    (K : Done p l e R s m args below meth c Z own ws bd Q T (mkF m pc' Ls (v :: st))) : Done p l e R s m args below meth c Z own ws bd Q T (mkF m pc Ls (.int j :: .ref a :: st)) := by
  obtain ⟨⟨L, X, N'⟩, eT, b, hZ, hx, ho, hlk, _, _⟩ := id P
  obtain ⟨cl, Ar, S, hN, H⟩ := A
  obtain ⟨q1, q2⟩ := in_of S hj hi
  subst hp hv
  exact Done.step (fun t kk => X.aaload hx (by rw [eT]; exact Ar.1) (State.isArrayOf_alike hZ.alike Ar.2.1) hty Ar.2.2 q1 (by rw [q2]; exact H i hi) (g := mkF m pc Ls (.int j :: .ref a :: st)) rfl rfl hd t kk) K
theorem Ar.set {cl : Cell} {a : Addr} {ty : FieldType} {N i : Nat} {f : Nat → Value} {v : Value} (A : Arr Z h a cl ty) (S : cl.slots.size = N) (hN : N < 2147483648) (H : ∀ i, i < N → cl.slots[i]? = some (f i)) (hi : i < N) (W : Wr h h' a i v) : Ar Z h' a ty N (oupd f i v) := by
  refine ⟨cl.setSlot i v, A.same W, by rw [sz_set]; exact S, hN, fun j hj => ?_⟩
  by_cases q : j = i
  · subst q; rw [oupd_same]; exact Cell.slots_setSlot_self v (by omega)
  · rw [oupd_ne q, Cell.slots_setSlot_ne v (Ne.symm q)]; exact H j hj
theorem wDastore {N i : Nat} {f : Nat → UInt64} {a : Addr} {j : Int32} {x : UInt64} (P : Pos p l e R s m args below meth c Z own ws bd T h k n) (A : Ar Z h a .double N (fun i => .double (f i))) (hj : j.toInt = (i : Int)) (hi : i < N) (hge : a ∈ ws ∨ bd ≤ a) (hd : decode c.code pc = .ok (.dastore, 1)) (hp : pc + 1 = pc')
    (K : ∀ T' h', Pos p l e R s m args below meth c Z own ws bd T' h' k n → Wr h h' a i (.double x) → Ar Z h' a .double N (fun j => .double (oupd f i x j)) → Done p l e R s m args below meth c Z own ws bd Q T' (mkF m pc' Ls st)) : Done p l e R s m args below meth c Z own ws bd Q T (mkF m pc Ls (.double x :: .int j :: .ref a :: st)) := by
  obtain ⟨⟨L, X, N'⟩, eT, b, hZ, hx, ho, r⟩ := id P
  obtain ⟨cl, Ar', S, hN, H⟩ := A
  obtain ⟨q1, q2⟩ := in_of S hj hi
  obtain ⟨T', h', X', e', W, stp⟩ := stD X hx hZ eT Ar' q1 (g := mkF m pc Ls (.double x :: .int j :: .ref a :: st)) rfl rfl hd
  subst hp
  rw [q2] at W
  refine Done.step stp (K T' h' ⟨⟨_, X', Fw.snoc N' hge⟩, e', by rw [W.size]; exact b, hZ, hx, ho, r⟩ W ((Ar.set Ar' S hN H hi W).congr fun j _ => ?_))
  unfold oupd; split <;> rfl
theorem wIastore {N i : Nat} {f : Nat → Int32} {a : Addr} {j : Int32} {x : Int32} (P : Pos p l e R s m args below meth c Z own ws bd T h k n) (A : Ar Z h a .int N (fun i => .int (f i))) (hj : j.toInt = (i : Int)) (hi : i < N) (hge : a ∈ ws ∨ bd ≤ a) (hd : decode c.code pc = .ok (.iastore, 1)) (hp : pc + 1 = pc')
    (K : ∀ T' h', Pos p l e R s m args below meth c Z own ws bd T' h' k n → Wr h h' a i (.int x) → Ar Z h' a .int N (fun j => .int (oupd f i x j)) → Done p l e R s m args below meth c Z own ws bd Q T' (mkF m pc' Ls st)) : Done p l e R s m args below meth c Z own ws bd Q T (mkF m pc Ls (.int x :: .int j :: .ref a :: st)) := by
  obtain ⟨⟨L, X, N'⟩, eT, b, hZ, hx, ho, r⟩ := id P
  obtain ⟨cl, Ar', S, hN, H⟩ := A
  obtain ⟨q1, q2⟩ := in_of S hj hi
  obtain ⟨T', h', X', e', W, stp⟩ := stI X hx hZ eT Ar' q1 (g := mkF m pc Ls (.int x :: .int j :: .ref a :: st)) rfl rfl hd
  subst hp
  rw [q2] at W
  refine Done.step stp (K T' h' ⟨⟨_, X', Fw.snoc N' hge⟩, e', by rw [W.size]; exact b, hZ, hx, ho, r⟩ W ((Ar.set Ar' S hN H hi W).congr fun j _ => ?_))
  unfold oupd; split <;> rfl
theorem wCastore {N i : Nat} {f : Nat → Int32} {a : Addr} {j : Int32} {x : Int32} (P : Pos p l e R s m args below meth c Z own ws bd T h k n) (A : Ar Z h a .char N (fun i => .int (f i))) (hj : j.toInt = (i : Int)) (hi : i < N) (hge : a ∈ ws ∨ bd ≤ a) (hd : decode c.code pc = .ok (.castore, 1)) (hp : pc + 1 = pc')
    (K : ∀ T' h', Pos p l e R s m args below meth c Z own ws bd T' h' k n → Wr h h' a i (.int (nar .char x)) → Ar Z h' a .char N (fun j => .int (oupd f i (nar .char x) j)) → Done p l e R s m args below meth c Z own ws bd Q T' (mkF m pc' Ls st)) : Done p l e R s m args below meth c Z own ws bd Q T (mkF m pc Ls (.int x :: .int j :: .ref a :: st)) := by
  obtain ⟨⟨L, X, N'⟩, eT, b, hZ, hx, ho, r⟩ := id P
  obtain ⟨cl, Ar', S, hN, H⟩ := A
  obtain ⟨q1, q2⟩ := in_of S hj hi
  obtain ⟨T', h', X', e', W, stp⟩ := stC X hx hZ eT Ar' q1 (g := mkF m pc Ls (.int x :: .int j :: .ref a :: st)) rfl rfl hd
  subst hp
  rw [q2] at W
  refine Done.step stp (K T' h' ⟨⟨_, X', Fw.snoc N' hge⟩, e', by rw [W.size]; exact b, hZ, hx, ho, r⟩ W ((Ar.set Ar' S hN H hi W).congr fun j _ => ?_))
  unfold oupd; split <;> rfl
theorem wBastore {N i : Nat} {f : Nat → Int32} {a : Addr} {j : Int32} {x : Int32} (P : Pos p l e R s m args below meth c Z own ws bd T h k n) (A : Ar Z h a .byte N (fun i => .int (f i))) (hj : j.toInt = (i : Int)) (hi : i < N) (hge : a ∈ ws ∨ bd ≤ a) (hd : decode c.code pc = .ok (.bastore, 1)) (hp : pc + 1 = pc')
    (K : ∀ T' h', Pos p l e R s m args below meth c Z own ws bd T' h' k n → Wr h h' a i (.int (nar .byte x)) → Ar Z h' a .byte N (fun j => .int (oupd f i (nar .byte x) j)) → Done p l e R s m args below meth c Z own ws bd Q T' (mkF m pc' Ls st)) : Done p l e R s m args below meth c Z own ws bd Q T (mkF m pc Ls (.int x :: .int j :: .ref a :: st)) := by
  obtain ⟨⟨L, X, N'⟩, eT, b, hZ, hx, ho, r⟩ := id P
  obtain ⟨cl, Ar', S, hN, H⟩ := A
  obtain ⟨q1, q2⟩ := in_of S hj hi
  obtain ⟨T', h', X', e', W, stp⟩ := stB X hx hZ eT Ar' q1 (g := mkF m pc Ls (.int x :: .int j :: .ref a :: st)) rfl rfl hd
  subst hp
  rw [q2] at W
  refine Done.step stp (K T' h' ⟨⟨_, X', Fw.snoc N' hge⟩, e', by rw [W.size]; exact b, hZ, hx, ho, r⟩ W ((Ar.set Ar' S hN H hi W).congr fun j _ => ?_))
  unfold oupd; split <;> rfl
theorem wZastore {N i : Nat} {f : Nat → Int32} {a : Addr} {j : Int32} {x : Int32} (P : Pos p l e R s m args below meth c Z own ws bd T h k n) (A : Ar Z h a .boolean N (fun i => .int (f i))) (hj : j.toInt = (i : Int)) (hi : i < N) (hge : a ∈ ws ∨ bd ≤ a) (hd : decode c.code pc = .ok (.bastore, 1)) (hp : pc + 1 = pc')
    (K : ∀ T' h', Pos p l e R s m args below meth c Z own ws bd T' h' k n → Wr h h' a i (.int (nar .boolean x)) → Ar Z h' a .boolean N (fun j => .int (oupd f i (nar .boolean x) j)) → Done p l e R s m args below meth c Z own ws bd Q T' (mkF m pc' Ls st)) : Done p l e R s m args below meth c Z own ws bd Q T (mkF m pc Ls (.int x :: .int j :: .ref a :: st)) := by
  obtain ⟨⟨L, X, N'⟩, eT, b, hZ, hx, ho, r⟩ := id P
  obtain ⟨cl, Ar', S, hN, H⟩ := A
  obtain ⟨q1, q2⟩ := in_of S hj hi
  obtain ⟨T', h', X', e', W, stp⟩ := stZ X hx hZ eT Ar' q1 (g := mkF m pc Ls (.int x :: .int j :: .ref a :: st)) rfl rfl hd
  subst hp
  rw [q2] at W
  refine Done.step stp (K T' h' ⟨⟨_, X', Fw.snoc N' hge⟩, e', by rw [W.size]; exact b, hZ, hx, ho, r⟩ W ((Ar.set Ar' S hN H hi W).congr fun j _ => ?_))
  unfold oupd; split <;> rfl
theorem wBaload {N i : Nat} {f : Nat → Value} {a : Addr} {j : Int32} (P : Pos p l e R s m args below meth c Z own ws bd T h k n) (A : Ar Z h a .byte N f) (hj : j.toInt = (i : Int)) (hi : i < N) {v : Value} (hv : f i = v) (hd : decode c.code pc = .ok (.baload, 1)) (hp : pc + 1 = pc')
    (K : Done p l e R s m args below meth c Z own ws bd Q T (mkF m pc' Ls (v :: st))) : Done p l e R s m args below meth c Z own ws bd Q T (mkF m pc Ls (.int j :: .ref a :: st)) := by
  obtain ⟨⟨L, X, N'⟩, eT, b, hZ, hx, ho, hlk, _, _⟩ := id P
  obtain ⟨cl, Ar, S, hN, H⟩ := A
  obtain ⟨q1, q2⟩ := in_of S hj hi
  subst hp hv
  exact Done.step (fun t kk => X.baloadBytes hx (by rw [eT]; exact Ar.1) (State.isArrayOf_alike hZ.alike Ar.2.1) Ar.2.2 q1 (by rw [q2]; exact H i hi) (g := mkF m pc Ls (.int j :: .ref a :: st)) rfl rfl hd t kk) K
theorem staKeep {C nm d : String} {v : Value} {ws' : List Addr} (F : Sta Z h C nm d v) (K : Keep h h' ws') (hw : ∀ x ∈ ws', ∀ cell : Cell, h[x]? = some cell → cell.vm.isStatics = false) : Sta Z h' C nm d v := by
  obtain ⟨cf, i, k, f, st, cell, h1, h2, h3, h4, h5, h6, r⟩ := F
  exact ⟨cf, i, k, f, st, cell, h1, h2, h3, h4, K.2.1 _ _ h5 (fun q => by rw [hw _ q _ h5] at h6; cases h6), h6, r⟩
theorem wCast {K : String} {index : Nat} {a : Addr} (P : Pos p l e R s m args below meth c Z own ws bd T h k n) (w : (Cond.classLink own index K).before a0 Z = true) (F : Ins Z h a K true) (hd : decode c.code pc = .ok (.checkcast index, 3)) (hp : pc + 3 = pc')
    (K' : ∀ T', Pos p l e R s m args below meth c Z own ws bd T' h k n → Done p l e R s m args below meth c Z own ws bd Q T' (mkF m pc' Ls (.ref a :: st))) : Done p l e R s m args below meth c Z own ws bd Q T (mkF m pc Ls (.ref a :: st)) := by
  obtain ⟨⟨L, X, N'⟩, eT, b, hZ, hx, ho, r⟩ := id P
  obtain ⟨T', X', e', stp⟩ := castY X hx hZ ho w eT F (g := mkF m pc Ls (.ref a :: st)) rfl rfl hd
  subst hp
  exact Done.step stp (K' T' ⟨⟨L, X', N'⟩, e', b, hZ, hx, ho, r⟩)
theorem wInstY {K : String} {index : Nat} {a : Addr} (P : Pos p l e R s m args below meth c Z own ws bd T h k n) (w : (Cond.classLink own index K).before a0 Z = true) (F : Ins Z h a K true) (hd : decode c.code pc = .ok (.instanceof index, 3)) (hp : pc + 3 = pc')
    (K' : ∀ T', Pos p l e R s m args below meth c Z own ws bd T' h k n → Done p l e R s m args below meth c Z own ws bd Q T' (mkF m pc' Ls (.int 1 :: st))) : Done p l e R s m args below meth c Z own ws bd Q T (mkF m pc Ls (.ref a :: st)) := by
  obtain ⟨⟨L, X, N'⟩, eT, b, hZ, hx, ho, r⟩ := id P
  obtain ⟨T', X', e', stp⟩ := instY X hx hZ ho w eT F (g := mkF m pc Ls (.ref a :: st)) rfl rfl hd
  subst hp
  exact Done.step stp (K' T' ⟨⟨L, X', N'⟩, e', b, hZ, hx, ho, r⟩)
theorem wInstN {K C : String} {index : Nat} {a : Addr} (P : Pos p l e R s m args below meth c Z own ws bd T h k n) (w : (Cond.classLink own index K).before a0 Z = true) (E : Exa Z h a C) (F : ∃ c t, Z.vm.findClass C = some c ∧ Z.vm.findClass K = some t ∧ Z.vm.assignable c t = false) (hd : decode c.code pc = .ok (.instanceof index, 3)) (hp : pc + 3 = pc')
    (K' : ∀ T', Pos p l e R s m args below meth c Z own ws bd T' h k n → Done p l e R s m args below meth c Z own ws bd Q T' (mkF m pc' Ls (.int 0 :: st))) : Done p l e R s m args below meth c Z own ws bd Q T (mkF m pc Ls (.ref a :: st)) := by
  obtain ⟨⟨L, X, N'⟩, eT, b, hZ, hx, ho, r⟩ := id P
  obtain ⟨T', X', e', stp⟩ := instNo X hx hZ ho w eT E F (g := mkF m pc Ls (.ref a :: st)) rfl rfl hd
  subst hp
  exact Done.step stp (K' T' ⟨⟨L, X', N'⟩, e', b, hZ, hx, ho, r⟩)
theorem wInst0 {index : Nat} (P : Pos p l e R s m args below meth c Z own ws bd T h k n) (hd : decode c.code pc = .ok (.instanceof index, 3)) (hp : pc + 3 = pc') (D : Done p l e R s m args below meth c Z own ws bd Q T (mkF m pc' Ls (.int 0 :: st))) : Done p l e R s m args below meth c Z own ws bd Q T (mkF m pc Ls (.null :: st)) := by
  obtain ⟨⟨L, X, N'⟩, eT, b, hZ, hx, ho, r⟩ := id P
  subst hp
  exact Done.step (Jvm.Stand.instanceofNull X hx (g := mkF m pc Ls (.null :: st)) rfl rfl hd) D
/-! calls -/
theorem wInit {index : Nat} {a : Addr} {W : Nat} (P : Pos p l e R s m args below meth c Z own ws bd T h k n) (w1 : (Cond.methodLink own index Lib.objectInit).before a0 Z = true) (w2 : (Cond.instanceMethod Lib.objectInit).before a0 Z = true) (w3 : (Cond.code Lib.objectInit ⟨#[0xb1]⟩ 1 none).before a0 Z = true) (hml : Ls.size = c.maxLocals)
    (hd : decode c.code pc = .ok (.invokespecial index, 3)) (hf : 1 ≤ R.frames) (hW : (st.map fun v => v.category).sum ≤ W) (hl : W + 12 ≤ R.locals) (hp : pc + 3 = pc')
    (K : ∀ T', Pos p l e R s m args below meth c Z own ws bd T' h k n → Done p l e R s m args below meth c Z own ws bd Q T' (mkF m pc' Ls st)) : Done p l e R s m args below meth c Z own ws bd Q T (mkF m pc Ls (.ref a :: st)) := by
  obtain ⟨⟨L, X, N'⟩, eT, b, hZ, hx, ho, r⟩ := id P
  obtain ⟨T', X', e', stp⟩ := initO X hx hZ ho w1 w2 w3 eT (g := mkF m pc Ls (.ref a :: st)) rfl hml rfl hd hf (W := W) (by show 2 * 0 + _ ≤ _; omega) hl
  subst hp
  exact Done.step stp (K T' ⟨⟨L, X', N'⟩, e', b, hZ, hx, ho, r⟩)
theorem wCallS {y : MethodName} {bytes : ByteArray} {maxL : Nat} {ret : Option FieldType} {rm : Room} {as' : Array Value} {ws' : List Addr} {Q' : Option Value → Heap → Prop} {index W : Nat} {argsL rest stk : List Value} (P : Pos p l e R s m args below meth c Z own ws bd T h k n) (M : OMet l y bytes maxL ret [] rm Z h ws' as' Q')
    (w1 : (Cond.methodLink own index y).before a0 Z = true) (w2 : (Cond.static y).before a0 Z = true) (w3 : (Cond.initialized y.cls).before a0 Z = true) (w4 : (Cond.code y bytes maxL ret).before a0 Z = true) (hy : y.cls ≠ "java/lang/invoke/MethodHandle" ∧ y.cls ≠ "java/lang/invoke/VarHandle") (hml : Ls.size = c.maxLocals)
    (hlen : ∀ sig, parseMethodDescriptor y.desc = some sig → argsL.length = sig.parameters.length) (has : (argsL).toArray = as') (hst : stk = argsL.reverse ++ rest) (hW : (rest.map fun v => v.category).sum ≤ W) (hf : rm.frames + 1 ≤ R.frames) (hl : W + (maxL + 11) + rm.locals ≤ R.locals) (hc : k + rm.cells ≤ R.cells) (hs : n + rm.slots ≤ R.slots)
    (hws : ∀ x ∈ ws', x ∈ ws ∨ bd ≤ x) (hd : decode c.code pc = .ok (.invokestatic index, 3)) (hp : pc + 3 = pc') {k' n' : Nat} (hk' : k + rm.cells = k') (hn' : n + rm.slots = n')
    (K : ∀ T' h' v, Pos p l e R s m args below meth c Z own ws bd T' h' k' n' → Keep h h' ws' → Q' v h' → Done p l e R s m args below meth c Z own ws bd Q T' (mkF m pc' Ls (v.toList ++ rest))) : Done p l e R s m args below meth c Z own ws bd Q T (mkF m pc Ls stk) := by
  obtain ⟨⟨L, X, N'⟩, eT, b, hZ, hx, ho, hlk, _, _⟩ := id P
  subst hst has hp hk' hn'
  obtain ⟨v, _, ⟨T', L', k1, n1⟩, -, X', ⟨Lc, hq, l', y', z'⟩, stp⟩ := Jvm.LawKit.callS X hx (y := y) ho (mvT hZ w1) (mvT hZ w2) (mvT hZ w3) (mvT hZ w4) hy (backOf (W := W) (Q := fun v h' L => Q' v h' ∧ Fw ws' h.size L ∧ Keep h h' ws') M hZ w4 w3 hf hl) (g := mkF m pc Ls (argsL.reverse ++ rest)) rfl hml (argsL := argsL) (rest := rest) hlen rfl (by show 2 * 0 + _ ≤ _; omega) hd (fun _ _ => ⟨rfl, eT, hc, hs⟩)
  dsimp only [Pt.U, Pt.locs, Pt.cells, Pt.slots] at X' l' y' z' stp hq
  subst l' y' z'
  exact Done.step (stp) (K T' T'.heap v ⟨⟨_, X', N'.app fun y hy => (hq.2.1 y hy).elim (fun q => hws _ q) (fun q => Or.inr (Nat.le_trans b q))⟩, rfl, Nat.le_trans b hq.2.2.1, hZ, hx, ho, hlk, hc, hs⟩ hq.2.2 hq.1)
theorem wCallI {y : MethodName} {bytes : ByteArray} {maxL : Nat} {rm : Room} {as' : Array Value} {ws' : List Addr} {Q' : Option Value → Heap → Prop} {index W : Nat} {argsL rest stk : List Value} {a : Addr} (P : Pos p l e R s m args below meth c Z own ws bd T h k n) (M : OMet l y bytes maxL none [] rm Z h ws' as' Q')
    (hyn : y.name = "<init>") (w1 : (Cond.methodLink own index y).before a0 Z = true) (w2 : (Cond.instanceMethod y).before a0 Z = true) (w3 : (Cond.initialized y.cls).before a0 Z = true) (w4 : (Cond.code y bytes maxL none).before a0 Z = true) (hy : y.cls ≠ "java/lang/invoke/MethodHandle" ∧ y.cls ≠ "java/lang/invoke/VarHandle") (hml : Ls.size = c.maxLocals)
    (hlen : ∀ sig, parseMethodDescriptor y.desc = some sig → argsL.length = sig.parameters.length) (has : (.ref a :: argsL).toArray = as') (hst : stk = argsL.reverse ++ .ref a :: rest) (hW : (rest.map fun v => v.category).sum ≤ W) (hf : rm.frames + 1 ≤ R.frames) (hl : W + (maxL + 11) + rm.locals ≤ R.locals) (hc : k + rm.cells ≤ R.cells) (hs : n + rm.slots ≤ R.slots)
    (hws : ∀ x ∈ ws', x ∈ ws ∨ bd ≤ x) (hd : decode c.code pc = .ok (.invokespecial index, 3)) (hp : pc + 3 = pc') {k' n' : Nat} (hk' : k + rm.cells = k') (hn' : n + rm.slots = n')
    (K : ∀ T' h' v, Pos p l e R s m args below meth c Z own ws bd T' h' k' n' → Keep h h' ws' → Q' v h' → Done p l e R s m args below meth c Z own ws bd Q T' (mkF m pc' Ls (v.toList ++ rest))) : Done p l e R s m args below meth c Z own ws bd Q T (mkF m pc Ls stk) := by
  obtain ⟨⟨L, X, N'⟩, eT, b, hZ, hx, ho, hlk, _, _⟩ := id P
  subst hst has hp hk' hn'
  obtain ⟨v, _, ⟨T', L', k1, n1⟩, -, X', ⟨Lc, hq, l', y', z'⟩, stp⟩ := X.specialBack hx (y := y) hyn ho (mvT hZ w1) (mvT hZ w2) (mvT hZ w4) hy (backOf (W := W) (Q := fun v h' L => Q' v h' ∧ Fw ws' h.size L ∧ Keep h h' ws') M hZ w4 w3 hf hl) (g := mkF m pc Ls (argsL.reverse ++ .ref a :: rest)) rfl hml (Steps.refl _) (a := a) (argsL := argsL) (rest := rest) hlen rfl (by show 2 * 0 + _ ≤ _; omega) hd (fun _ _ => ⟨rfl, eT, hc, hs⟩)
  dsimp only [Pt.U, Pt.locs, Pt.cells, Pt.slots] at X' l' y' z' stp hq
  subst l' y' z'
  exact Done.step (fun t kk => stp.trans kk) (K T' T'.heap v ⟨⟨_, X', N'.app fun y hy => (hq.2.1 y hy).elim (fun q => hws _ q) (fun q => Or.inr (Nat.le_trans b q))⟩, rfl, Nat.le_trans b hq.2.2.1, hZ, hx, ho, hlk, hc, hs⟩ hq.2.2 hq.1)
theorem wCallV {y : MethodName} {bytes : ByteArray} {maxL : Nat} {ret : Option FieldType} {rm : Room} {as' : Array Value} {ws' : List Addr} {Q' : Option Value → Heap → Prop} {index W : Nat} {argsL rest stk : List Value} {z : MethodName} {C : String} {a : Addr} (P : Pos p l e R s m args below meth c Z own ws bd T h k n) (M : OMet l z bytes maxL ret [] rm Z h ws' as' Q')
    (w1 : (Cond.methodLink own index y).before a0 Z = true) (w2 : (Cond.declares y).before a0 Z = true) (w5 : (Cond.selects C y z).before a0 Z = true) {D : String} (w7 : (Cond.selects D y y).before a0 Z = true) (w6 : (Cond.instanceMethod z).before a0 Z = true) (w3 : (Cond.initialized z.cls).before a0 Z = true) (w4 : (Cond.code z bytes maxL ret).before a0 Z = true) (hy : y.cls ≠ "java/lang/invoke/MethodHandle" ∧ y.cls ≠ "java/lang/invoke/VarHandle") (E : Exa Z h a C) (hml : Ls.size = c.maxLocals)
    (hlen : ∀ sig, parseMethodDescriptor y.desc = some sig → argsL.length = sig.parameters.length) (has : (.ref a :: argsL).toArray = as') (hst : stk = argsL.reverse ++ .ref a :: rest) (hW : (rest.map fun v => v.category).sum ≤ W) (hf : rm.frames + 1 ≤ R.frames) (hl : W + (maxL + 11) + rm.locals ≤ R.locals) (hc : k + rm.cells ≤ R.cells) (hs : n + rm.slots ≤ R.slots)
    (hws : ∀ x ∈ ws', x ∈ ws ∨ bd ≤ x) (hd : decode c.code pc = .ok (.invokevirtual index, 3)) (hp : pc + 3 = pc') {k' n' : Nat} (hk' : k + rm.cells = k') (hn' : n + rm.slots = n')
    (K : ∀ T' h' v, Pos p l e R s m args below meth c Z own ws bd T' h' k' n' → Keep h h' ws' → Q' v h' → Done p l e R s m args below meth c Z own ws bd Q T' (mkF m pc' Ls (v.toList ++ rest))) : Done p l e R s m args below meth c Z own ws bd Q T (mkF m pc Ls stk) := by
  obtain ⟨⟨L, X, N'⟩, eT, b, hZ, hx, ho, hlk, _, _⟩ := id P
  subst hst has hp hk' hn'
  obtain ⟨cq, kq, qa, qb, qc⟩ := isOf hZ eT E
  obtain ⟨v, _, ⟨T', L', k1, n1⟩, -, X', ⟨Lc, hq, l', y', z'⟩, stp⟩ := X.virtualBack hx (y := y) (z := z) ho (mvT hZ w1) (mvT hZ w2) (notFace_of_selects (args := #[]) (mvT hZ w7)) (mvT hZ w5) (mvT hZ w6) hy (backOf (W := W) (Q := fun v h' L => Q' v h' ∧ Fw ws' h.size L ∧ Keep h h' ws') M hZ w4 w3 hf hl) qa qc (g := mkF m pc Ls (argsL.reverse ++ .ref a :: rest)) rfl hml (Steps.refl _) (argsL := argsL) (rest := rest) hlen rfl (by show 2 * 0 + _ ≤ _; omega) hd (fun _ _ => ⟨rfl, eT, hc, hs⟩)
  dsimp only [Pt.U, Pt.locs, Pt.cells, Pt.slots] at X' l' y' z' stp hq
  subst l' y' z'
  exact Done.step (fun t kk => stp.trans kk) (K T' T'.heap v ⟨⟨_, X', N'.app fun y hy => (hq.2.1 y hy).elim (fun q => hws _ q) (fun q => Or.inr (Nat.le_trans b q))⟩, rfl, Nat.le_trans b hq.2.2.1, hZ, hx, ho, hlk, hc, hs⟩ hq.2.2 hq.1)
theorem wCallP {y : MethodName} {bytes : ByteArray} {maxL : Nat} {ret : Option FieldType} {rm : Room} {as' : Array Value} {ws' : List Addr} {Q' : Option Value → Heap → Prop} {index W kk : Nat} {argsL rest stk : List Value} {a : Addr} {C : String} (P : Pos p l e R s m args below meth c Z own ws bd T h k n) (M : OMet l y bytes maxL ret [] rm Z h ws' as' Q')
    (w1 : (Cond.methodLink own index y).before a0 Z = true) (w2 : (Cond.instanceMethod y).before a0 Z = true) (w5 : (Cond.privateMethod y).before a0 Z = true) (wi : (Cond.instantiable y.cls kk).before a0 Z = true) (w3 : (Cond.initialized y.cls).before a0 Z = true) (w4 : (Cond.code y bytes maxL ret).before a0 Z = true) (hy : y.cls ≠ "java/lang/invoke/MethodHandle" ∧ y.cls ≠ "java/lang/invoke/VarHandle") (E : Exa Z h a C) (hml : Ls.size = c.maxLocals)
    (hlen : ∀ sig, parseMethodDescriptor y.desc = some sig → argsL.length = sig.parameters.length) (has : (.ref a :: argsL).toArray = as') (hst : stk = argsL.reverse ++ .ref a :: rest) (hW : (rest.map fun v => v.category).sum ≤ W) (hf : rm.frames + 1 ≤ R.frames) (hl : W + (maxL + 11) + rm.locals ≤ R.locals) (hc : k + rm.cells ≤ R.cells) (hs : n + rm.slots ≤ R.slots)
    (hws : ∀ x ∈ ws', x ∈ ws ∨ bd ≤ x) (hd : decode c.code pc = .ok (.invokevirtual index, 3)) (hp : pc + 3 = pc') {k' n' : Nat} (hk' : k + rm.cells = k') (hn' : n + rm.slots = n')
    (K : ∀ T' h' v, Pos p l e R s m args below meth c Z own ws bd T' h' k' n' → Keep h h' ws' → Q' v h' → Done p l e R s m args below meth c Z own ws bd Q T' (mkF m pc' Ls (v.toList ++ rest))) : Done p l e R s m args below meth c Z own ws bd Q T (mkF m pc Ls stk) := by
  obtain ⟨⟨L, X, N'⟩, eT, b, hZ, hx, ho, hlk, _, _⟩ := id P
  subst hst has hp hk' hn'
  obtain ⟨cl, hcl, hst⟩ := E.cell
  have hpr : s.PrivateAt y := Cond.privateMethod_at (mvP hZ w5 (args := #[]))
  obtain ⟨ci, ki, hi1, hi2, -, hi3, -⟩ := Cond.instantiable_spec (mvT hZ wi : (Cond.instantiable y.cls kk).before args s = true)
  have hsel : (Cond.selects y.cls y y).before args s = true := selects_self_of_private hi1 hi2 (by simp only [Bool.or_eq_false_iff] at hi3; exact hi3.1) hpr (mvT hZ w2) hy
  obtain ⟨v, _, ⟨T', L', k1, n1⟩, -, X', ⟨Lc, hq, l', y', z'⟩, stp⟩ := X.privateBack hx (y := y) ho (mvT hZ w1) (mvT hZ w2) hsel hpr (mvT hZ w4) hy (backOf (W := W) (Q := fun v h' L => Q' v h' ∧ Fw ws' h.size L ∧ Keep h h' ws') M hZ w4 w3 hf hl) (g := mkF m pc Ls (argsL.reverse ++ .ref a :: rest)) rfl hml (Steps.refl _) (a := a) (by rw [eT]; exact hcl) hst (argsL := argsL) (rest := rest) hlen rfl (by show 2 * 0 + _ ≤ _; omega) hd (fun _ _ => ⟨rfl, eT, hc, hs⟩)
  dsimp only [Pt.U, Pt.locs, Pt.cells, Pt.slots] at X' l' y' z' stp hq
  subst l' y' z'
  exact Done.step (fun t kk => stp.trans kk) (K T' T'.heap v ⟨⟨_, X', N'.app fun y hy => (hq.2.1 y hy).elim (fun q => hws _ q) (fun q => Or.inr (Nat.le_trans b q))⟩, rfl, Nat.le_trans b hq.2.2.1, hZ, hx, ho, hlk, hc, hs⟩ hq.2.2 hq.1)
/-- a call that the machine answers itself -/
theorem wNat {y : MethodName} {by0 : ByteArray} {ml : Nat} {rt : Option FieldType} {index W : Nat} {F : Array Value → Prop} {val : Value} {argsL rest stk : List Value} (P : Pos p l e R s m args below meth c Z own ws bd T h k n)
    (w1 : (Cond.methodLink own index y).before a0 Z = true) (w2 : (Cond.static y).before a0 Z = true) (w3 : (Cond.initialized y.cls).before a0 Z = true) (w4 : (Cond.code y by0 ml rt).before a0 Z = true) (hy : y.cls ≠ "java/lang/invoke/MethodHandle" ∧ y.cls ≠ "java/lang/invoke/VarHandle")
    (hK : (Cond.code y by0 ml rt).before args s = true → Back l R p e below s args y 3 W (fun A a' => A.cells ≤ R.cells ∧ A.slots ≤ R.slots ∧ F a') (fun A _ v B => v = some val ∧ B = A)) (hml : Ls.size = c.maxLocals)
    (hlen : ∀ sig, parseMethodDescriptor y.desc = some sig → argsL.length = sig.parameters.length) (hst : stk = argsL.reverse ++ rest) (hW : (rest.map fun v => v.category).sum ≤ W) (hd : decode c.code pc = .ok (.invokestatic index, 3)) (hp : pc + 3 = pc') (hF : F argsL.toArray)
    (K : ∀ T', Pos p l e R s m args below meth c Z own ws bd T' h k n → Done p l e R s m args below meth c Z own ws bd Q T' (mkF m pc' Ls (val :: rest))) : Done p l e R s m args below meth c Z own ws bd Q T (mkF m pc Ls stk) := by
  obtain ⟨⟨L, X, N'⟩, eT, b, hZ, hx, ho, hlk, hc, hs⟩ := id P
  subst hst hp
  obtain ⟨T', X', e', stp⟩ := natS X hx hZ ho w1 w2 w3 w4 hy eT hK (g := mkF m pc Ls (argsL.reverse ++ rest)) rfl hml hlen rfl (by show 2 * 0 + _ ≤ _; omega) hd hc hs hF rfl
  exact Done.step stp (K T' ⟨⟨L, X', N'⟩, e', b, hZ, hx, ho, hlk, hc, hs⟩)
theorem Fw.toFr {bd : Nat} {L : List Loc} (N : Fw [] bd L) : Fr bd L := fun y hy => (N y hy).resolve_left (by simp)
theorem Fw.ofFr {ws : List Addr} {bd : Nat} {L : List Loc} (N : Fr bd L) : Fw ws bd L := fun y hy => Or.inr (N y hy)
theorem n32 {N : Nat} (h : N < 2147483648) : ¬ Int32.ofNat N < 0 ∧ (Int32.ofNat N).toNatClampNeg = N := by
  have e : (Int32.ofNat N).toInt = (N : Int) := Int32.toInt_ofNat_of_lt (by omega)
  refine ⟨?_, by rw [Int32.toNatClampNeg, e]; omega⟩
  rw [Int32.lt_iff_toInt_lt, e, show (0 : Int32).toInt = 0 from rfl]; omega
theorem Ar.toArv {a : Addr} {ty : FieldType} {N : Nat} {f : Nat → Value} (A : Ar Z h a ty N f) (dv : Value) (hf : ∀ i, fits ty (f i) = true) (hd : fits ty dv = true) : ∃ kA, Arv Z h a kA ty (Int32.ofNat N) ((List.range N).map f) dv := by
  obtain ⟨cl, Ar, S, hN, H⟩ := A
  have g : ∀ i, i < N → ((List.range N).map f).getD i dv = f i := fun i hi => by simp [List.getD_eq_getElem?_getD, hi]
  refine ⟨cl.cls, cl, Ar, rfl, by rw [(n32 hN).2, S], (n32 hN).1, fun i hi => ?_, fun i hi => ?_⟩
  · rw [g i (by omega)]; exact H i (by omega)
  · rw [g i (by omega)]; exact hf i
theorem Ar.ofArv {a : Addr} {ty : FieldType} {kA : ClassId} {N : Nat} {vs : List Value} {dv : Value} (hN : N < 2147483648) (A : Arv Z h a kA ty (Int32.ofNat N) vs dv) : Ar Z h a ty N (fun i => vs.getD i dv) := by
  obtain ⟨cl, Ar, -, S, -, H, -⟩ := A
  rw [(n32 hN).2] at S
  exact ⟨cl, Ar, S, hN, fun i hi => H i (by omega)⟩
/-- a copy of an array of doubles -/
theorem wClone {N cap index W : Nat} {f : Nat → UInt64} {a : Addr} (P : Pos p l e R s m args below meth c Z own ws bd T h k n) (A : Ar Z h a .double N (fun i => .double (f i))) (E : Exa Z h a "[D")
    (w1 : (Cond.methodLink own index ⟨"[D", "clone", "()Ljava/lang/Object;"⟩).before a0 Z = true) (w2 : (Cond.sameMethod "[D" "java/lang/Object" "clone" "()Ljava/lang/Object;").before a0 Z = true) (w3 : (Cond.native ⟨"java/lang/Object", "clone", "()Ljava/lang/Object;"⟩).before a0 Z = true)
    (w4 : (Cond.instanceMethod ⟨"java/lang/Object", "clone", "()Ljava/lang/Object;"⟩).before a0 Z = true) (w5 : (Cond.selects "[D" ⟨"[D", "clone", "()Ljava/lang/Object;"⟩ ⟨"java/lang/Object", "clone", "()Ljava/lang/Object;"⟩).before a0 Z = true) (w6 : (Cond.castable "[D" "java/lang/Cloneable").before a0 Z = true)
    (hml : Ls.size = c.maxLocals) (hd : decode c.code pc = .ok (.invokevirtual index, 3)) (hp : pc + 3 = pc') (hf : 1 ≤ R.frames) (hW : (st.map fun v => v.category).sum ≤ W) (hl : W + 14 ≤ R.locals) (hcap : N ≤ cap) (hc : k + 1 ≤ R.cells) (hsl : n + cap ≤ R.slots) {k' n' : Nat} (hk' : k + 1 = k') (hn' : n + cap = n')
    (K : ∀ T' h' b, b = h.size → h.size < h'.size → Pos p l e R s m args below meth c Z own ws bd T' h' k' n' → Ext h h' → Ar Z h' b .double N (fun i => .double (f i)) → Exa Z h' b "[D" → Done p l e R s m args below meth c Z own ws bd Q T' (mkF m pc' Ls (.ref b :: st))) : Done p l e R s m args below meth c Z own ws bd Q T (mkF m pc Ls (.ref a :: st)) := by
  obtain ⟨⟨L, X, N'⟩, eT, b, hZ, hx, ho, hlk, _, _⟩ := id P
  obtain ⟨cl, Ar, S, hN, H⟩ := A
  have FC : FitC Z cl := fitC_of Ar fun i hi v hv => by rw [H i (by omega)] at hv; cases hv; rfl
  obtain ⟨T', h', X', e', ex, A', E', stp⟩ := cloneA X hx hZ ho w1 w2 w3 w4 w5 w6 eT Ar E FC (g := mkF m pc Ls (.ref a :: st)) rfl hml rfl hd hf (W := W) (by show 2 * 0 + _ ≤ _; omega) hl (cap := cap) (by omega) hc hsl
  subst hp hk' hn'
  exact Done.step stp (K T' h' h.size rfl A'.lt ⟨⟨L, X', N'⟩, e', Nat.le_trans b ex.1, hZ, hx, ho, hlk, hc, hsl⟩ ex ⟨_, A', S, hN, H⟩ E')
/-- System.arraycopy of the first places of an array of doubles into a fresh one -/
theorem wCopyD {N M K0 index W : Nat} {f g : Nat → UInt64} {a b : Addr} {nn : Int32} (P : Pos p l e R s m args below meth c Z own [] bd T h k n) (A : Ar Z h a .double N (fun i => .double (f i))) (B : Ar Z h b .double M (fun i => .double (g i))) (hnn : nn.toInt = (K0 : Int)) (h1 : K0 ≤ N) (h2 : K0 ≤ M) (ge : bd ≤ b)
    (w1 : (Cond.methodLink own index Jvm.Stand.acN).before a0 Z = true) (w2 : (Cond.native Jvm.Stand.acN).before a0 Z = true) (w3 : (Cond.static Jvm.Stand.acN).before a0 Z = true) (w4 : (Cond.initialized "java/lang/System").before a0 Z = true)
    (hml : Ls.size = c.maxLocals) (hd : decode c.code pc = .ok (.invokestatic index, 3)) (hp : pc + 3 = pc') (hf : 1 ≤ R.frames) (hW : (st.map fun v => v.category).sum ≤ W) (hlo : W + (nativeFrameWords "java/lang/System" "arraycopy" 5 + 11) ≤ R.locals)
    (K : ∀ T' h', Pos p l e R s m args below meth c Z own [] bd T' h' k n → Keep h h' [b] → Ar Z h' b .double M (fun i => .double (if i < K0 then f i else g i)) → Done p l e R s m args below meth c Z own [] bd Q T' (mkF m pc' Ls st)) :
    Done p l e R s m args below meth c Z own [] bd Q T (mkF m pc Ls (.int nn :: .int 0 :: .ref b :: .int 0 :: .ref a :: st)) := by
  obtain ⟨⟨L, X, N'⟩, eT, hb', hZ, hx, ho, r⟩ := id P
  have hN := A.len
  have hM := B.len
  obtain ⟨kA, VA⟩ := A.toArv (.double 0) (fun _ => rfl) rfl
  obtain ⟨kB, VB⟩ := B.toArv (.double 0) (fun _ => rfl) rfl
  have z0 : ¬ (0 : Int32) < 0 := by decide
  have z1 : (0 : Int32).toNatClampNeg = 0 := by decide
  have q0 : ¬ nn < 0 := by rw [Int32.lt_iff_toInt_lt, hnn, show (0 : Int32).toInt = 0 from rfl]; omega
  have q1 : nn.toNatClampNeg = K0 := by rw [Int32.toNatClampNeg, hnn]; omega
  obtain ⟨T', h', L', X', e', F', Kp, V', stp⟩ := cpA X hx hZ ho w1 w2 w3 w4 eT VA VB (Or.inl ⟨rfl, rfl⟩) z0 z0 q0 (by rw [z1, q1, (n32 hN).2]; omega) (by rw [z1, q1, (n32 hM).2]; omega) rfl (by rw [z1, q1]; simp; omega) (n0 := bd) N'.toFr ge (g := mkF m pc Ls (.int nn :: .int 0 :: .ref b :: .int 0 :: .ref a :: st)) rfl hml rfl hd hf (W := W) (by show 2 * 0 + _ ≤ _; omega) hlo
  subst hp
  refine Done.step stp (K T' h' ⟨⟨L', X', Fw.ofFr F'⟩, e', Nat.le_trans hb' Kp.1, hZ, hx, ho, r⟩ Kp ((Ar.ofArv hM V').congr fun i hi => ?_))
  rw [z1, q1]
  by_cases q : i < K0
  · rw [if_pos q]
    simp [List.getD_eq_getElem?_getD, List.getElem?_append, q]
    rw [List.getElem?_range (by omega)]
    rfl
  · rw [if_neg q]
    simp [List.getD_eq_getElem?_getD, List.getElem?_append, q]
    have e2 : K0 + (i - K0) = i := by omega
    simp [e2, hi]
/-! constants and references -/
theorem pLdcI {index : Nat} {v : Int32} {t : State} (P : Pos p l e R s m args below meth c Z own ws bd T h k n) (w : (Cond.constant own index v).before a0 Z = true) (hd : decode c.code pc = .ok (.ldc index, 2)) (hp : pc + 2 = pc') (kk : Steps p.tables e below (T.setTop (mkF m pc' Ls (.int v :: st))) t) : Steps p.tables e below (T.setTop (mkF m pc Ls st)) t := by
  obtain ⟨⟨L, X, N'⟩, eT, b, hZ, hx, ho, hlk, _, _⟩ := id P
  subst hp
  exact X.ldcI hx ho (mvT hZ w) (g := mkF m pc Ls st) rfl hd kk
theorem pLdcIw {index : Nat} {v : Int32} {t : State} (P : Pos p l e R s m args below meth c Z own ws bd T h k n) (w : (Cond.constant own index v).before a0 Z = true) (hd : decode c.code pc = .ok (.ldc_w index, 3)) (hp : pc + 3 = pc') (kk : Steps p.tables e below (T.setTop (mkF m pc' Ls (.int v :: st))) t) : Steps p.tables e below (T.setTop (mkF m pc Ls st)) t := by
  obtain ⟨⟨L, X, N'⟩, eT, b, hZ, hx, ho, hlk, _, _⟩ := id P
  subst hp
  exact X.ldcWI hx ho (mvT hZ w) (g := mkF m pc Ls st) rfl hd kk
theorem pLdcJ {index : Nat} {v : Int64} {t : State} (P : Pos p l e R s m args below meth c Z own ws bd T h k n) (w : (Cond.constantLong own index v).before a0 Z = true) (hd : decode c.code pc = .ok (.ldc2_w index, 3)) (hp : pc + 3 = pc') (kk : Steps p.tables e below (T.setTop (mkF m pc' Ls (.long v :: st))) t) : Steps p.tables e below (T.setTop (mkF m pc Ls st)) t := by
  obtain ⟨⟨L, X, N'⟩, eT, b, hZ, hx, ho, hlk, _, _⟩ := id P
  subst hp
  exact X.ldc2J hx ho (mvT hZ w) (g := mkF m pc Ls st) rfl hd kk
theorem pLdcD {index : Nat} {v : UInt64} {t : State} (P : Pos p l e R s m args below meth c Z own ws bd T h k n) (w : (Cond.constantDouble own index v).before a0 Z = true) (hd : decode c.code pc = .ok (.ldc2_w index, 3)) (hp : pc + 3 = pc') (kk : Steps p.tables e below (T.setTop (mkF m pc' Ls (.double v :: st))) t) : Steps p.tables e below (T.setTop (mkF m pc Ls st)) t := by
  obtain ⟨⟨L, X, N'⟩, eT, b, hZ, hx, ho, hlk, _, _⟩ := id P
  subst hp
  exact X.ldc2DoubleC hx ho (mvT hZ w) (g := mkF m pc Ls st) rfl hd t kk
theorem pAcmp {cd : ACond} {x y : Value} {rest stk : List Value} {o : Int} {pc0 : Nat} {same : Bool} {t : State} (P : Pos p l e R s m args below meth c Z own ws bd T h k n) (h1 : x.isRef = true) (h2 : y.isRef = true) (hpc : pc = pc0) (hd : decode c.code pc = .ok (.if_acmp cd o, 3)) (hs : stk = y :: x :: rest) (hq : decide (x = y) = same) (ho : 0 ≤ (pc0 : Int) + o)
    (hp : pc' = if acV cd same = true then ((pc0 : Int) + o).toNat else pc0 + 3) (kk : Steps p.tables e below (T.setTop (mkF m pc' Ls rest)) t) : Steps p.tables e below (T.setTop (mkF m pc Ls stk)) t := by
  obtain ⟨⟨L, X, N'⟩, eT, b, hZ, hx, ho', hlk, _, _⟩ := id P
  exact Jvm.RoadKit.acmp (g := mkF m pc Ls stk) X hx rfl h1 h2 (pc0 := pc0) (pc' := pc') (same := same) hpc hd hs hq ho hp kk
end A
/-! conditions of branches -/
theorem iiW_lt_t {x y : Int32} (h : x < y) : if_icmp.holds .lt x y = true := (tlt h).1
theorem iiW_lt_f {x y : Int32} (h : ¬ (x < y)) : if_icmp.holds .lt x y = false := (flt h).1
theorem iiW_ge_t {x y : Int32} (h : ¬ (x < y)) : if_icmp.holds .ge x y = true := (flt h).2.1
theorem iiW_ge_f {x y : Int32} (h : ¬ ¬ (x < y)) : if_icmp.holds .ge x y = false := (tlt (Decidable.not_not.mp h)).2.1
theorem iiW_gt_t {x y : Int32} (h : y < x) : if_icmp.holds .gt x y = true := (tlt h).2.2.1
theorem iiW_gt_f {x y : Int32} (h : ¬ (y < x)) : if_icmp.holds .gt x y = false := (flt h).2.2.1
theorem iiW_le_t {x y : Int32} (h : ¬ (y < x)) : if_icmp.holds .le x y = true := (flt h).2.2.2
theorem iiW_le_f {x y : Int32} (h : ¬ ¬ (y < x)) : if_icmp.holds .le x y = false := (tlt (Decidable.not_not.mp h)).2.2.2
theorem iiW_eq_t {x y : Int32} (h : x = y) : if_icmp.holds .eq x y = true := (teq h).1
theorem iiW_eq_f {x y : Int32} (h : ¬ (x = y)) : if_icmp.holds .eq x y = false := (feq h).1
theorem iiW_ne_t {x y : Int32} (h : ¬ (x = y)) : if_icmp.holds .ne x y = true := (feq h).2
theorem iiW_ne_f {x y : Int32} (h : ¬ ¬ (x = y)) : if_icmp.holds .ne x y = false := (teq (Decidable.not_not.mp h)).2
theorem i0W_lt_t {x : Int32} (h : x < (0 : Int32)) : ifCond.holds .lt x = true := (if0 _ _).trans (iiW_lt_t h)
theorem i0W_lt_f {x : Int32} (h : ¬ (x < (0 : Int32))) : ifCond.holds .lt x = false := (if0 _ _).trans (iiW_lt_f h)
theorem i0W_ge_t {x : Int32} (h : ¬ (x < (0 : Int32))) : ifCond.holds .ge x = true := (if0 _ _).trans (iiW_ge_t h)
theorem i0W_ge_f {x : Int32} (h : ¬ ¬ (x < (0 : Int32))) : ifCond.holds .ge x = false := (if0 _ _).trans (iiW_ge_f h)
theorem i0W_gt_t {x : Int32} (h : (0 : Int32) < x) : ifCond.holds .gt x = true := (if0 _ _).trans (iiW_gt_t h)
theorem i0W_gt_f {x : Int32} (h : ¬ ((0 : Int32) < x)) : ifCond.holds .gt x = false := (if0 _ _).trans (iiW_gt_f h)
theorem i0W_le_t {x : Int32} (h : ¬ ((0 : Int32) < x)) : ifCond.holds .le x = true := (if0 _ _).trans (iiW_le_t h)
theorem i0W_le_f {x : Int32} (h : ¬ ¬ ((0 : Int32) < x)) : ifCond.holds .le x = false := (if0 _ _).trans (iiW_le_f h)
theorem i0W_eq_t {x : Int32} (h : x = (0 : Int32)) : ifCond.holds .eq x = true := (if0 _ _).trans (iiW_eq_t h)
theorem i0W_eq_f {x : Int32} (h : ¬ (x = (0 : Int32))) : ifCond.holds .eq x = false := (if0 _ _).trans (iiW_eq_f h)
theorem i0W_ne_t {x : Int32} (h : ¬ (x = (0 : Int32))) : ifCond.holds .ne x = true := (if0 _ _).trans (iiW_ne_t h)
theorem i0W_ne_f {x : Int32} (h : ¬ ¬ (x = (0 : Int32))) : ifCond.holds .ne x = false := (if0 _ _).trans (iiW_ne_f h)
theorem lcW_lt_t {x y : Int64} (h : x < y) : ifCond.holds .lt (lcmpW x y) = true := i0W_lt_t ((lw_lt x y).mpr h)
theorem lcW_lt_f {x y : Int64} (h : ¬ (x < y)) : ifCond.holds .lt (lcmpW x y) = false := i0W_lt_f fun q => h ((lw_lt x y).mp q)
theorem lcW_ge_t {x y : Int64} (h : ¬ (x < y)) : ifCond.holds .ge (lcmpW x y) = true := i0W_ge_t fun q => h ((lw_lt x y).mp q)
theorem lcW_ge_f {x y : Int64} (h : ¬ ¬ (x < y)) : ifCond.holds .ge (lcmpW x y) = false := i0W_ge_f fun q => h fun z => q ((lw_lt x y).mpr z)
theorem lcW_gt_t {x y : Int64} (h : y < x) : ifCond.holds .gt (lcmpW x y) = true := i0W_gt_t ((lw_gt x y).mpr h)
theorem lcW_gt_f {x y : Int64} (h : ¬ (y < x)) : ifCond.holds .gt (lcmpW x y) = false := i0W_gt_f fun q => h ((lw_gt x y).mp q)
theorem lcW_le_t {x y : Int64} (h : ¬ (y < x)) : ifCond.holds .le (lcmpW x y) = true := i0W_le_t fun q => h ((lw_gt x y).mp q)
theorem lcW_le_f {x y : Int64} (h : ¬ ¬ (y < x)) : ifCond.holds .le (lcmpW x y) = false := i0W_le_f fun q => h fun z => q ((lw_gt x y).mpr z)
theorem lcW_eq_t {x y : Int64} (h : x = y) : ifCond.holds .eq (lcmpW x y) = true := i0W_eq_t ((lw_eq x y).mpr h)
theorem lcW_eq_f {x y : Int64} (h : ¬ (x = y)) : ifCond.holds .eq (lcmpW x y) = false := i0W_eq_f fun q => h ((lw_eq x y).mp q)
theorem lcW_ne_t {x y : Int64} (h : ¬ (x = y)) : ifCond.holds .ne (lcmpW x y) = true := i0W_ne_t fun q => h ((lw_eq x y).mp q)
theorem lcW_ne_f {x y : Int64} (h : ¬ ¬ (x = y)) : ifCond.holds .ne (lcmpW x y) = false := i0W_ne_f fun q => h fun z => q ((lw_eq x y).mpr z)
/-- how two whole numbers compare, as dcmp pushes it -/
def cmpZ (i j : Int) : Int32 := if i < j then -1 else if i = j then 0 else 1
theorem cmpZ_lt (i j : Int) : cmpZ i j < (0 : Int32) ↔ i < j := by
  unfold cmpZ
  by_cases h1 : i < j
  · rw [if_pos h1]; exact ⟨fun _ => h1, fun _ => by decide⟩
  · rw [if_neg h1]
    by_cases h2 : i = j
    · rw [if_pos h2]; exact ⟨fun q => absurd q (by decide), fun q => absurd q h1⟩
    · rw [if_neg h2]; exact ⟨fun q => absurd q (by decide), fun q => absurd q h1⟩
theorem cmpZ_gt (i j : Int) : (0 : Int32) < cmpZ i j ↔ j < i := by
  unfold cmpZ
  by_cases h1 : i < j
  · rw [if_pos h1]; exact ⟨fun q => absurd q (by decide), fun q => by omega⟩
  · rw [if_neg h1]
    by_cases h2 : i = j
    · rw [if_pos h2]; exact ⟨fun q => absurd q (by decide), fun q => by omega⟩
    · rw [if_neg h2]; exact ⟨fun _ => by omega, fun _ => by decide⟩
theorem cmpZ_eq (i j : Int) : cmpZ i j = (0 : Int32) ↔ i = j := by
  unfold cmpZ
  by_cases h1 : i < j
  · rw [if_pos h1]; exact ⟨fun q => absurd q (by decide), fun q => by omega⟩
  · rw [if_neg h1]
    by_cases h2 : i = j
    · rw [if_pos h2]; exact ⟨fun _ => h2, fun _ => rfl⟩
    · rw [if_neg h2]; exact ⟨fun q => absurd q (by decide), fun q => absurd q h2⟩
theorem ciW_lt_t {x y : Int} (h : x < y) : ifCond.holds .lt (cmpZ x y) = true := i0W_lt_t ((cmpZ_lt x y).mpr h)
theorem ciW_lt_f {x y : Int} (h : ¬ (x < y)) : ifCond.holds .lt (cmpZ x y) = false := i0W_lt_f fun q => h ((cmpZ_lt x y).mp q)
theorem ciW_ge_t {x y : Int} (h : ¬ (x < y)) : ifCond.holds .ge (cmpZ x y) = true := i0W_ge_t fun q => h ((cmpZ_lt x y).mp q)
theorem ciW_ge_f {x y : Int} (h : ¬ ¬ (x < y)) : ifCond.holds .ge (cmpZ x y) = false := i0W_ge_f fun q => h fun z => q ((cmpZ_lt x y).mpr z)
theorem ciW_gt_t {x y : Int} (h : y < x) : ifCond.holds .gt (cmpZ x y) = true := i0W_gt_t ((cmpZ_gt x y).mpr h)
theorem ciW_gt_f {x y : Int} (h : ¬ (y < x)) : ifCond.holds .gt (cmpZ x y) = false := i0W_gt_f fun q => h ((cmpZ_gt x y).mp q)
theorem ciW_le_t {x y : Int} (h : ¬ (y < x)) : ifCond.holds .le (cmpZ x y) = true := i0W_le_t fun q => h ((cmpZ_gt x y).mp q)
theorem ciW_le_f {x y : Int} (h : ¬ ¬ (y < x)) : ifCond.holds .le (cmpZ x y) = false := i0W_le_f fun q => h fun z => q ((cmpZ_gt x y).mpr z)
theorem ciW_eq_t {x y : Int} (h : x = y) : ifCond.holds .eq (cmpZ x y) = true := i0W_eq_t ((cmpZ_eq x y).mpr h)
theorem ciW_eq_f {x y : Int} (h : ¬ (x = y)) : ifCond.holds .eq (cmpZ x y) = false := i0W_eq_f fun q => h ((cmpZ_eq x y).mp q)
theorem ciW_ne_t {x y : Int} (h : ¬ (x = y)) : ifCond.holds .ne (cmpZ x y) = true := i0W_ne_t fun q => h ((cmpZ_eq x y).mp q)
theorem ciW_ne_f {x y : Int} (h : ¬ ¬ (x = y)) : ifCond.holds .ne (cmpZ x y) = false := i0W_ne_f fun q => h fun z => q ((cmpZ_eq x y).mpr z)
section B
variable {C : Prop} [Decidable C]
theorem b01or (C : Prop) [Decidable C] : (if C then (1 : Int32) else (0 : Int32)) = 0 ∨ (if C then (1 : Int32) else (0 : Int32)) = 1 := by split <;> simp
theorem b01_eq_t (h : ¬ (C)) : ifCond.holds .eq (if C then (1 : Int32) else (0 : Int32)) = true := by rw [if_neg h]; rfl
theorem b01_eq_f (h : ¬ ¬ (C)) : ifCond.holds .eq (if C then (1 : Int32) else (0 : Int32)) = false := by rw [if_pos (Decidable.not_not.mp h)]; rfl
theorem b01_ne_t (h : C) : ifCond.holds .ne (if C then (1 : Int32) else (0 : Int32)) = true := by rw [if_pos h]; rfl
theorem b01_ne_f (h : ¬ (C)) : ifCond.holds .ne (if C then (1 : Int32) else (0 : Int32)) = false := by rw [if_neg h]; rfl
end B
theorem narrow_01 {x : Int32} (h : x = 0 ∨ x = 1) : narrow .boolean (.int x) = .int x := by rcases h with rfl | rfl <;> rfl
theorem fits_01 {x : Int32} (h : x = 0 ∨ x = 1) : fits .boolean (.int x) = true := by rcases h with rfl | rfl <;> rfl
theorem cat1 {v : Value} (h : v.isRef = true) : v.category = 1 := by cases v <;> first | rfl | (simp [Value.isRef] at h)
theorem narrow_refT {v : Value} {t : FieldType} (h : v.isRef = true) : narrow t v = v := by cases v <;> first | (simp [Value.isRef] at h; done) | (cases t <;> rfl)
theorem fits_refT {v : Value} {t : FieldType} (h : v.isRef = true) (ht : t.isReference = true) : fits t v = true := by cases v <;> first | (simp [Value.isRef] at h; done) | (cases t <;> first | rfl | (simp [FieldType.isReference] at ht; done))
theorem nab_mul {i j : Int} {A B : Nat} (h1 : i.natAbs ≤ A) (h2 : j.natAbs ≤ B) : (i * j).natAbs ≤ A * B := by rw [Int.natAbs_mul]; exact Nat.mul_le_mul h1 h2
theorem nab_add {i j : Int} {A B : Nat} (h1 : i.natAbs ≤ A) (h2 : j.natAbs ≤ B) : (i + j).natAbs ≤ A + B := by omega
theorem nab_sub {i j : Int} {A B : Nat} (h1 : i.natAbs ≤ A) (h2 : j.natAbs ≤ B) : (i - j).natAbs ≤ A + B := by omega
/-! whole numbers as doubles -/
section C
open Jvm.FP Jvm.FP.Core Jvm.Free.Fl
theorem dint_c0 : DInt 0 FP.dconst0 := by
  have h := i2d_int 0
  rwa [show Core.i2d 0 = FP.dconst0 from by decide +kernel] at h
theorem dint_c1 : DInt 1 FP.dconst1 := by
  have h := i2d_int 1
  rwa [show Core.i2d 1 = FP.dconst1 from by decide +kernel] at h
theorem dint_ite {C : Prop} [Decidable C] {i j : Int} {a b : UInt64} (h1 : C → DInt i a) (h0 : ¬ C → DInt j b) : DInt (if C then i else j) (if C then a else b) := by
  by_cases h : C
  · rw [if_pos h, if_pos h]; exact h1 h
  · rw [if_neg h, if_neg h]; exact h0 h
theorem nnD {i : Int} {a : UInt64} (h : DInt i a) : NoNaN64 a := val64_no.mpr (DInt_ne_nan h)
theorem dcmpZ {i j : Int} {a b : UInt64} (ha : DInt i a) (hb : DInt j b) {o : CmpOp} : cmpValue (FP.dcmp a b) o = cmpZ i j := by
  rw [show FP.dcmp a b = some (compare i j) from dcmp_int ha hb, compare_ite]
  unfold cmpZ
  split
  · rfl
  · split <;> rfl
end C
end Jvm.OwnW
namespace Jvm.Pilot.@@N@@
open Jvm Jvm.ClassFile Sem Op Lib Jvm.Free Jvm.Stand Jvm.LawKit Jvm.RoadKit Jvm.OwnW Bundle Jvm.Pilot.@@N@@.Jvm.D
open Jvm.FP.Core (DInt i2d_int l2d_int dadd_int dsub_int dmul_int dneg_int zval b64 val64 dcmp_zval compare_ite i2d_ne_zero DInt_ne_nan dcmp_int dcmp_l2d)

def own_up : Nat → (Nat → Int) → (Nat → Int32) → Nat → Int → Int32 → (Nat → Int) × (Nat → Int32)
  | 0, K, J, ip, k, i => (oupd K ip k, oupd J ip i)
  | r + 1, K, J, ip, k, i => if ip = 0 then (oupd K ip k, oupd J ip i) else if K ((ip - 1) / 2) < k then own_up r (oupd K ip (K ((ip - 1) / 2))) (oupd J ip (J ((ip - 1) / 2))) ((ip - 1) / 2) k i else (oupd K ip k, oupd J ip i)
def own_d (n : Nat) (K : Nat → Int) (ip : Nat) : Nat := if 2 * ip + 2 < n ∧ K (2 * ip + 1) < K (2 * ip + 2) then 2 * ip + 2 else 2 * ip + 1
def own_dn : Nat → Nat → (Nat → Int) → (Nat → Int32) → Nat → Int → Int32 → (Nat → Int) × (Nat → Int32)
  | 0, _, K, J, ip, k, i => (oupd K ip k, oupd J ip i)
  | r + 1, n, K, J, ip, k, i => if 2 * ip + 1 < n then (if k < K (own_d n K ip) then own_dn r n (oupd K ip (K (own_d n K ip))) (oupd J ip (J (own_d n K ip))) (own_d n K ip) k i else (oupd K ip k, oupd J ip i)) else (oupd K ip k, oupd J ip i)
def own_of (n : Nat) (c : Bool) (K : Nat → Int) (J : Nat → Int32) (k : Int) (i : Int32) : (Nat → Int) × (Nat → Int32) := if c then own_up n K J n k i else if k < K 0 then own_dn n n K J 0 k i else (K, J)
theorem own_dupd {N ip : Nat} {K : Nat → Int} {kf : Nat → UInt64} {x : Int} {y : UInt64} (h : ∀ i, i < N → DInt (K i) (kf i)) (q : DInt x y) (i : Nat) (hi : i < N) : DInt (oupd K ip x i) (oupd kf ip y i) := by
  by_cases z : i = ip
  · subst z; rw [oupd_same, oupd_same]; exact q
  · rw [oupd_ne z, oupd_ne z]; exact h i hi
theorem own_z {N : Nat} (h : N < 2147483648) : (Int32.ofNat N).toInt = (N : Int) := Int32.toInt_ofNat_of_lt (by omega)
theorem own_p0 {pv : Int32} {ip : Nat} (h : pv.toInt = (ip : Int)) (q : ¬ ((0 : Int32) < pv)) : ip = 0 := by
  rw [Int32.lt_iff_toInt_lt, h, show (0 : Int32).toInt = 0 from rfl] at q; omega
theorem own_p1 {pv : Int32} {ip : Nat} (h : pv.toInt = (ip : Int)) (q : ¬ ¬ ((0 : Int32) < pv)) : 0 < ip := by
  have q := Decidable.not_not.mp q
  rw [Int32.lt_iff_toInt_lt, h, show (0 : Int32).toInt = 0 from rfl] at q; omega
theorem own_par {pv : Int32} {ip : Nat} (h : pv.toInt = (ip : Int)) (hp : 0 < ip) : ((pv - (1 : Int32)) / (2 : Int32)).toInt = (((ip - 1) / 2 : Nat) : Int) := by
  have h1 := c_isub pv 1
  have h2 := rng32 (pv - 1)
  have h3 := rng32 pv
  have e1 : (1 : Int32).toInt = 1 := by decide
  have h4 := (c_idiv (pv - 1) 2 2 (by decide) (by decide)).1
  omega
theorem own_ch {hv : Int32} {ip : Nat} (h : hv.toInt = (ip : Int)) (hp : ip < 1000) : (((2 : Int32) * hv) + (1 : Int32)).toInt = ((2 * ip + 1 : Nat) : Int) := by
  have e1 : (1 : Int32).toInt = 1 := by decide
  have e2 : (2 : Int32).toInt = 2 := by decide
  have h1 := c_imul 2 hv
  have h2 := rng32 (2 * hv)
  have h3 := c_iadd (2 * hv) 1
  have h4 := rng32 (2 * hv + 1)
  rw [e2] at h1
  omega
theorem own_in {cv : Int32} {ip : Nat} (h : cv.toInt = (ip : Int)) (hp : ip < 1000) : (cv + (1 : Int32)).toInt = ((ip + 1 : Nat) : Int) := by
  have e1 : (1 : Int32).toInt = 1 := by decide
  have h3 := c_iadd cv 1
  have h4 := rng32 (cv + 1)
  omega
theorem own_lt' {x y : Int32} {i j : Nat} (hx : x.toInt = (i : Int)) (hy : y.toInt = (j : Int)) : x < y ↔ i < j := by
  rw [Int32.lt_iff_toInt_lt, hx, hy]; omega

theorem own_d_or (n : Nat) (K : Nat → Int) (ip : Nat) : own_d n K ip = 2 * ip + 1 ∨ own_d n K ip = 2 * ip + 2 := by unfold own_d; split <;> simp

def own_st (n : Nat) (K : Nat → Int) (J : Nat → Int32) : Nat → (Nat → Int) × (Nat → Int32)
  | 0 => (K, J)
  | j + 1 => own_dn (n - 1 - j) (n - 1 - j) (own_st n K J j).1 (own_st n K J j).2 0 ((own_st n K J j).1 (n - 1 - j)) ((own_st n K J j).2 (n - 1 - j))
theorem own_dec {x : Int32} {n : Nat} (h : x.toInt = ((n + 1 : Nat) : Int)) : (x - (1 : Int32)).toInt = (n : Int) := by
  have h1 := c_isub x 1
  have h2 := rng32 (x - 1)
  have h3 := rng32 x
  have e : (1 : Int32).toInt = 1 := by decide
  omega
theorem own_dm {x : Int32} {r : Nat} (h : x.toInt = (r : Int)) (hr : r < 1000) : (x + (-1 : Int32)).toInt = (r : Int) - 1 := by
  have h1 := c_iadd x (-1)
  have h2 := rng32 (x + (-1))
  have e : (-1 : Int32).toInt = -1 := by decide
  omega
theorem own_upto {n r : Nat} {F g : Nat → Int32} {x : Int32} (h : ∀ d, r + 1 ≤ d → d < n → g d = F d) (hx : x = F r) (d : Nat) (h1 : r ≤ d) (h2 : d < n) : oupd g r x d = F d := by
  by_cases q : d = r
  · subst q; rw [oupd_same]; exact hx
  · rw [oupd_ne q]; exact h d (by omega) h2

theorem own_dm' {x : Int32} {n : Nat} (h : x.toInt = (n : Int)) : (x - (1 : Int32)).toInt = (n : Int) - 1 := by
  have h1 := c_isub x 1
  have h2 := rng32 (x - 1)
  have h3 := rng32 x
  have e : (1 : Int32).toInt = 1 := by decide
  omega

theorem own_put {f : Int → Int} {e : Int32 → Int32} {m p : Nat} {K A : Nat → Int} {J B : Nat → Int32} {a : Int} {b : Int32} (h : ∀ i, i < m → i ≠ p → K i = f (A i) ∧ J i = e (B i)) (i : Nat) (hi : i < m) : (oupd K p (f a), oupd J p (e b)).1 i = f ((oupd A p a, oupd B p b).1 i) ∧ (oupd K p (f a), oupd J p (e b)).2 i = e ((oupd A p a, oupd B p b).2 i) := by
  show oupd K p (f a) i = f (oupd A p a i) ∧ oupd J p (e b) i = e (oupd B p b i)
  by_cases q : i = p
  · subst q; rw [oupd_same, oupd_same, oupd_same, oupd_same]; exact ⟨rfl, rfl⟩
  · rw [oupd_ne q, oupd_ne q, oupd_ne q, oupd_ne q]; exact h i hi q
theorem own_mvr {f : Int → Int} {e : Int32 → Int32} {m p d : Nat} {K A : Nat → Int} {J B : Nat → Int32} (h : ∀ i, i < m → i ≠ p → K i = f (A i) ∧ J i = e (B i)) (hd : d < m) (hdp : d ≠ p) (i : Nat) (hi : i < m) (q : i ≠ d) : oupd K p (K d) i = f (oupd A p (A d) i) ∧ oupd J p (J d) i = e (oupd B p (B d) i) := by
  by_cases q : i = p
  · subst q; rw [oupd_same, oupd_same, oupd_same, oupd_same]; exact h d hd hdp
  · rw [oupd_ne q, oupd_ne q, oupd_ne q, oupd_ne q]; exact h i hi q
theorem own_up_rel {f : Int → Int} {e : Int32 → Int32} (hf : ∀ x y, f x < f y ↔ x < y) {m : Nat} {a : Int} {b : Int32} : ∀ (r : Nat) (K A : Nat → Int) (J B : Nat → Int32) (p : Nat), p < m → (∀ i, i < m → i ≠ p → K i = f (A i) ∧ J i = e (B i)) → ∀ i, i < m → (own_up r K J p (f a) (e b)).1 i = f ((own_up r A B p a b).1 i) ∧ (own_up r K J p (f a) (e b)).2 i = e ((own_up r A B p a b).2 i)
  | 0, K, A, J, B, p, hp, h, i, hi => own_put h i hi
  | r + 1, K, A, J, B, p, hp, h, i, hi => by
    rw [own_up, own_up]
    by_cases q : p = 0
    · rw [if_pos q, if_pos q]; exact own_put h i hi
    · rw [if_neg q, if_neg q]
      have hpar := h ((p - 1) / 2) (by omega) (by omega)
      by_cases z : A ((p - 1) / 2) < a
      · rw [if_pos (by rw [hpar.1, hf]; exact z), if_pos z]
        exact own_up_rel hf r _ _ _ _ _ (by omega) (own_mvr h (by omega) (by omega)) i hi
      · rw [if_neg (by rw [hpar.1, hf]; exact z), if_neg z]; exact own_put h i hi
theorem own_d_rel {f : Int → Int} {e : Int32 → Int32} (hf : ∀ x y, f x < f y ↔ x < y) {m n p : Nat} {K A : Nat → Int} {J B : Nat → Int32} (hn : n ≤ m) (h : ∀ i, i < m → i ≠ p → K i = f (A i) ∧ J i = e (B i)) : own_d n K p = own_d n A p := by
  unfold own_d
  by_cases q : 2 * p + 2 < n
  · rw [(h (2 * p + 1) (by omega) (by omega)).1, (h (2 * p + 2) (by omega) (by omega)).1]
    simp only [hf]
  · rw [if_neg (fun z => q z.1), if_neg (fun z => q z.1)]
theorem own_dn_rel {f : Int → Int} {e : Int32 → Int32} (hf : ∀ x y, f x < f y ↔ x < y) {m n : Nat} (hn : n ≤ m) {a : Int} {b : Int32} : ∀ (r : Nat) (K A : Nat → Int) (J B : Nat → Int32) (p : Nat), p < m → (∀ i, i < m → i ≠ p → K i = f (A i) ∧ J i = e (B i)) → ∀ i, i < m → (own_dn r n K J p (f a) (e b)).1 i = f ((own_dn r n A B p a b).1 i) ∧ (own_dn r n K J p (f a) (e b)).2 i = e ((own_dn r n A B p a b).2 i)
  | 0, K, A, J, B, p, hp, h, i, hi => own_put h i hi
  | r + 1, K, A, J, B, p, hp, h, i, hi => by
    rw [own_dn, own_dn, own_d_rel hf hn h]
    by_cases q : 2 * p + 1 < n
    · rw [if_pos q, if_pos q]
      have hd := own_d_or n A p
      have hdn : own_d n A p < n := by
        rcases hd with z | z
        · omega
        · unfold own_d at z ⊢
          by_cases w : 2 * p + 2 < n ∧ A (2 * p + 1) < A (2 * p + 2)
          · rw [if_pos w]; exact w.1
          · rw [if_neg w] at z; omega
      have hpar := h (own_d n A p) (by omega) (by omega)
      by_cases z : a < A (own_d n A p)
      · rw [if_pos (by rw [hpar.1, hf]; exact z), if_pos z]
        exact own_dn_rel hf hn r _ _ _ _ _ (by omega) (own_mvr h (by omega) (by omega)) i hi
      · rw [if_neg (by rw [hpar.1, hf]; exact z), if_neg z]; exact own_put h i hi
    · rw [if_neg q, if_neg q]; exact own_put h i hi
theorem own_ofA {f : Int → Int} {e : Int32 → Int32} (hf : ∀ x y, f x < f y ↔ x < y) {n : Nat} {K A : Nat → Int} {J B : Nat → Int32} {k a : Int} {j b : Int32} (hk : k = f a) (hj : j = e b) (h : ∀ i, i < n → K i = f (A i) ∧ J i = e (B i)) : ∀ i, i < n + 1 → (own_of n true K J k j).1 i = f ((own_of n true A B a b).1 i) ∧ (own_of n true K J k j).2 i = e ((own_of n true A B a b).2 i) := by
  subst hk hj
  exact own_up_rel hf n K A J B n (by omega) fun i hi q => h i (by omega)
theorem own_ofB {f : Int → Int} {e : Int32 → Int32} (hf : ∀ x y, f x < f y ↔ x < y) {n : Nat} {K A : Nat → Int} {J B : Nat → Int32} {k a : Int} {j b : Int32} (hk : k = f a) (hj : j = e b) (h0 : 0 < n) (h : ∀ i, i < n → K i = f (A i) ∧ J i = e (B i)) : ∀ i, i < n → (own_of n false K J k j).1 i = f ((own_of n false A B a b).1 i) ∧ (own_of n false K J k j).2 i = e ((own_of n false A B a b).2 i) := by
  subst hk hj
  intro i hi
  unfold own_of
  rw [if_neg (show ¬ (false = true) by decide), if_neg (show ¬ (false = true) by decide)]
  by_cases z : a < A 0
  · rw [if_pos (by rw [(h 0 h0).1, hf]; exact z), if_pos z]
    exact own_dn_rel hf (Nat.le_refl n) n K A J B 0 h0 (fun i hi q => h i hi) i hi
  · rw [if_neg (by rw [(h 0 h0).1, hf]; exact z), if_neg z]; exact h i hi
theorem own_st_rel {f : Int → Int} {e : Int32 → Int32} (hf : ∀ x y, f x < f y ↔ x < y) {n : Nat} {K A : Nat → Int} {J B : Nat → Int32} (h0 : 0 < n) (h : ∀ i, i < n → K i = f (A i) ∧ J i = e (B i)) : ∀ j, j < n → ∀ i, i < n → (own_st n K J j).1 i = f ((own_st n A B j).1 i) ∧ (own_st n K J j).2 i = e ((own_st n A B j).2 i)
  | 0, _, i, hi => h i hi
  | j + 1, hj, i, hi => by
    have H := own_st_rel hf h0 h j (by omega)
    have q := H (n - 1 - j) (by omega)
    rw [own_st, own_st, q.1, q.2]
    exact own_dn_rel hf (show n - 1 - j ≤ n by omega) _ _ _ _ _ 0 h0 (fun i hi _ => H i hi) i hi
def own_f (v0 v1 v2 v3 x : Int) : Int := if x ≤ 0 then v0 + x else if x = 1 then v1 else if x = 2 then v2 else v3 + (x - 3)
theorem own_fm {v0 v1 v2 v3 : Int} (h1 : v0 < v1) (h2 : v1 < v2) (h3 : v2 < v3) (x y : Int) : own_f v0 v1 v2 v3 x < own_f v0 v1 v2 v3 y ↔ x < y := by
  unfold own_f
  split <;> split <;> (try split) <;> (try split) <;> (try split) <;> (try split) <;> omega
def own_e (e0 e1 e2 e3 z : Int32) : Int32 := if z = 0 then e0 else if z = 1 then e1 else if z = 2 then e2 else e3

theorem own_or (a b m : Int32) : (a ||| b) &&& m = (a &&& m) ||| (b &&& m) := by
  apply Int32.toBitVec_inj.mp
  simp only [Int32.toBitVec_and, Int32.toBitVec_or]
  ext j hj
  simp only [BitVec.getElem_and, BitVec.getElem_or]
  exact Bool.and_or_distrib_right _ _ _
theorem own_low (p i : Int32) (hi : i &&& (3 : Int32) = i) : ((p &&& (-4 : Int32)) ||| i) &&& (3 : Int32) = i := by
  have e : (-4 : Int32) &&& (3 : Int32) = 0 := by decide
  rw [own_or, Int32.and_assoc, e, hi]
  simp
theorem own_m4 (p i : Int32) (hi : i &&& (3 : Int32) = i) : ((p &&& (-4 : Int32)) ||| i).toInt % 4 = i.toInt := by
  have h := c_mask ((p &&& (-4 : Int32)) ||| i) 3 2 (by decide) (by decide)
  rw [own_low p i hi] at h
  exact h.symm
theorem own_k0 (p : Int32) : ((p &&& (-4 : Int32)) ||| (0 : Int32)).toInt % 4 = 0 := own_m4 p 0 (by decide)
theorem own_k1 (p : Int32) : ((p &&& (-4 : Int32)) ||| (1 : Int32)).toInt % 4 = 1 := own_m4 p 1 (by decide)
theorem own_k2 (p : Int32) : ((p &&& (-4 : Int32)) ||| (2 : Int32)).toInt % 4 = 2 := own_m4 p 2 (by decide)
theorem own_k3 (p : Int32) : ((p &&& (-4 : Int32)) ||| (3 : Int32)).toInt % 4 = 3 := own_m4 p 3 (by decide)
theorem own_cv (p : Int32) : ((1 : Int32) + (p &&& (3 : Int32))) = 1 ∨ ((1 : Int32) + (p &&& (3 : Int32))) = 2 ∨ ((1 : Int32) + (p &&& (3 : Int32))) = 3 ∨ ((1 : Int32) + (p &&& (3 : Int32))) = 4 := by
  have h1 := c_and p 3 (by decide)
  have e1 : (1 : Int32).toInt = 1 := by decide
  have e3 : (3 : Int32).toInt = 3 := by decide
  have h2 := c_iadd 1 (p &&& 3)
  have h3 := rng32 (1 + (p &&& 3))
  have q : ∀ n : Int32, (1 + (p &&& 3)).toInt = n.toInt → 1 + (p &&& 3) = n := fun n h => Int32.toInt_inj.mp h
  have h : (1 + (p &&& 3)).toInt = 1 ∨ (1 + (p &&& 3)).toInt = 2 ∨ (1 + (p &&& 3)).toInt = 3 ∨ (1 + (p &&& 3)).toInt = 4 := by omega
  rcases h with h | h | h | h
  · exact Or.inl (q 1 h)
  · exact Or.inr (Or.inl (q 2 h))
  · exact Or.inr (Or.inr (Or.inl (q 3 h)))
  · exact Or.inr (Or.inr (Or.inr (q 4 h)))
theorem own_nv (p : Int32) : (((p.toUInt32 >>> ((2 : Int32) &&& 31).toUInt32).toInt32) - (((p.toUInt32 >>> ((2 : Int32) &&& 31).toUInt32).toInt32) / (5 : Int32)) * (5 : Int32)) = 0 ∨ (((p.toUInt32 >>> ((2 : Int32) &&& 31).toUInt32).toInt32) - (((p.toUInt32 >>> ((2 : Int32) &&& 31).toUInt32).toInt32) / (5 : Int32)) * (5 : Int32)) = 1 ∨ (((p.toUInt32 >>> ((2 : Int32) &&& 31).toUInt32).toInt32) - (((p.toUInt32 >>> ((2 : Int32) &&& 31).toUInt32).toInt32) / (5 : Int32)) * (5 : Int32)) = 2 ∨ (((p.toUInt32 >>> ((2 : Int32) &&& 31).toUInt32).toInt32) - (((p.toUInt32 >>> ((2 : Int32) &&& 31).toUInt32).toInt32) / (5 : Int32)) * (5 : Int32)) = 3 ∨ (((p.toUInt32 >>> ((2 : Int32) &&& 31).toUInt32).toInt32) - (((p.toUInt32 >>> ((2 : Int32) &&& 31).toUInt32).toInt32) / (5 : Int32)) * (5 : Int32)) = 4 := by
  rw [irem_eq_mod]
  have h1 := c_iushr p 2 2 (by decide) (by decide)
  have h2 := (c_irem ((p.toUInt32 >>> ((2 : Int32) &&& 31).toUInt32).toInt32) 5 5 (by decide)).1 (by rw [h1]; omega)
  have q : ∀ n : Int32, (((p.toUInt32 >>> ((2 : Int32) &&& 31).toUInt32).toInt32) % 5).toInt = n.toInt → ((p.toUInt32 >>> ((2 : Int32) &&& 31).toUInt32).toInt32) % 5 = n := fun n h => Int32.toInt_inj.mp h
  generalize (((p.toUInt32 >>> ((2 : Int32) &&& 31).toUInt32).toInt32) % 5) = w at *
  have h3 : w.toInt = 0 ∨ w.toInt = 1 ∨ w.toInt = 2 ∨ w.toInt = 3 ∨ w.toInt = 4 := by omega
  rcases h3 with h3 | h3 | h3 | h3 | h3
  · exact Or.inl (q 0 h3)
  · exact Or.inr (Or.inl (q 1 h3))
  · exact Or.inr (Or.inr (Or.inl (q 2 h3)))
  · exact Or.inr (Or.inr (Or.inr (Or.inl (q 3 h3))))
  · exact Or.inr (Or.inr (Or.inr (Or.inr (q 4 h3))))
def own_mn (a b : Int64) : Int64 := if b < a then b else a
def own_mx (a b : Int64) : Int64 := if a < b then b else a
theorem own_mnI (a b : Int64) : (own_mn a b).toInt = min a.toInt b.toInt := by
  unfold own_mn
  by_cases q : b < a
  · rw [if_pos q]; rw [Int64.lt_iff_toInt_lt] at q; omega
  · rw [if_neg q]; rw [Int64.lt_iff_toInt_lt] at q; omega
theorem own_mxI (a b : Int64) : (own_mx a b).toInt = max a.toInt b.toInt := by
  unfold own_mx
  by_cases q : a < b
  · rw [if_pos q]; rw [Int64.lt_iff_toInt_lt] at q; omega
  · rw [if_neg q]; rw [Int64.lt_iff_toInt_lt] at q; omega
theorem own_R0 (f : Int → Int) (e : Int32 → Int32) : ∀ i, i < 0 → (fun _ => (0 : Int)) i = f ((fun _ => (0 : Int)) i) ∧ (fun _ => (0 : Int32)) i = e ((fun _ => (0 : Int32)) i) := fun i hi => absurd hi (by omega)
theorem own_net_0123 (s0 s1 s2 s3 : Int64) (h0 : s0.toInt ≤ s1.toInt) (h1 : s1.toInt ≤ s2.toInt) (h2 : s2.toInt ≤ s3.toInt) : (own_mn (own_mn s0 s1) (own_mn s2 s3)) = s0 ∧ (own_mn (own_mn (own_mx s0 s1) (own_mx s2 s3)) (own_mx (own_mn s0 s1) (own_mn s2 s3))) = s1 ∧ (own_mx (own_mn (own_mx s0 s1) (own_mx s2 s3)) (own_mx (own_mn s0 s1) (own_mn s2 s3))) = s2 ∧ (own_mx (own_mx s0 s1) (own_mx s2 s3)) = s3 := by
  refine ⟨?_, ?_, ?_, ?_⟩ <;> refine Int64.toInt_inj.mp ?_ <;> simp only [own_mnI, own_mxI] <;> generalize s0.toInt = a at * <;> generalize s1.toInt = b at * <;> generalize s2.toInt = c at * <;> generalize s3.toInt = d at * <;> omega
theorem own_net_0132 (s0 s1 s2 s3 : Int64) (h0 : s0.toInt ≤ s1.toInt) (h1 : s1.toInt ≤ s3.toInt) (h2 : s3.toInt ≤ s2.toInt) : (own_mn (own_mn s0 s1) (own_mn s2 s3)) = s0 ∧ (own_mn (own_mn (own_mx s0 s1) (own_mx s2 s3)) (own_mx (own_mn s0 s1) (own_mn s2 s3))) = s1 ∧ (own_mx (own_mn (own_mx s0 s1) (own_mx s2 s3)) (own_mx (own_mn s0 s1) (own_mn s2 s3))) = s3 ∧ (own_mx (own_mx s0 s1) (own_mx s2 s3)) = s2 := by
  refine ⟨?_, ?_, ?_, ?_⟩ <;> refine Int64.toInt_inj.mp ?_ <;> simp only [own_mnI, own_mxI] <;> generalize s0.toInt = a at * <;> generalize s1.toInt = b at * <;> generalize s2.toInt = c at * <;> generalize s3.toInt = d at * <;> omega
theorem own_net_0213 (s0 s1 s2 s3 : Int64) (h0 : s0.toInt ≤ s2.toInt) (h1 : s2.toInt ≤ s1.toInt) (h2 : s1.toInt ≤ s3.toInt) : (own_mn (own_mn s0 s1) (own_mn s2 s3)) = s0 ∧ (own_mn (own_mn (own_mx s0 s1) (own_mx s2 s3)) (own_mx (own_mn s0 s1) (own_mn s2 s3))) = s2 ∧ (own_mx (own_mn (own_mx s0 s1) (own_mx s2 s3)) (own_mx (own_mn s0 s1) (own_mn s2 s3))) = s1 ∧ (own_mx (own_mx s0 s1) (own_mx s2 s3)) = s3 := by
  refine ⟨?_, ?_, ?_, ?_⟩ <;> refine Int64.toInt_inj.mp ?_ <;> simp only [own_mnI, own_mxI] <;> generalize s0.toInt = a at * <;> generalize s1.toInt = b at * <;> generalize s2.toInt = c at * <;> generalize s3.toInt = d at * <;> omega
theorem own_net_0231 (s0 s1 s2 s3 : Int64) (h0 : s0.toInt ≤ s2.toInt) (h1 : s2.toInt ≤ s3.toInt) (h2 : s3.toInt ≤ s1.toInt) : (own_mn (own_mn s0 s1) (own_mn s2 s3)) = s0 ∧ (own_mn (own_mn (own_mx s0 s1) (own_mx s2 s3)) (own_mx (own_mn s0 s1) (own_mn s2 s3))) = s2 ∧ (own_mx (own_mn (own_mx s0 s1) (own_mx s2 s3)) (own_mx (own_mn s0 s1) (own_mn s2 s3))) = s3 ∧ (own_mx (own_mx s0 s1) (own_mx s2 s3)) = s1 := by
  refine ⟨?_, ?_, ?_, ?_⟩ <;> refine Int64.toInt_inj.mp ?_ <;> simp only [own_mnI, own_mxI] <;> generalize s0.toInt = a at * <;> generalize s1.toInt = b at * <;> generalize s2.toInt = c at * <;> generalize s3.toInt = d at * <;> omega
theorem own_net_0312 (s0 s1 s2 s3 : Int64) (h0 : s0.toInt ≤ s3.toInt) (h1 : s3.toInt ≤ s1.toInt) (h2 : s1.toInt ≤ s2.toInt) : (own_mn (own_mn s0 s1) (own_mn s2 s3)) = s0 ∧ (own_mn (own_mn (own_mx s0 s1) (own_mx s2 s3)) (own_mx (own_mn s0 s1) (own_mn s2 s3))) = s3 ∧ (own_mx (own_mn (own_mx s0 s1) (own_mx s2 s3)) (own_mx (own_mn s0 s1) (own_mn s2 s3))) = s1 ∧ (own_mx (own_mx s0 s1) (own_mx s2 s3)) = s2 := by
  refine ⟨?_, ?_, ?_, ?_⟩ <;> refine Int64.toInt_inj.mp ?_ <;> simp only [own_mnI, own_mxI] <;> generalize s0.toInt = a at * <;> generalize s1.toInt = b at * <;> generalize s2.toInt = c at * <;> generalize s3.toInt = d at * <;> omega
theorem own_net_0321 (s0 s1 s2 s3 : Int64) (h0 : s0.toInt ≤ s3.toInt) (h1 : s3.toInt ≤ s2.toInt) (h2 : s2.toInt ≤ s1.toInt) : (own_mn (own_mn s0 s1) (own_mn s2 s3)) = s0 ∧ (own_mn (own_mn (own_mx s0 s1) (own_mx s2 s3)) (own_mx (own_mn s0 s1) (own_mn s2 s3))) = s3 ∧ (own_mx (own_mn (own_mx s0 s1) (own_mx s2 s3)) (own_mx (own_mn s0 s1) (own_mn s2 s3))) = s2 ∧ (own_mx (own_mx s0 s1) (own_mx s2 s3)) = s1 := by
  refine ⟨?_, ?_, ?_, ?_⟩ <;> refine Int64.toInt_inj.mp ?_ <;> simp only [own_mnI, own_mxI] <;> generalize s0.toInt = a at * <;> generalize s1.toInt = b at * <;> generalize s2.toInt = c at * <;> generalize s3.toInt = d at * <;> omega
theorem own_net_1023 (s0 s1 s2 s3 : Int64) (h0 : s1.toInt ≤ s0.toInt) (h1 : s0.toInt ≤ s2.toInt) (h2 : s2.toInt ≤ s3.toInt) : (own_mn (own_mn s0 s1) (own_mn s2 s3)) = s1 ∧ (own_mn (own_mn (own_mx s0 s1) (own_mx s2 s3)) (own_mx (own_mn s0 s1) (own_mn s2 s3))) = s0 ∧ (own_mx (own_mn (own_mx s0 s1) (own_mx s2 s3)) (own_mx (own_mn s0 s1) (own_mn s2 s3))) = s2 ∧ (own_mx (own_mx s0 s1) (own_mx s2 s3)) = s3 := by
  refine ⟨?_, ?_, ?_, ?_⟩ <;> refine Int64.toInt_inj.mp ?_ <;> simp only [own_mnI, own_mxI] <;> generalize s0.toInt = a at * <;> generalize s1.toInt = b at * <;> generalize s2.toInt = c at * <;> generalize s3.toInt = d at * <;> omega
theorem own_net_1032 (s0 s1 s2 s3 : Int64) (h0 : s1.toInt ≤ s0.toInt) (h1 : s0.toInt ≤ s3.toInt) (h2 : s3.toInt ≤ s2.toInt) : (own_mn (own_mn s0 s1) (own_mn s2 s3)) = s1 ∧ (own_mn (own_mn (own_mx s0 s1) (own_mx s2 s3)) (own_mx (own_mn s0 s1) (own_mn s2 s3))) = s0 ∧ (own_mx (own_mn (own_mx s0 s1) (own_mx s2 s3)) (own_mx (own_mn s0 s1) (own_mn s2 s3))) = s3 ∧ (own_mx (own_mx s0 s1) (own_mx s2 s3)) = s2 := by
  refine ⟨?_, ?_, ?_, ?_⟩ <;> refine Int64.toInt_inj.mp ?_ <;> simp only [own_mnI, own_mxI] <;> generalize s0.toInt = a at * <;> generalize s1.toInt = b at * <;> generalize s2.toInt = c at * <;> generalize s3.toInt = d at * <;> omega
theorem own_net_1203 (s0 s1 s2 s3 : Int64) (h0 : s1.toInt ≤ s2.toInt) (h1 : s2.toInt ≤ s0.toInt) (h2 : s0.toInt ≤ s3.toInt) : (own_mn (own_mn s0 s1) (own_mn s2 s3)) = s1 ∧ (own_mn (own_mn (own_mx s0 s1) (own_mx s2 s3)) (own_mx (own_mn s0 s1) (own_mn s2 s3))) = s2 ∧ (own_mx (own_mn (own_mx s0 s1) (own_mx s2 s3)) (own_mx (own_mn s0 s1) (own_mn s2 s3))) = s0 ∧ (own_mx (own_mx s0 s1) (own_mx s2 s3)) = s3 := by
  refine ⟨?_, ?_, ?_, ?_⟩ <;> refine Int64.toInt_inj.mp ?_ <;> simp only [own_mnI, own_mxI] <;> generalize s0.toInt = a at * <;> generalize s1.toInt = b at * <;> generalize s2.toInt = c at * <;> generalize s3.toInt = d at * <;> omega
theorem own_net_1230 (s0 s1 s2 s3 : Int64) (h0 : s1.toInt ≤ s2.toInt) (h1 : s2.toInt ≤ s3.toInt) (h2 : s3.toInt ≤ s0.toInt) : (own_mn (own_mn s0 s1) (own_mn s2 s3)) = s1 ∧ (own_mn (own_mn (own_mx s0 s1) (own_mx s2 s3)) (own_mx (own_mn s0 s1) (own_mn s2 s3))) = s2 ∧ (own_mx (own_mn (own_mx s0 s1) (own_mx s2 s3)) (own_mx (own_mn s0 s1) (own_mn s2 s3))) = s3 ∧ (own_mx (own_mx s0 s1) (own_mx s2 s3)) = s0 := by
  refine ⟨?_, ?_, ?_, ?_⟩ <;> refine Int64.toInt_inj.mp ?_ <;> simp only [own_mnI, own_mxI] <;> generalize s0.toInt = a at * <;> generalize s1.toInt = b at * <;> generalize s2.toInt = c at * <;> generalize s3.toInt = d at * <;> omega
theorem own_net_1302 (s0 s1 s2 s3 : Int64) (h0 : s1.toInt ≤ s3.toInt) (h1 : s3.toInt ≤ s0.toInt) (h2 : s0.toInt ≤ s2.toInt) : (own_mn (own_mn s0 s1) (own_mn s2 s3)) = s1 ∧ (own_mn (own_mn (own_mx s0 s1) (own_mx s2 s3)) (own_mx (own_mn s0 s1) (own_mn s2 s3))) = s3 ∧ (own_mx (own_mn (own_mx s0 s1) (own_mx s2 s3)) (own_mx (own_mn s0 s1) (own_mn s2 s3))) = s0 ∧ (own_mx (own_mx s0 s1) (own_mx s2 s3)) = s2 := by
  refine ⟨?_, ?_, ?_, ?_⟩ <;> refine Int64.toInt_inj.mp ?_ <;> simp only [own_mnI, own_mxI] <;> generalize s0.toInt = a at * <;> generalize s1.toInt = b at * <;> generalize s2.toInt = c at * <;> generalize s3.toInt = d at * <;> omega
theorem own_net_1320 (s0 s1 s2 s3 : Int64) (h0 : s1.toInt ≤ s3.toInt) (h1 : s3.toInt ≤ s2.toInt) (h2 : s2.toInt ≤ s0.toInt) : (own_mn (own_mn s0 s1) (own_mn s2 s3)) = s1 ∧ (own_mn (own_mn (own_mx s0 s1) (own_mx s2 s3)) (own_mx (own_mn s0 s1) (own_mn s2 s3))) = s3 ∧ (own_mx (own_mn (own_mx s0 s1) (own_mx s2 s3)) (own_mx (own_mn s0 s1) (own_mn s2 s3))) = s2 ∧ (own_mx (own_mx s0 s1) (own_mx s2 s3)) = s0 := by
  refine ⟨?_, ?_, ?_, ?_⟩ <;> refine Int64.toInt_inj.mp ?_ <;> simp only [own_mnI, own_mxI] <;> generalize s0.toInt = a at * <;> generalize s1.toInt = b at * <;> generalize s2.toInt = c at * <;> generalize s3.toInt = d at * <;> omega
theorem own_net_2013 (s0 s1 s2 s3 : Int64) (h0 : s2.toInt ≤ s0.toInt) (h1 : s0.toInt ≤ s1.toInt) (h2 : s1.toInt ≤ s3.toInt) : (own_mn (own_mn s0 s1) (own_mn s2 s3)) = s2 ∧ (own_mn (own_mn (own_mx s0 s1) (own_mx s2 s3)) (own_mx (own_mn s0 s1) (own_mn s2 s3))) = s0 ∧ (own_mx (own_mn (own_mx s0 s1) (own_mx s2 s3)) (own_mx (own_mn s0 s1) (own_mn s2 s3))) = s1 ∧ (own_mx (own_mx s0 s1) (own_mx s2 s3)) = s3 := by
  refine ⟨?_, ?_, ?_, ?_⟩ <;> refine Int64.toInt_inj.mp ?_ <;> simp only [own_mnI, own_mxI] <;> generalize s0.toInt = a at * <;> generalize s1.toInt = b at * <;> generalize s2.toInt = c at * <;> generalize s3.toInt = d at * <;> omega
theorem own_net_2031 (s0 s1 s2 s3 : Int64) (h0 : s2.toInt ≤ s0.toInt) (h1 : s0.toInt ≤ s3.toInt) (h2 : s3.toInt ≤ s1.toInt) : (own_mn (own_mn s0 s1) (own_mn s2 s3)) = s2 ∧ (own_mn (own_mn (own_mx s0 s1) (own_mx s2 s3)) (own_mx (own_mn s0 s1) (own_mn s2 s3))) = s0 ∧ (own_mx (own_mn (own_mx s0 s1) (own_mx s2 s3)) (own_mx (own_mn s0 s1) (own_mn s2 s3))) = s3 ∧ (own_mx (own_mx s0 s1) (own_mx s2 s3)) = s1 := by
  refine ⟨?_, ?_, ?_, ?_⟩ <;> refine Int64.toInt_inj.mp ?_ <;> simp only [own_mnI, own_mxI] <;> generalize s0.toInt = a at * <;> generalize s1.toInt = b at * <;> generalize s2.toInt = c at * <;> generalize s3.toInt = d at * <;> omega
theorem own_net_2103 (s0 s1 s2 s3 : Int64) (h0 : s2.toInt ≤ s1.toInt) (h1 : s1.toInt ≤ s0.toInt) (h2 : s0.toInt ≤ s3.toInt) : (own_mn (own_mn s0 s1) (own_mn s2 s3)) = s2 ∧ (own_mn (own_mn (own_mx s0 s1) (own_mx s2 s3)) (own_mx (own_mn s0 s1) (own_mn s2 s3))) = s1 ∧ (own_mx (own_mn (own_mx s0 s1) (own_mx s2 s3)) (own_mx (own_mn s0 s1) (own_mn s2 s3))) = s0 ∧ (own_mx (own_mx s0 s1) (own_mx s2 s3)) = s3 := by
  refine ⟨?_, ?_, ?_, ?_⟩ <;> refine Int64.toInt_inj.mp ?_ <;> simp only [own_mnI, own_mxI] <;> generalize s0.toInt = a at * <;> generalize s1.toInt = b at * <;> generalize s2.toInt = c at * <;> generalize s3.toInt = d at * <;> omega
theorem own_net_2130 (s0 s1 s2 s3 : Int64) (h0 : s2.toInt ≤ s1.toInt) (h1 : s1.toInt ≤ s3.toInt) (h2 : s3.toInt ≤ s0.toInt) : (own_mn (own_mn s0 s1) (own_mn s2 s3)) = s2 ∧ (own_mn (own_mn (own_mx s0 s1) (own_mx s2 s3)) (own_mx (own_mn s0 s1) (own_mn s2 s3))) = s1 ∧ (own_mx (own_mn (own_mx s0 s1) (own_mx s2 s3)) (own_mx (own_mn s0 s1) (own_mn s2 s3))) = s3 ∧ (own_mx (own_mx s0 s1) (own_mx s2 s3)) = s0 := by
  refine ⟨?_, ?_, ?_, ?_⟩ <;> refine Int64.toInt_inj.mp ?_ <;> simp only [own_mnI, own_mxI] <;> generalize s0.toInt = a at * <;> generalize s1.toInt = b at * <;> generalize s2.toInt = c at * <;> generalize s3.toInt = d at * <;> omega
theorem own_net_2301 (s0 s1 s2 s3 : Int64) (h0 : s2.toInt ≤ s3.toInt) (h1 : s3.toInt ≤ s0.toInt) (h2 : s0.toInt ≤ s1.toInt) : (own_mn (own_mn s0 s1) (own_mn s2 s3)) = s2 ∧ (own_mn (own_mn (own_mx s0 s1) (own_mx s2 s3)) (own_mx (own_mn s0 s1) (own_mn s2 s3))) = s3 ∧ (own_mx (own_mn (own_mx s0 s1) (own_mx s2 s3)) (own_mx (own_mn s0 s1) (own_mn s2 s3))) = s0 ∧ (own_mx (own_mx s0 s1) (own_mx s2 s3)) = s1 := by
  refine ⟨?_, ?_, ?_, ?_⟩ <;> refine Int64.toInt_inj.mp ?_ <;> simp only [own_mnI, own_mxI] <;> generalize s0.toInt = a at * <;> generalize s1.toInt = b at * <;> generalize s2.toInt = c at * <;> generalize s3.toInt = d at * <;> omega
theorem own_net_2310 (s0 s1 s2 s3 : Int64) (h0 : s2.toInt ≤ s3.toInt) (h1 : s3.toInt ≤ s1.toInt) (h2 : s1.toInt ≤ s0.toInt) : (own_mn (own_mn s0 s1) (own_mn s2 s3)) = s2 ∧ (own_mn (own_mn (own_mx s0 s1) (own_mx s2 s3)) (own_mx (own_mn s0 s1) (own_mn s2 s3))) = s3 ∧ (own_mx (own_mn (own_mx s0 s1) (own_mx s2 s3)) (own_mx (own_mn s0 s1) (own_mn s2 s3))) = s1 ∧ (own_mx (own_mx s0 s1) (own_mx s2 s3)) = s0 := by
  refine ⟨?_, ?_, ?_, ?_⟩ <;> refine Int64.toInt_inj.mp ?_ <;> simp only [own_mnI, own_mxI] <;> generalize s0.toInt = a at * <;> generalize s1.toInt = b at * <;> generalize s2.toInt = c at * <;> generalize s3.toInt = d at * <;> omega
theorem own_net_3012 (s0 s1 s2 s3 : Int64) (h0 : s3.toInt ≤ s0.toInt) (h1 : s0.toInt ≤ s1.toInt) (h2 : s1.toInt ≤ s2.toInt) : (own_mn (own_mn s0 s1) (own_mn s2 s3)) = s3 ∧ (own_mn (own_mn (own_mx s0 s1) (own_mx s2 s3)) (own_mx (own_mn s0 s1) (own_mn s2 s3))) = s0 ∧ (own_mx (own_mn (own_mx s0 s1) (own_mx s2 s3)) (own_mx (own_mn s0 s1) (own_mn s2 s3))) = s1 ∧ (own_mx (own_mx s0 s1) (own_mx s2 s3)) = s2 := by
  refine ⟨?_, ?_, ?_, ?_⟩ <;> refine Int64.toInt_inj.mp ?_ <;> simp only [own_mnI, own_mxI] <;> generalize s0.toInt = a at * <;> generalize s1.toInt = b at * <;> generalize s2.toInt = c at * <;> generalize s3.toInt = d at * <;> omega
theorem own_net_3021 (s0 s1 s2 s3 : Int64) (h0 : s3.toInt ≤ s0.toInt) (h1 : s0.toInt ≤ s2.toInt) (h2 : s2.toInt ≤ s1.toInt) : (own_mn (own_mn s0 s1) (own_mn s2 s3)) = s3 ∧ (own_mn (own_mn (own_mx s0 s1) (own_mx s2 s3)) (own_mx (own_mn s0 s1) (own_mn s2 s3))) = s0 ∧ (own_mx (own_mn (own_mx s0 s1) (own_mx s2 s3)) (own_mx (own_mn s0 s1) (own_mn s2 s3))) = s2 ∧ (own_mx (own_mx s0 s1) (own_mx s2 s3)) = s1 := by
  refine ⟨?_, ?_, ?_, ?_⟩ <;> refine Int64.toInt_inj.mp ?_ <;> simp only [own_mnI, own_mxI] <;> generalize s0.toInt = a at * <;> generalize s1.toInt = b at * <;> generalize s2.toInt = c at * <;> generalize s3.toInt = d at * <;> omega
theorem own_net_3102 (s0 s1 s2 s3 : Int64) (h0 : s3.toInt ≤ s1.toInt) (h1 : s1.toInt ≤ s0.toInt) (h2 : s0.toInt ≤ s2.toInt) : (own_mn (own_mn s0 s1) (own_mn s2 s3)) = s3 ∧ (own_mn (own_mn (own_mx s0 s1) (own_mx s2 s3)) (own_mx (own_mn s0 s1) (own_mn s2 s3))) = s1 ∧ (own_mx (own_mn (own_mx s0 s1) (own_mx s2 s3)) (own_mx (own_mn s0 s1) (own_mn s2 s3))) = s0 ∧ (own_mx (own_mx s0 s1) (own_mx s2 s3)) = s2 := by
  refine ⟨?_, ?_, ?_, ?_⟩ <;> refine Int64.toInt_inj.mp ?_ <;> simp only [own_mnI, own_mxI] <;> generalize s0.toInt = a at * <;> generalize s1.toInt = b at * <;> generalize s2.toInt = c at * <;> generalize s3.toInt = d at * <;> omega
theorem own_net_3120 (s0 s1 s2 s3 : Int64) (h0 : s3.toInt ≤ s1.toInt) (h1 : s1.toInt ≤ s2.toInt) (h2 : s2.toInt ≤ s0.toInt) : (own_mn (own_mn s0 s1) (own_mn s2 s3)) = s3 ∧ (own_mn (own_mn (own_mx s0 s1) (own_mx s2 s3)) (own_mx (own_mn s0 s1) (own_mn s2 s3))) = s1 ∧ (own_mx (own_mn (own_mx s0 s1) (own_mx s2 s3)) (own_mx (own_mn s0 s1) (own_mn s2 s3))) = s2 ∧ (own_mx (own_mx s0 s1) (own_mx s2 s3)) = s0 := by
  refine ⟨?_, ?_, ?_, ?_⟩ <;> refine Int64.toInt_inj.mp ?_ <;> simp only [own_mnI, own_mxI] <;> generalize s0.toInt = a at * <;> generalize s1.toInt = b at * <;> generalize s2.toInt = c at * <;> generalize s3.toInt = d at * <;> omega
theorem own_net_3201 (s0 s1 s2 s3 : Int64) (h0 : s3.toInt ≤ s2.toInt) (h1 : s2.toInt ≤ s0.toInt) (h2 : s0.toInt ≤ s1.toInt) : (own_mn (own_mn s0 s1) (own_mn s2 s3)) = s3 ∧ (own_mn (own_mn (own_mx s0 s1) (own_mx s2 s3)) (own_mx (own_mn s0 s1) (own_mn s2 s3))) = s2 ∧ (own_mx (own_mn (own_mx s0 s1) (own_mx s2 s3)) (own_mx (own_mn s0 s1) (own_mn s2 s3))) = s0 ∧ (own_mx (own_mx s0 s1) (own_mx s2 s3)) = s1 := by
  refine ⟨?_, ?_, ?_, ?_⟩ <;> refine Int64.toInt_inj.mp ?_ <;> simp only [own_mnI, own_mxI] <;> generalize s0.toInt = a at * <;> generalize s1.toInt = b at * <;> generalize s2.toInt = c at * <;> generalize s3.toInt = d at * <;> omega
theorem own_net_3210 (s0 s1 s2 s3 : Int64) (h0 : s3.toInt ≤ s2.toInt) (h1 : s2.toInt ≤ s1.toInt) (h2 : s1.toInt ≤ s0.toInt) : (own_mn (own_mn s0 s1) (own_mn s2 s3)) = s3 ∧ (own_mn (own_mn (own_mx s0 s1) (own_mx s2 s3)) (own_mx (own_mn s0 s1) (own_mn s2 s3))) = s2 ∧ (own_mx (own_mn (own_mx s0 s1) (own_mx s2 s3)) (own_mx (own_mn s0 s1) (own_mn s2 s3))) = s1 ∧ (own_mx (own_mx s0 s1) (own_mx s2 s3)) = s0 := by
  refine ⟨?_, ?_, ?_, ?_⟩ <;> refine Int64.toInt_inj.mp ?_ <;> simp only [own_mnI, own_mxI] <;> generalize s0.toInt = a at * <;> generalize s1.toInt = b at * <;> generalize s2.toInt = c at * <;> generalize s3.toInt = d at * <;> omega
theorem own_ord2 (x0 x1 : Int) (d01 : x0 ≠ x1) : (x0 < x1) ∨ (x1 < x0) := by
  by_cases h1_0 : x0 < x1
  · exact Or.inl (by omega)
  · exact Or.inr ((by omega))
theorem own_ord3 (x0 x1 x2 : Int) (d01 : x0 ≠ x1) (d02 : x0 ≠ x2) (d12 : x1 ≠ x2) : (x0 < x1 ∧ x1 < x2) ∨ (x0 < x2 ∧ x2 < x1) ∨ (x1 < x0 ∧ x0 < x2) ∨ (x1 < x2 ∧ x2 < x0) ∨ (x2 < x0 ∧ x0 < x1) ∨ (x2 < x1 ∧ x1 < x0) := by
  by_cases h1_0 : x0 < x1
  · by_cases h2_1 : x1 < x2
    · exact Or.inl ⟨(by omega), (by omega)⟩
    · by_cases h2_0 : x0 < x2
      · exact Or.inr (Or.inl ⟨(by omega), (by omega)⟩)
      · exact Or.inr (Or.inr (Or.inr (Or.inr (Or.inl ⟨(by omega), (by omega)⟩))))
  · by_cases h2_0 : x0 < x2
    · exact Or.inr (Or.inr (Or.inl ⟨(by omega), (by omega)⟩))
    · by_cases h2_1 : x1 < x2
      · exact Or.inr (Or.inr (Or.inr (Or.inl ⟨(by omega), (by omega)⟩)))
      · exact Or.inr (Or.inr (Or.inr (Or.inr (Or.inr (⟨(by omega), (by omega)⟩)))))
theorem own_ord4 (x0 x1 x2 x3 : Int) (d01 : x0 ≠ x1) (d02 : x0 ≠ x2) (d03 : x0 ≠ x3) (d12 : x1 ≠ x2) (d13 : x1 ≠ x3) (d23 : x2 ≠ x3) : (x0 < x1 ∧ x1 < x2 ∧ x2 < x3) ∨ (x0 < x1 ∧ x1 < x3 ∧ x3 < x2) ∨ (x0 < x2 ∧ x2 < x1 ∧ x1 < x3) ∨ (x0 < x2 ∧ x2 < x3 ∧ x3 < x1) ∨ (x0 < x3 ∧ x3 < x1 ∧ x1 < x2) ∨ (x0 < x3 ∧ x3 < x2 ∧ x2 < x1) ∨ (x1 < x0 ∧ x0 < x2 ∧ x2 < x3) ∨ (x1 < x0 ∧ x0 < x3 ∧ x3 < x2) ∨ (x1 < x2 ∧ x2 < x0 ∧ x0 < x3) ∨ (x1 < x2 ∧ x2 < x3 ∧ x3 < x0) ∨ (x1 < x3 ∧ x3 < x0 ∧ x0 < x2) ∨ (x1 < x3 ∧ x3 < x2 ∧ x2 < x0) ∨ (x2 < x0 ∧ x0 < x1 ∧ x1 < x3) ∨ (x2 < x0 ∧ x0 < x3 ∧ x3 < x1) ∨ (x2 < x1 ∧ x1 < x0 ∧ x0 < x3) ∨ (x2 < x1 ∧ x1 < x3 ∧ x3 < x0) ∨ (x2 < x3 ∧ x3 < x0 ∧ x0 < x1) ∨ (x2 < x3 ∧ x3 < x1 ∧ x1 < x0) ∨ (x3 < x0 ∧ x0 < x1 ∧ x1 < x2) ∨ (x3 < x0 ∧ x0 < x2 ∧ x2 < x1) ∨ (x3 < x1 ∧ x1 < x0 ∧ x0 < x2) ∨ (x3 < x1 ∧ x1 < x2 ∧ x2 < x0) ∨ (x3 < x2 ∧ x2 < x0 ∧ x0 < x1) ∨ (x3 < x2 ∧ x2 < x1 ∧ x1 < x0) := by
  by_cases h1_0 : x0 < x1
  · by_cases h2_1 : x1 < x2
    · by_cases h3_2 : x2 < x3
      · exact Or.inl ⟨(by omega), (by omega), (by omega)⟩
      · by_cases h3_1 : x1 < x3
        · exact Or.inr (Or.inl ⟨(by omega), (by omega), (by omega)⟩)
        · by_cases h3_0 : x0 < x3
          · exact Or.inr (Or.inr (Or.inr (Or.inr (Or.inl ⟨(by omega), (by omega), (by omega)⟩))))
          · exact Or.inr (Or.inr (Or.inr (Or.inr (Or.inr (Or.inr (Or.inr (Or.inr (Or.inr (Or.inr (Or.inr (Or.inr (Or.inr (Or.inr (Or.inr (Or.inr (Or.inr (Or.inr (Or.inl ⟨(by omega), (by omega), (by omega)⟩))))))))))))))))))
    · by_cases h2_0 : x0 < x2
      · by_cases h3_1 : x1 < x3
        · exact Or.inr (Or.inr (Or.inl ⟨(by omega), (by omega), (by omega)⟩))
        · by_cases h3_2 : x2 < x3
          · exact Or.inr (Or.inr (Or.inr (Or.inl ⟨(by omega), (by omega), (by omega)⟩)))
          · by_cases h3_0 : x0 < x3
            · exact Or.inr (Or.inr (Or.inr (Or.inr (Or.inr (Or.inl ⟨(by omega), (by omega), (by omega)⟩)))))
            · exact Or.inr (Or.inr (Or.inr (Or.inr (Or.inr (Or.inr (Or.inr (Or.inr (Or.inr (Or.inr (Or.inr (Or.inr (Or.inr (Or.inr (Or.inr (Or.inr (Or.inr (Or.inr (Or.inr (Or.inl ⟨(by omega), (by omega), (by omega)⟩)))))))))))))))))))
      · by_cases h3_1 : x1 < x3
        · exact Or.inr (Or.inr (Or.inr (Or.inr (Or.inr (Or.inr (Or.inr (Or.inr (Or.inr (Or.inr (Or.inr (Or.inr (Or.inl ⟨(by omega), (by omega), (by omega)⟩))))))))))))
        · by_cases h3_0 : x0 < x3
          · exact Or.inr (Or.inr (Or.inr (Or.inr (Or.inr (Or.inr (Or.inr (Or.inr (Or.inr (Or.inr (Or.inr (Or.inr (Or.inr (Or.inl ⟨(by omega), (by omega), (by omega)⟩)))))))))))))
          · by_cases h3_2 : x2 < x3
            · exact Or.inr (Or.inr (Or.inr (Or.inr (Or.inr (Or.inr (Or.inr (Or.inr (Or.inr (Or.inr (Or.inr (Or.inr (Or.inr (Or.inr (Or.inr (Or.inr (Or.inl ⟨(by omega), (by omega), (by omega)⟩))))))))))))))))
            · exact Or.inr (Or.inr (Or.inr (Or.inr (Or.inr (Or.inr (Or.inr (Or.inr (Or.inr (Or.inr (Or.inr (Or.inr (Or.inr (Or.inr (Or.inr (Or.inr (Or.inr (Or.inr (Or.inr (Or.inr (Or.inr (Or.inr (Or.inl ⟨(by omega), (by omega), (by omega)⟩))))))))))))))))))))))
  · by_cases h2_0 : x0 < x2
    · by_cases h3_2 : x2 < x3
      · exact Or.inr (Or.inr (Or.inr (Or.inr (Or.inr (Or.inr (Or.inl ⟨(by omega), (by omega), (by omega)⟩))))))
      · by_cases h3_0 : x0 < x3
        · exact Or.inr (Or.inr (Or.inr (Or.inr (Or.inr (Or.inr (Or.inr (Or.inl ⟨(by omega), (by omega), (by omega)⟩)))))))
        · by_cases h3_1 : x1 < x3
          · exact Or.inr (Or.inr (Or.inr (Or.inr (Or.inr (Or.inr (Or.inr (Or.inr (Or.inr (Or.inr (Or.inl ⟨(by omega), (by omega), (by omega)⟩))))))))))
          · exact Or.inr (Or.inr (Or.inr (Or.inr (Or.inr (Or.inr (Or.inr (Or.inr (Or.inr (Or.inr (Or.inr (Or.inr (Or.inr (Or.inr (Or.inr (Or.inr (Or.inr (Or.inr (Or.inr (Or.inr (Or.inl ⟨(by omega), (by omega), (by omega)⟩))))))))))))))))))))
    · by_cases h2_1 : x1 < x2
      · by_cases h3_0 : x0 < x3
        · exact Or.inr (Or.inr (Or.inr (Or.inr (Or.inr (Or.inr (Or.inr (Or.inr (Or.inl ⟨(by omega), (by omega), (by omega)⟩))))))))
        · by_cases h3_2 : x2 < x3
          · exact Or.inr (Or.inr (Or.inr (Or.inr (Or.inr (Or.inr (Or.inr (Or.inr (Or.inr (Or.inl ⟨(by omega), (by omega), (by omega)⟩)))))))))
          · by_cases h3_1 : x1 < x3
            · exact Or.inr (Or.inr (Or.inr (Or.inr (Or.inr (Or.inr (Or.inr (Or.inr (Or.inr (Or.inr (Or.inr (Or.inl ⟨(by omega), (by omega), (by omega)⟩)))))))))))
            · exact Or.inr (Or.inr (Or.inr (Or.inr (Or.inr (Or.inr (Or.inr (Or.inr (Or.inr (Or.inr (Or.inr (Or.inr (Or.inr (Or.inr (Or.inr (Or.inr (Or.inr (Or.inr (Or.inr (Or.inr (Or.inr (Or.inl ⟨(by omega), (by omega), (by omega)⟩)))))))))))))))))))))
      · by_cases h3_0 : x0 < x3
        · exact Or.inr (Or.inr (Or.inr (Or.inr (Or.inr (Or.inr (Or.inr (Or.inr (Or.inr (Or.inr (Or.inr (Or.inr (Or.inr (Or.inr (Or.inl ⟨(by omega), (by omega), (by omega)⟩))))))))))))))
        · by_cases h3_1 : x1 < x3
          · exact Or.inr (Or.inr (Or.inr (Or.inr (Or.inr (Or.inr (Or.inr (Or.inr (Or.inr (Or.inr (Or.inr (Or.inr (Or.inr (Or.inr (Or.inr (Or.inl ⟨(by omega), (by omega), (by omega)⟩)))))))))))))))
          · by_cases h3_2 : x2 < x3
            · exact Or.inr (Or.inr (Or.inr (Or.inr (Or.inr (Or.inr (Or.inr (Or.inr (Or.inr (Or.inr (Or.inr (Or.inr (Or.inr (Or.inr (Or.inr (Or.inr (Or.inr (Or.inl ⟨(by omega), (by omega), (by omega)⟩)))))))))))))))))
            · exact Or.inr (Or.inr (Or.inr (Or.inr (Or.inr (Or.inr (Or.inr (Or.inr (Or.inr (Or.inr (Or.inr (Or.inr (Or.inr (Or.inr (Or.inr (Or.inr (Or.inr (Or.inr (Or.inr (Or.inr (Or.inr (Or.inr (Or.inr (⟨(by omega), (by omega), (by omega)⟩)))))))))))))))))))))))
theorem own_fin_1_1 (e0 : Int32)  (K1 : Nat → Int) (J1 : Nat → Int32) (gK1 : (own_of 0 true (fun _ => (0 : Int)) (fun _ => (0 : Int32)) e0.toInt e0).1 = K1) (gJ1 : (own_of 0 true (fun _ => (0 : Int)) (fun _ => (0 : Int32)) e0.toInt e0).2 = J1) (of : Nat → Int32) (hof : ∀ d, d < 1 → of d = (own_st 1 K1 J1 (1 - 1 - d)).2 0) : (of 0).toInt64 = (own_mn (own_mn e0.toInt64 (9223372036854775807 : Int64)) (own_mn (9223372036854775807 : Int64) (9223372036854775807 : Int64))) := by
  subst gK1 gJ1
  have q0 := c_i2l e0
  have r0 := rng32 e0
  have qM : (9223372036854775807 : Int64).toInt = 9223372036854775807 := by decide
  have Hf := own_fm (v0 := e0.toInt) (v1 := (e0.toInt + 1)) (v2 := ((e0.toInt + 1) + 1)) (v3 := (((e0.toInt + 1) + 1) + 1)) (by omega) (by omega) (by omega)
  have R0 := own_R0 (own_f e0.toInt (e0.toInt + 1) ((e0.toInt + 1) + 1) (((e0.toInt + 1) + 1) + 1)) (own_e e0 0 0 0)
  have R1 := own_ofA Hf (e := (own_e e0 0 0 0)) (n := 0) (a := 0) (b := 0) (k := e0.toInt) (j := e0) (by simp [own_f]) (by first | rfl | simp [own_e]) R0
  obtain ⟨z0, z1, z2, z3⟩ := own_net_0123 e0.toInt64 (9223372036854775807 : Int64) (9223372036854775807 : Int64) (9223372036854775807 : Int64) (by omega) (by omega) (by omega)
  have o0 : of 0 = e0 := (hof 0 (by decide)).trans ((own_st_rel Hf (by decide) R1 (1 - 1 - 0) (by decide) 0 (by decide)).2.trans ((congrArg (own_e e0 0 0 0) (show _ = (0 : Int32) from by decide +kernel)).trans (by first | rfl | simp [own_e])))
  rw [o0, z0]
theorem own_fin_1_2 (e0 e1 : Int32) (d01 : e0.toInt ≠ e1.toInt) (K1 : Nat → Int) (J1 : Nat → Int32) (gK1 : (own_of 0 true (fun _ => (0 : Int)) (fun _ => (0 : Int32)) e0.toInt e0).1 = K1) (gJ1 : (own_of 0 true (fun _ => (0 : Int)) (fun _ => (0 : Int32)) e0.toInt e0).2 = J1) (K2 : Nat → Int) (J2 : Nat → Int32) (gK2 : (own_of 1 false K1 J1 e1.toInt e1).1 = K2) (gJ2 : (own_of 1 false K1 J1 e1.toInt e1).2 = J2) (of : Nat → Int32) (hof : ∀ d, d < 1 → of d = (own_st 1 K2 J2 (1 - 1 - d)).2 0) : (of 0).toInt64 = (own_mn (own_mn e0.toInt64 e1.toInt64) (own_mn (9223372036854775807 : Int64) (9223372036854775807 : Int64))) := by
  subst gK1 gJ1
  subst gK2 gJ2
  have q0 := c_i2l e0
  have r0 := rng32 e0
  have q1 := c_i2l e1
  have r1 := rng32 e1
  have qM : (9223372036854775807 : Int64).toInt = 9223372036854775807 := by decide
  rcases own_ord2 e0.toInt e1.toInt d01 with h | h
  · have Hf := own_fm (v0 := e0.toInt) (v1 := e1.toInt) (v2 := (e1.toInt + 1)) (v3 := ((e1.toInt + 1) + 1)) (by omega) (by omega) (by omega)
    have R0 := own_R0 (own_f e0.toInt e1.toInt (e1.toInt + 1) ((e1.toInt + 1) + 1)) (own_e e0 e1 0 0)
    have R1 := own_ofA Hf (e := (own_e e0 e1 0 0)) (n := 0) (a := 0) (b := 0) (k := e0.toInt) (j := e0) (by simp [own_f]) (by first | rfl | simp [own_e]) R0
    have R2 := own_ofB Hf (e := (own_e e0 e1 0 0)) (n := 1) (a := 1) (b := 1) (k := e1.toInt) (j := e1) (by simp [own_f]) (by first | rfl | simp [own_e]) (by decide) R1
    obtain ⟨z0, z1, z2, z3⟩ := own_net_0123 e0.toInt64 e1.toInt64 (9223372036854775807 : Int64) (9223372036854775807 : Int64) (by omega) (by omega) (by omega)
    have o0 : of 0 = e0 := (hof 0 (by decide)).trans ((own_st_rel Hf (by decide) R2 (1 - 1 - 0) (by decide) 0 (by decide)).2.trans ((congrArg (own_e e0 e1 0 0) (show _ = (0 : Int32) from by decide +kernel)).trans (by first | rfl | simp [own_e])))
    rw [o0, z0]
  · have Hf := own_fm (v0 := e1.toInt) (v1 := e0.toInt) (v2 := (e0.toInt + 1)) (v3 := ((e0.toInt + 1) + 1)) (by omega) (by omega) (by omega)
    have R0 := own_R0 (own_f e1.toInt e0.toInt (e0.toInt + 1) ((e0.toInt + 1) + 1)) (own_e e0 e1 0 0)
    have R1 := own_ofA Hf (e := (own_e e0 e1 0 0)) (n := 0) (a := 1) (b := 0) (k := e0.toInt) (j := e0) (by simp [own_f]) (by first | rfl | simp [own_e]) R0
    have R2 := own_ofB Hf (e := (own_e e0 e1 0 0)) (n := 1) (a := 0) (b := 1) (k := e1.toInt) (j := e1) (by simp [own_f]) (by first | rfl | simp [own_e]) (by decide) R1
    obtain ⟨z0, z1, z2, z3⟩ := own_net_1023 e0.toInt64 e1.toInt64 (9223372036854775807 : Int64) (9223372036854775807 : Int64) (by omega) (by omega) (by omega)
    have o0 : of 0 = e1 := (hof 0 (by decide)).trans ((own_st_rel Hf (by decide) R2 (1 - 1 - 0) (by decide) 0 (by decide)).2.trans ((congrArg (own_e e0 e1 0 0) (show _ = (1 : Int32) from by decide +kernel)).trans (by first | rfl | simp [own_e])))
    rw [o0, z0]
theorem own_fin_1_3 (e0 e1 e2 : Int32) (d01 : e0.toInt ≠ e1.toInt) (d02 : e0.toInt ≠ e2.toInt) (d12 : e1.toInt ≠ e2.toInt) (K1 : Nat → Int) (J1 : Nat → Int32) (gK1 : (own_of 0 true (fun _ => (0 : Int)) (fun _ => (0 : Int32)) e0.toInt e0).1 = K1) (gJ1 : (own_of 0 true (fun _ => (0 : Int)) (fun _ => (0 : Int32)) e0.toInt e0).2 = J1) (K2 : Nat → Int) (J2 : Nat → Int32) (gK2 : (own_of 1 false K1 J1 e1.toInt e1).1 = K2) (gJ2 : (own_of 1 false K1 J1 e1.toInt e1).2 = J2) (K3 : Nat → Int) (J3 : Nat → Int32) (gK3 : (own_of 1 false K2 J2 e2.toInt e2).1 = K3) (gJ3 : (own_of 1 false K2 J2 e2.toInt e2).2 = J3) (of : Nat → Int32) (hof : ∀ d, d < 1 → of d = (own_st 1 K3 J3 (1 - 1 - d)).2 0) : (of 0).toInt64 = (own_mn (own_mn e0.toInt64 e1.toInt64) (own_mn e2.toInt64 (9223372036854775807 : Int64))) := by
  subst gK1 gJ1
  subst gK2 gJ2
  subst gK3 gJ3
  have q0 := c_i2l e0
  have r0 := rng32 e0
  have q1 := c_i2l e1
  have r1 := rng32 e1
  have q2 := c_i2l e2
  have r2 := rng32 e2
  have qM : (9223372036854775807 : Int64).toInt = 9223372036854775807 := by decide
  rcases own_ord3 e0.toInt e1.toInt e2.toInt d01 d02 d12 with h | h | h | h | h | h
  · have Hf := own_fm (v0 := e0.toInt) (v1 := e1.toInt) (v2 := e2.toInt) (v3 := (e2.toInt + 1)) (by omega) (by omega) (by omega)
    have R0 := own_R0 (own_f e0.toInt e1.toInt e2.toInt (e2.toInt + 1)) (own_e e0 e1 e2 0)
    have R1 := own_ofA Hf (e := (own_e e0 e1 e2 0)) (n := 0) (a := 0) (b := 0) (k := e0.toInt) (j := e0) (by simp [own_f]) (by first | rfl | simp [own_e]) R0
    have R2 := own_ofB Hf (e := (own_e e0 e1 e2 0)) (n := 1) (a := 1) (b := 1) (k := e1.toInt) (j := e1) (by simp [own_f]) (by first | rfl | simp [own_e]) (by decide) R1
    have R3 := own_ofB Hf (e := (own_e e0 e1 e2 0)) (n := 1) (a := 2) (b := 2) (k := e2.toInt) (j := e2) (by simp [own_f]) (by first | rfl | simp [own_e]) (by decide) R2
    obtain ⟨z0, z1, z2, z3⟩ := own_net_0123 e0.toInt64 e1.toInt64 e2.toInt64 (9223372036854775807 : Int64) (by omega) (by omega) (by omega)
    have o0 : of 0 = e0 := (hof 0 (by decide)).trans ((own_st_rel Hf (by decide) R3 (1 - 1 - 0) (by decide) 0 (by decide)).2.trans ((congrArg (own_e e0 e1 e2 0) (show _ = (0 : Int32) from by decide +kernel)).trans (by first | rfl | simp [own_e])))
    rw [o0, z0]
  · have Hf := own_fm (v0 := e0.toInt) (v1 := e2.toInt) (v2 := e1.toInt) (v3 := (e1.toInt + 1)) (by omega) (by omega) (by omega)
    have R0 := own_R0 (own_f e0.toInt e2.toInt e1.toInt (e1.toInt + 1)) (own_e e0 e1 e2 0)
    have R1 := own_ofA Hf (e := (own_e e0 e1 e2 0)) (n := 0) (a := 0) (b := 0) (k := e0.toInt) (j := e0) (by simp [own_f]) (by first | rfl | simp [own_e]) R0
    have R2 := own_ofB Hf (e := (own_e e0 e1 e2 0)) (n := 1) (a := 2) (b := 1) (k := e1.toInt) (j := e1) (by simp [own_f]) (by first | rfl | simp [own_e]) (by decide) R1
    have R3 := own_ofB Hf (e := (own_e e0 e1 e2 0)) (n := 1) (a := 1) (b := 2) (k := e2.toInt) (j := e2) (by simp [own_f]) (by first | rfl | simp [own_e]) (by decide) R2
    obtain ⟨z0, z1, z2, z3⟩ := own_net_0213 e0.toInt64 e1.toInt64 e2.toInt64 (9223372036854775807 : Int64) (by omega) (by omega) (by omega)
    have o0 : of 0 = e0 := (hof 0 (by decide)).trans ((own_st_rel Hf (by decide) R3 (1 - 1 - 0) (by decide) 0 (by decide)).2.trans ((congrArg (own_e e0 e1 e2 0) (show _ = (0 : Int32) from by decide +kernel)).trans (by first | rfl | simp [own_e])))
    rw [o0, z0]
  · have Hf := own_fm (v0 := e1.toInt) (v1 := e0.toInt) (v2 := e2.toInt) (v3 := (e2.toInt + 1)) (by omega) (by omega) (by omega)
    have R0 := own_R0 (own_f e1.toInt e0.toInt e2.toInt (e2.toInt + 1)) (own_e e0 e1 e2 0)
    have R1 := own_ofA Hf (e := (own_e e0 e1 e2 0)) (n := 0) (a := 1) (b := 0) (k := e0.toInt) (j := e0) (by simp [own_f]) (by first | rfl | simp [own_e]) R0
    have R2 := own_ofB Hf (e := (own_e e0 e1 e2 0)) (n := 1) (a := 0) (b := 1) (k := e1.toInt) (j := e1) (by simp [own_f]) (by first | rfl | simp [own_e]) (by decide) R1
    have R3 := own_ofB Hf (e := (own_e e0 e1 e2 0)) (n := 1) (a := 2) (b := 2) (k := e2.toInt) (j := e2) (by simp [own_f]) (by first | rfl | simp [own_e]) (by decide) R2
    obtain ⟨z0, z1, z2, z3⟩ := own_net_1023 e0.toInt64 e1.toInt64 e2.toInt64 (9223372036854775807 : Int64) (by omega) (by omega) (by omega)
    have o0 : of 0 = e1 := (hof 0 (by decide)).trans ((own_st_rel Hf (by decide) R3 (1 - 1 - 0) (by decide) 0 (by decide)).2.trans ((congrArg (own_e e0 e1 e2 0) (show _ = (1 : Int32) from by decide +kernel)).trans (by first | rfl | simp [own_e])))
    rw [o0, z0]
  · have Hf := own_fm (v0 := e1.toInt) (v1 := e2.toInt) (v2 := e0.toInt) (v3 := (e0.toInt + 1)) (by omega) (by omega) (by omega)
    have R0 := own_R0 (own_f e1.toInt e2.toInt e0.toInt (e0.toInt + 1)) (own_e e0 e1 e2 0)
    have R1 := own_ofA Hf (e := (own_e e0 e1 e2 0)) (n := 0) (a := 2) (b := 0) (k := e0.toInt) (j := e0) (by simp [own_f]) (by first | rfl | simp [own_e]) R0
    have R2 := own_ofB Hf (e := (own_e e0 e1 e2 0)) (n := 1) (a := 0) (b := 1) (k := e1.toInt) (j := e1) (by simp [own_f]) (by first | rfl | simp [own_e]) (by decide) R1
    have R3 := own_ofB Hf (e := (own_e e0 e1 e2 0)) (n := 1) (a := 1) (b := 2) (k := e2.toInt) (j := e2) (by simp [own_f]) (by first | rfl | simp [own_e]) (by decide) R2
    obtain ⟨z0, z1, z2, z3⟩ := own_net_1203 e0.toInt64 e1.toInt64 e2.toInt64 (9223372036854775807 : Int64) (by omega) (by omega) (by omega)
    have o0 : of 0 = e1 := (hof 0 (by decide)).trans ((own_st_rel Hf (by decide) R3 (1 - 1 - 0) (by decide) 0 (by decide)).2.trans ((congrArg (own_e e0 e1 e2 0) (show _ = (1 : Int32) from by decide +kernel)).trans (by first | rfl | simp [own_e])))
    rw [o0, z0]
  · have Hf := own_fm (v0 := e2.toInt) (v1 := e0.toInt) (v2 := e1.toInt) (v3 := (e1.toInt + 1)) (by omega) (by omega) (by omega)
    have R0 := own_R0 (own_f e2.toInt e0.toInt e1.toInt (e1.toInt + 1)) (own_e e0 e1 e2 0)
    have R1 := own_ofA Hf (e := (own_e e0 e1 e2 0)) (n := 0) (a := 1) (b := 0) (k := e0.toInt) (j := e0) (by simp [own_f]) (by first | rfl | simp [own_e]) R0
    have R2 := own_ofB Hf (e := (own_e e0 e1 e2 0)) (n := 1) (a := 2) (b := 1) (k := e1.toInt) (j := e1) (by simp [own_f]) (by first | rfl | simp [own_e]) (by decide) R1
    have R3 := own_ofB Hf (e := (own_e e0 e1 e2 0)) (n := 1) (a := 0) (b := 2) (k := e2.toInt) (j := e2) (by simp [own_f]) (by first | rfl | simp [own_e]) (by decide) R2
    obtain ⟨z0, z1, z2, z3⟩ := own_net_2013 e0.toInt64 e1.toInt64 e2.toInt64 (9223372036854775807 : Int64) (by omega) (by omega) (by omega)
    have o0 : of 0 = e2 := (hof 0 (by decide)).trans ((own_st_rel Hf (by decide) R3 (1 - 1 - 0) (by decide) 0 (by decide)).2.trans ((congrArg (own_e e0 e1 e2 0) (show _ = (2 : Int32) from by decide +kernel)).trans (by first | rfl | simp [own_e])))
    rw [o0, z0]
  · have Hf := own_fm (v0 := e2.toInt) (v1 := e1.toInt) (v2 := e0.toInt) (v3 := (e0.toInt + 1)) (by omega) (by omega) (by omega)
    have R0 := own_R0 (own_f e2.toInt e1.toInt e0.toInt (e0.toInt + 1)) (own_e e0 e1 e2 0)
    have R1 := own_ofA Hf (e := (own_e e0 e1 e2 0)) (n := 0) (a := 2) (b := 0) (k := e0.toInt) (j := e0) (by simp [own_f]) (by first | rfl | simp [own_e]) R0
    have R2 := own_ofB Hf (e := (own_e e0 e1 e2 0)) (n := 1) (a := 1) (b := 1) (k := e1.toInt) (j := e1) (by simp [own_f]) (by first | rfl | simp [own_e]) (by decide) R1
    have R3 := own_ofB Hf (e := (own_e e0 e1 e2 0)) (n := 1) (a := 0) (b := 2) (k := e2.toInt) (j := e2) (by simp [own_f]) (by first | rfl | simp [own_e]) (by decide) R2
    obtain ⟨z0, z1, z2, z3⟩ := own_net_2103 e0.toInt64 e1.toInt64 e2.toInt64 (9223372036854775807 : Int64) (by omega) (by omega) (by omega)
    have o0 : of 0 = e2 := (hof 0 (by decide)).trans ((own_st_rel Hf (by decide) R3 (1 - 1 - 0) (by decide) 0 (by decide)).2.trans ((congrArg (own_e e0 e1 e2 0) (show _ = (2 : Int32) from by decide +kernel)).trans (by first | rfl | simp [own_e])))
    rw [o0, z0]
theorem own_fin_1_4 (e0 e1 e2 e3 : Int32) (d01 : e0.toInt ≠ e1.toInt) (d02 : e0.toInt ≠ e2.toInt) (d03 : e0.toInt ≠ e3.toInt) (d12 : e1.toInt ≠ e2.toInt) (d13 : e1.toInt ≠ e3.toInt) (d23 : e2.toInt ≠ e3.toInt) (K1 : Nat → Int) (J1 : Nat → Int32) (gK1 : (own_of 0 true (fun _ => (0 : Int)) (fun _ => (0 : Int32)) e0.toInt e0).1 = K1) (gJ1 : (own_of 0 true (fun _ => (0 : Int)) (fun _ => (0 : Int32)) e0.toInt e0).2 = J1) (K2 : Nat → Int) (J2 : Nat → Int32) (gK2 : (own_of 1 false K1 J1 e1.toInt e1).1 = K2) (gJ2 : (own_of 1 false K1 J1 e1.toInt e1).2 = J2) (K3 : Nat → Int) (J3 : Nat → Int32) (gK3 : (own_of 1 false K2 J2 e2.toInt e2).1 = K3) (gJ3 : (own_of 1 false K2 J2 e2.toInt e2).2 = J3) (K4 : Nat → Int) (J4 : Nat → Int32) (gK4 : (own_of 1 false K3 J3 e3.toInt e3).1 = K4) (gJ4 : (own_of 1 false K3 J3 e3.toInt e3).2 = J4) (of : Nat → Int32) (hof : ∀ d, d < 1 → of d = (own_st 1 K4 J4 (1 - 1 - d)).2 0) : (of 0).toInt64 = (own_mn (own_mn e0.toInt64 e1.toInt64) (own_mn e2.toInt64 e3.toInt64)) := by
  subst gK1 gJ1
  subst gK2 gJ2
  subst gK3 gJ3
  subst gK4 gJ4
  have q0 := c_i2l e0
  have r0 := rng32 e0
  have q1 := c_i2l e1
  have r1 := rng32 e1
  have q2 := c_i2l e2
  have r2 := rng32 e2
  have q3 := c_i2l e3
  have r3 := rng32 e3
  have qM : (9223372036854775807 : Int64).toInt = 9223372036854775807 := by decide
  rcases own_ord4 e0.toInt e1.toInt e2.toInt e3.toInt d01 d02 d03 d12 d13 d23 with h | h | h | h | h | h | h | h | h | h | h | h | h | h | h | h | h | h | h | h | h | h | h | h
  · have Hf := own_fm (v0 := e0.toInt) (v1 := e1.toInt) (v2 := e2.toInt) (v3 := e3.toInt) (by omega) (by omega) (by omega)
    have R0 := own_R0 (own_f e0.toInt e1.toInt e2.toInt e3.toInt) (own_e e0 e1 e2 e3)
    have R1 := own_ofA Hf (e := (own_e e0 e1 e2 e3)) (n := 0) (a := 0) (b := 0) (k := e0.toInt) (j := e0) (by simp [own_f]) (by first | rfl | simp [own_e]) R0
    have R2 := own_ofB Hf (e := (own_e e0 e1 e2 e3)) (n := 1) (a := 1) (b := 1) (k := e1.toInt) (j := e1) (by simp [own_f]) (by first | rfl | simp [own_e]) (by decide) R1
    have R3 := own_ofB Hf (e := (own_e e0 e1 e2 e3)) (n := 1) (a := 2) (b := 2) (k := e2.toInt) (j := e2) (by simp [own_f]) (by first | rfl | simp [own_e]) (by decide) R2
    have R4 := own_ofB Hf (e := (own_e e0 e1 e2 e3)) (n := 1) (a := 3) (b := 3) (k := e3.toInt) (j := e3) (by simp [own_f]) (by first | rfl | simp [own_e]) (by decide) R3
    obtain ⟨z0, z1, z2, z3⟩ := own_net_0123 e0.toInt64 e1.toInt64 e2.toInt64 e3.toInt64 (by omega) (by omega) (by omega)
    have o0 : of 0 = e0 := (hof 0 (by decide)).trans ((own_st_rel Hf (by decide) R4 (1 - 1 - 0) (by decide) 0 (by decide)).2.trans ((congrArg (own_e e0 e1 e2 e3) (show _ = (0 : Int32) from by decide +kernel)).trans (by first | rfl | simp [own_e])))
    rw [o0, z0]
  · have Hf := own_fm (v0 := e0.toInt) (v1 := e1.toInt) (v2 := e3.toInt) (v3 := e2.toInt) (by omega) (by omega) (by omega)
    have R0 := own_R0 (own_f e0.toInt e1.toInt e3.toInt e2.toInt) (own_e e0 e1 e2 e3)
    have R1 := own_ofA Hf (e := (own_e e0 e1 e2 e3)) (n := 0) (a := 0) (b := 0) (k := e0.toInt) (j := e0) (by simp [own_f]) (by first | rfl | simp [own_e]) R0
    have R2 := own_ofB Hf (e := (own_e e0 e1 e2 e3)) (n := 1) (a := 1) (b := 1) (k := e1.toInt) (j := e1) (by simp [own_f]) (by first | rfl | simp [own_e]) (by decide) R1
    have R3 := own_ofB Hf (e := (own_e e0 e1 e2 e3)) (n := 1) (a := 3) (b := 2) (k := e2.toInt) (j := e2) (by simp [own_f]) (by first | rfl | simp [own_e]) (by decide) R2
    have R4 := own_ofB Hf (e := (own_e e0 e1 e2 e3)) (n := 1) (a := 2) (b := 3) (k := e3.toInt) (j := e3) (by simp [own_f]) (by first | rfl | simp [own_e]) (by decide) R3
    obtain ⟨z0, z1, z2, z3⟩ := own_net_0132 e0.toInt64 e1.toInt64 e2.toInt64 e3.toInt64 (by omega) (by omega) (by omega)
    have o0 : of 0 = e0 := (hof 0 (by decide)).trans ((own_st_rel Hf (by decide) R4 (1 - 1 - 0) (by decide) 0 (by decide)).2.trans ((congrArg (own_e e0 e1 e2 e3) (show _ = (0 : Int32) from by decide +kernel)).trans (by first | rfl | simp [own_e])))
    rw [o0, z0]
  · have Hf := own_fm (v0 := e0.toInt) (v1 := e2.toInt) (v2 := e1.toInt) (v3 := e3.toInt) (by omega) (by omega) (by omega)
    have R0 := own_R0 (own_f e0.toInt e2.toInt e1.toInt e3.toInt) (own_e e0 e1 e2 e3)
    have R1 := own_ofA Hf (e := (own_e e0 e1 e2 e3)) (n := 0) (a := 0) (b := 0) (k := e0.toInt) (j := e0) (by simp [own_f]) (by first | rfl | simp [own_e]) R0
    have R2 := own_ofB Hf (e := (own_e e0 e1 e2 e3)) (n := 1) (a := 2) (b := 1) (k := e1.toInt) (j := e1) (by simp [own_f]) (by first | rfl | simp [own_e]) (by decide) R1
    have R3 := own_ofB Hf (e := (own_e e0 e1 e2 e3)) (n := 1) (a := 1) (b := 2) (k := e2.toInt) (j := e2) (by simp [own_f]) (by first | rfl | simp [own_e]) (by decide) R2
    have R4 := own_ofB Hf (e := (own_e e0 e1 e2 e3)) (n := 1) (a := 3) (b := 3) (k := e3.toInt) (j := e3) (by simp [own_f]) (by first | rfl | simp [own_e]) (by decide) R3
    obtain ⟨z0, z1, z2, z3⟩ := own_net_0213 e0.toInt64 e1.toInt64 e2.toInt64 e3.toInt64 (by omega) (by omega) (by omega)
    have o0 : of 0 = e0 := (hof 0 (by decide)).trans ((own_st_rel Hf (by decide) R4 (1 - 1 - 0) (by decide) 0 (by decide)).2.trans ((congrArg (own_e e0 e1 e2 e3) (show _ = (0 : Int32) from by decide +kernel)).trans (by first | rfl | simp [own_e])))
    rw [o0, z0]
  · have Hf := own_fm (v0 := e0.toInt) (v1 := e2.toInt) (v2 := e3.toInt) (v3 := e1.toInt) (by omega) (by omega) (by omega)
    have R0 := own_R0 (own_f e0.toInt e2.toInt e3.toInt e1.toInt) (own_e e0 e1 e2 e3)
    have R1 := own_ofA Hf (e := (own_e e0 e1 e2 e3)) (n := 0) (a := 0) (b := 0) (k := e0.toInt) (j := e0) (by simp [own_f]) (by first | rfl | simp [own_e]) R0
    have R2 := own_ofB Hf (e := (own_e e0 e1 e2 e3)) (n := 1) (a := 3) (b := 1) (k := e1.toInt) (j := e1) (by simp [own_f]) (by first | rfl | simp [own_e]) (by decide) R1
    have R3 := own_ofB Hf (e := (own_e e0 e1 e2 e3)) (n := 1) (a := 1) (b := 2) (k := e2.toInt) (j := e2) (by simp [own_f]) (by first | rfl | simp [own_e]) (by decide) R2
    have R4 := own_ofB Hf (e := (own_e e0 e1 e2 e3)) (n := 1) (a := 2) (b := 3) (k := e3.toInt) (j := e3) (by simp [own_f]) (by first | rfl | simp [own_e]) (by decide) R3
    obtain ⟨z0, z1, z2, z3⟩ := own_net_0231 e0.toInt64 e1.toInt64 e2.toInt64 e3.toInt64 (by omega) (by omega) (by omega)
    have o0 : of 0 = e0 := (hof 0 (by decide)).trans ((own_st_rel Hf (by decide) R4 (1 - 1 - 0) (by decide) 0 (by decide)).2.trans ((congrArg (own_e e0 e1 e2 e3) (show _ = (0 : Int32) from by decide +kernel)).trans (by first | rfl | simp [own_e])))
    rw [o0, z0]
  · have Hf := own_fm (v0 := e0.toInt) (v1 := e3.toInt) (v2 := e1.toInt) (v3 := e2.toInt) (by omega) (by omega) (by omega)
    have R0 := own_R0 (own_f e0.toInt e3.toInt e1.toInt e2.toInt) (own_e e0 e1 e2 e3)
    have R1 := own_ofA Hf (e := (own_e e0 e1 e2 e3)) (n := 0) (a := 0) (b := 0) (k := e0.toInt) (j := e0) (by simp [own_f]) (by first | rfl | simp [own_e]) R0
    have R2 := own_ofB Hf (e := (own_e e0 e1 e2 e3)) (n := 1) (a := 2) (b := 1) (k := e1.toInt) (j := e1) (by simp [own_f]) (by first | rfl | simp [own_e]) (by decide) R1
    have R3 := own_ofB Hf (e := (own_e e0 e1 e2 e3)) (n := 1) (a := 3) (b := 2) (k := e2.toInt) (j := e2) (by simp [own_f]) (by first | rfl | simp [own_e]) (by decide) R2
    have R4 := own_ofB Hf (e := (own_e e0 e1 e2 e3)) (n := 1) (a := 1) (b := 3) (k := e3.toInt) (j := e3) (by simp [own_f]) (by first | rfl | simp [own_e]) (by decide) R3
    obtain ⟨z0, z1, z2, z3⟩ := own_net_0312 e0.toInt64 e1.toInt64 e2.toInt64 e3.toInt64 (by omega) (by omega) (by omega)
    have o0 : of 0 = e0 := (hof 0 (by decide)).trans ((own_st_rel Hf (by decide) R4 (1 - 1 - 0) (by decide) 0 (by decide)).2.trans ((congrArg (own_e e0 e1 e2 e3) (show _ = (0 : Int32) from by decide +kernel)).trans (by first | rfl | simp [own_e])))
    rw [o0, z0]
  · have Hf := own_fm (v0 := e0.toInt) (v1 := e3.toInt) (v2 := e2.toInt) (v3 := e1.toInt) (by omega) (by omega) (by omega)
    have R0 := own_R0 (own_f e0.toInt e3.toInt e2.toInt e1.toInt) (own_e e0 e1 e2 e3)
    have R1 := own_ofA Hf (e := (own_e e0 e1 e2 e3)) (n := 0) (a := 0) (b := 0) (k := e0.toInt) (j := e0) (by simp [own_f]) (by first | rfl | simp [own_e]) R0
    have R2 := own_ofB Hf (e := (own_e e0 e1 e2 e3)) (n := 1) (a := 3) (b := 1) (k := e1.toInt) (j := e1) (by simp [own_f]) (by first | rfl | simp [own_e]) (by decide) R1
    have R3 := own_ofB Hf (e := (own_e e0 e1 e2 e3)) (n := 1) (a := 2) (b := 2) (k := e2.toInt) (j := e2) (by simp [own_f]) (by first | rfl | simp [own_e]) (by decide) R2
    have R4 := own_ofB Hf (e := (own_e e0 e1 e2 e3)) (n := 1) (a := 1) (b := 3) (k := e3.toInt) (j := e3) (by simp [own_f]) (by first | rfl | simp [own_e]) (by decide) R3
    obtain ⟨z0, z1, z2, z3⟩ := own_net_0321 e0.toInt64 e1.toInt64 e2.toInt64 e3.toInt64 (by omega) (by omega) (by omega)
    have o0 : of 0 = e0 := (hof 0 (by decide)).trans ((own_st_rel Hf (by decide) R4 (1 - 1 - 0) (by decide) 0 (by decide)).2.trans ((congrArg (own_e e0 e1 e2 e3) (show _ = (0 : Int32) from by decide +kernel)).trans (by first | rfl | simp [own_e])))
    rw [o0, z0]
  · have Hf := own_fm (v0 := e1.toInt) (v1 := e0.toInt) (v2 := e2.toInt) (v3 := e3.toInt) (by omega) (by omega) (by omega)
    have R0 := own_R0 (own_f e1.toInt e0.toInt e2.toInt e3.toInt) (own_e e0 e1 e2 e3)
    have R1 := own_ofA Hf (e := (own_e e0 e1 e2 e3)) (n := 0) (a := 1) (b := 0) (k := e0.toInt) (j := e0) (by simp [own_f]) (by first | rfl | simp [own_e]) R0
    have R2 := own_ofB Hf (e := (own_e e0 e1 e2 e3)) (n := 1) (a := 0) (b := 1) (k := e1.toInt) (j := e1) (by simp [own_f]) (by first | rfl | simp [own_e]) (by decide) R1
    have R3 := own_ofB Hf (e := (own_e e0 e1 e2 e3)) (n := 1) (a := 2) (b := 2) (k := e2.toInt) (j := e2) (by simp [own_f]) (by first | rfl | simp [own_e]) (by decide) R2
    have R4 := own_ofB Hf (e := (own_e e0 e1 e2 e3)) (n := 1) (a := 3) (b := 3) (k := e3.toInt) (j := e3) (by simp [own_f]) (by first | rfl | simp [own_e]) (by decide) R3
    obtain ⟨z0, z1, z2, z3⟩ := own_net_1023 e0.toInt64 e1.toInt64 e2.toInt64 e3.toInt64 (by omega) (by omega) (by omega)
    have o0 : of 0 = e1 := (hof 0 (by decide)).trans ((own_st_rel Hf (by decide) R4 (1 - 1 - 0) (by decide) 0 (by decide)).2.trans ((congrArg (own_e e0 e1 e2 e3) (show _ = (1 : Int32) from by decide +kernel)).trans (by first | rfl | simp [own_e])))
    rw [o0, z0]
  · have Hf := own_fm (v0 := e1.toInt) (v1 := e0.toInt) (v2 := e3.toInt) (v3 := e2.toInt) (by omega) (by omega) (by omega)
    have R0 := own_R0 (own_f e1.toInt e0.toInt e3.toInt e2.toInt) (own_e e0 e1 e2 e3)
    have R1 := own_ofA Hf (e := (own_e e0 e1 e2 e3)) (n := 0) (a := 1) (b := 0) (k := e0.toInt) (j := e0) (by simp [own_f]) (by first | rfl | simp [own_e]) R0
    have R2 := own_ofB Hf (e := (own_e e0 e1 e2 e3)) (n := 1) (a := 0) (b := 1) (k := e1.toInt) (j := e1) (by simp [own_f]) (by first | rfl | simp [own_e]) (by decide) R1
    have R3 := own_ofB Hf (e := (own_e e0 e1 e2 e3)) (n := 1) (a := 3) (b := 2) (k := e2.toInt) (j := e2) (by simp [own_f]) (by first | rfl | simp [own_e]) (by decide) R2
    have R4 := own_ofB Hf (e := (own_e e0 e1 e2 e3)) (n := 1) (a := 2) (b := 3) (k := e3.toInt) (j := e3) (by simp [own_f]) (by first | rfl | simp [own_e]) (by decide) R3
    obtain ⟨z0, z1, z2, z3⟩ := own_net_1032 e0.toInt64 e1.toInt64 e2.toInt64 e3.toInt64 (by omega) (by omega) (by omega)
    have o0 : of 0 = e1 := (hof 0 (by decide)).trans ((own_st_rel Hf (by decide) R4 (1 - 1 - 0) (by decide) 0 (by decide)).2.trans ((congrArg (own_e e0 e1 e2 e3) (show _ = (1 : Int32) from by decide +kernel)).trans (by first | rfl | simp [own_e])))
    rw [o0, z0]
  · have Hf := own_fm (v0 := e1.toInt) (v1 := e2.toInt) (v2 := e0.toInt) (v3 := e3.toInt) (by omega) (by omega) (by omega)
    have R0 := own_R0 (own_f e1.toInt e2.toInt e0.toInt e3.toInt) (own_e e0 e1 e2 e3)
    have R1 := own_ofA Hf (e := (own_e e0 e1 e2 e3)) (n := 0) (a := 2) (b := 0) (k := e0.toInt) (j := e0) (by simp [own_f]) (by first | rfl | simp [own_e]) R0
    have R2 := own_ofB Hf (e := (own_e e0 e1 e2 e3)) (n := 1) (a := 0) (b := 1) (k := e1.toInt) (j := e1) (by simp [own_f]) (by first | rfl | simp [own_e]) (by decide) R1
    have R3 := own_ofB Hf (e := (own_e e0 e1 e2 e3)) (n := 1) (a := 1) (b := 2) (k := e2.toInt) (j := e2) (by simp [own_f]) (by first | rfl | simp [own_e]) (by decide) R2
    have R4 := own_ofB Hf (e := (own_e e0 e1 e2 e3)) (n := 1) (a := 3) (b := 3) (k := e3.toInt) (j := e3) (by simp [own_f]) (by first | rfl | simp [own_e]) (by decide) R3
    obtain ⟨z0, z1, z2, z3⟩ := own_net_1203 e0.toInt64 e1.toInt64 e2.toInt64 e3.toInt64 (by omega) (by omega) (by omega)
    have o0 : of 0 = e1 := (hof 0 (by decide)).trans ((own_st_rel Hf (by decide) R4 (1 - 1 - 0) (by decide) 0 (by decide)).2.trans ((congrArg (own_e e0 e1 e2 e3) (show _ = (1 : Int32) from by decide +kernel)).trans (by first | rfl | simp [own_e])))
    rw [o0, z0]
  · have Hf := own_fm (v0 := e1.toInt) (v1 := e2.toInt) (v2 := e3.toInt) (v3 := e0.toInt) (by omega) (by omega) (by omega)
    have R0 := own_R0 (own_f e1.toInt e2.toInt e3.toInt e0.toInt) (own_e e0 e1 e2 e3)
    have R1 := own_ofA Hf (e := (own_e e0 e1 e2 e3)) (n := 0) (a := 3) (b := 0) (k := e0.toInt) (j := e0) (by simp [own_f]) (by first | rfl | simp [own_e]) R0
    have R2 := own_ofB Hf (e := (own_e e0 e1 e2 e3)) (n := 1) (a := 0) (b := 1) (k := e1.toInt) (j := e1) (by simp [own_f]) (by first | rfl | simp [own_e]) (by decide) R1
    have R3 := own_ofB Hf (e := (own_e e0 e1 e2 e3)) (n := 1) (a := 1) (b := 2) (k := e2.toInt) (j := e2) (by simp [own_f]) (by first | rfl | simp [own_e]) (by decide) R2
    have R4 := own_ofB Hf (e := (own_e e0 e1 e2 e3)) (n := 1) (a := 2) (b := 3) (k := e3.toInt) (j := e3) (by simp [own_f]) (by first | rfl | simp [own_e]) (by decide) R3
    obtain ⟨z0, z1, z2, z3⟩ := own_net_1230 e0.toInt64 e1.toInt64 e2.toInt64 e3.toInt64 (by omega) (by omega) (by omega)
    have o0 : of 0 = e1 := (hof 0 (by decide)).trans ((own_st_rel Hf (by decide) R4 (1 - 1 - 0) (by decide) 0 (by decide)).2.trans ((congrArg (own_e e0 e1 e2 e3) (show _ = (1 : Int32) from by decide +kernel)).trans (by first | rfl | simp [own_e])))
    rw [o0, z0]
  · have Hf := own_fm (v0 := e1.toInt) (v1 := e3.toInt) (v2 := e0.toInt) (v3 := e2.toInt) (by omega) (by omega) (by omega)
    have R0 := own_R0 (own_f e1.toInt e3.toInt e0.toInt e2.toInt) (own_e e0 e1 e2 e3)
    have R1 := own_ofA Hf (e := (own_e e0 e1 e2 e3)) (n := 0) (a := 2) (b := 0) (k := e0.toInt) (j := e0) (by simp [own_f]) (by first | rfl | simp [own_e]) R0
    have R2 := own_ofB Hf (e := (own_e e0 e1 e2 e3)) (n := 1) (a := 0) (b := 1) (k := e1.toInt) (j := e1) (by simp [own_f]) (by first | rfl | simp [own_e]) (by decide) R1
    have R3 := own_ofB Hf (e := (own_e e0 e1 e2 e3)) (n := 1) (a := 3) (b := 2) (k := e2.toInt) (j := e2) (by simp [own_f]) (by first | rfl | simp [own_e]) (by decide) R2
    have R4 := own_ofB Hf (e := (own_e e0 e1 e2 e3)) (n := 1) (a := 1) (b := 3) (k := e3.toInt) (j := e3) (by simp [own_f]) (by first | rfl | simp [own_e]) (by decide) R3
    obtain ⟨z0, z1, z2, z3⟩ := own_net_1302 e0.toInt64 e1.toInt64 e2.toInt64 e3.toInt64 (by omega) (by omega) (by omega)
    have o0 : of 0 = e1 := (hof 0 (by decide)).trans ((own_st_rel Hf (by decide) R4 (1 - 1 - 0) (by decide) 0 (by decide)).2.trans ((congrArg (own_e e0 e1 e2 e3) (show _ = (1 : Int32) from by decide +kernel)).trans (by first | rfl | simp [own_e])))
    rw [o0, z0]
  · have Hf := own_fm (v0 := e1.toInt) (v1 := e3.toInt) (v2 := e2.toInt) (v3 := e0.toInt) (by omega) (by omega) (by omega)
    have R0 := own_R0 (own_f e1.toInt e3.toInt e2.toInt e0.toInt) (own_e e0 e1 e2 e3)
    have R1 := own_ofA Hf (e := (own_e e0 e1 e2 e3)) (n := 0) (a := 3) (b := 0) (k := e0.toInt) (j := e0) (by simp [own_f]) (by first | rfl | simp [own_e]) R0
    have R2 := own_ofB Hf (e := (own_e e0 e1 e2 e3)) (n := 1) (a := 0) (b := 1) (k := e1.toInt) (j := e1) (by simp [own_f]) (by first | rfl | simp [own_e]) (by decide) R1
    have R3 := own_ofB Hf (e := (own_e e0 e1 e2 e3)) (n := 1) (a := 2) (b := 2) (k := e2.toInt) (j := e2) (by simp [own_f]) (by first | rfl | simp [own_e]) (by decide) R2
    have R4 := own_ofB Hf (e := (own_e e0 e1 e2 e3)) (n := 1) (a := 1) (b := 3) (k := e3.toInt) (j := e3) (by simp [own_f]) (by first | rfl | simp [own_e]) (by decide) R3
    obtain ⟨z0, z1, z2, z3⟩ := own_net_1320 e0.toInt64 e1.toInt64 e2.toInt64 e3.toInt64 (by omega) (by omega) (by omega)
    have o0 : of 0 = e1 := (hof 0 (by decide)).trans ((own_st_rel Hf (by decide) R4 (1 - 1 - 0) (by decide) 0 (by decide)).2.trans ((congrArg (own_e e0 e1 e2 e3) (show _ = (1 : Int32) from by decide +kernel)).trans (by first | rfl | simp [own_e])))
    rw [o0, z0]
  · have Hf := own_fm (v0 := e2.toInt) (v1 := e0.toInt) (v2 := e1.toInt) (v3 := e3.toInt) (by omega) (by omega) (by omega)
    have R0 := own_R0 (own_f e2.toInt e0.toInt e1.toInt e3.toInt) (own_e e0 e1 e2 e3)
    have R1 := own_ofA Hf (e := (own_e e0 e1 e2 e3)) (n := 0) (a := 1) (b := 0) (k := e0.toInt) (j := e0) (by simp [own_f]) (by first | rfl | simp [own_e]) R0
    have R2 := own_ofB Hf (e := (own_e e0 e1 e2 e3)) (n := 1) (a := 2) (b := 1) (k := e1.toInt) (j := e1) (by simp [own_f]) (by first | rfl | simp [own_e]) (by decide) R1
    have R3 := own_ofB Hf (e := (own_e e0 e1 e2 e3)) (n := 1) (a := 0) (b := 2) (k := e2.toInt) (j := e2) (by simp [own_f]) (by first | rfl | simp [own_e]) (by decide) R2
    have R4 := own_ofB Hf (e := (own_e e0 e1 e2 e3)) (n := 1) (a := 3) (b := 3) (k := e3.toInt) (j := e3) (by simp [own_f]) (by first | rfl | simp [own_e]) (by decide) R3
    obtain ⟨z0, z1, z2, z3⟩ := own_net_2013 e0.toInt64 e1.toInt64 e2.toInt64 e3.toInt64 (by omega) (by omega) (by omega)
    have o0 : of 0 = e2 := (hof 0 (by decide)).trans ((own_st_rel Hf (by decide) R4 (1 - 1 - 0) (by decide) 0 (by decide)).2.trans ((congrArg (own_e e0 e1 e2 e3) (show _ = (2 : Int32) from by decide +kernel)).trans (by first | rfl | simp [own_e])))
    rw [o0, z0]
  · have Hf := own_fm (v0 := e2.toInt) (v1 := e0.toInt) (v2 := e3.toInt) (v3 := e1.toInt) (by omega) (by omega) (by omega)
    have R0 := own_R0 (own_f e2.toInt e0.toInt e3.toInt e1.toInt) (own_e e0 e1 e2 e3)
    have R1 := own_ofA Hf (e := (own_e e0 e1 e2 e3)) (n := 0) (a := 1) (b := 0) (k := e0.toInt) (j := e0) (by simp [own_f]) (by first | rfl | simp [own_e]) R0
    have R2 := own_ofB Hf (e := (own_e e0 e1 e2 e3)) (n := 1) (a := 3) (b := 1) (k := e1.toInt) (j := e1) (by simp [own_f]) (by first | rfl | simp [own_e]) (by decide) R1
    have R3 := own_ofB Hf (e := (own_e e0 e1 e2 e3)) (n := 1) (a := 0) (b := 2) (k := e2.toInt) (j := e2) (by simp [own_f]) (by first | rfl | simp [own_e]) (by decide) R2
    have R4 := own_ofB Hf (e := (own_e e0 e1 e2 e3)) (n := 1) (a := 2) (b := 3) (k := e3.toInt) (j := e3) (by simp [own_f]) (by first | rfl | simp [own_e]) (by decide) R3
    obtain ⟨z0, z1, z2, z3⟩ := own_net_2031 e0.toInt64 e1.toInt64 e2.toInt64 e3.toInt64 (by omega) (by omega) (by omega)
    have o0 : of 0 = e2 := (hof 0 (by decide)).trans ((own_st_rel Hf (by decide) R4 (1 - 1 - 0) (by decide) 0 (by decide)).2.trans ((congrArg (own_e e0 e1 e2 e3) (show _ = (2 : Int32) from by decide +kernel)).trans (by first | rfl | simp [own_e])))
    rw [o0, z0]
  · have Hf := own_fm (v0 := e2.toInt) (v1 := e1.toInt) (v2 := e0.toInt) (v3 := e3.toInt) (by omega) (by omega) (by omega)
    have R0 := own_R0 (own_f e2.toInt e1.toInt e0.toInt e3.toInt) (own_e e0 e1 e2 e3)
    have R1 := own_ofA Hf (e := (own_e e0 e1 e2 e3)) (n := 0) (a := 2) (b := 0) (k := e0.toInt) (j := e0) (by simp [own_f]) (by first | rfl | simp [own_e]) R0
    have R2 := own_ofB Hf (e := (own_e e0 e1 e2 e3)) (n := 1) (a := 1) (b := 1) (k := e1.toInt) (j := e1) (by simp [own_f]) (by first | rfl | simp [own_e]) (by decide) R1
    have R3 := own_ofB Hf (e := (own_e e0 e1 e2 e3)) (n := 1) (a := 0) (b := 2) (k := e2.toInt) (j := e2) (by simp [own_f]) (by first | rfl | simp [own_e]) (by decide) R2
    have R4 := own_ofB Hf (e := (own_e e0 e1 e2 e3)) (n := 1) (a := 3) (b := 3) (k := e3.toInt) (j := e3) (by simp [own_f]) (by first | rfl | simp [own_e]) (by decide) R3
    obtain ⟨z0, z1, z2, z3⟩ := own_net_2103 e0.toInt64 e1.toInt64 e2.toInt64 e3.toInt64 (by omega) (by omega) (by omega)
    have o0 : of 0 = e2 := (hof 0 (by decide)).trans ((own_st_rel Hf (by decide) R4 (1 - 1 - 0) (by decide) 0 (by decide)).2.trans ((congrArg (own_e e0 e1 e2 e3) (show _ = (2 : Int32) from by decide +kernel)).trans (by first | rfl | simp [own_e])))
    rw [o0, z0]
  · have Hf := own_fm (v0 := e2.toInt) (v1 := e1.toInt) (v2 := e3.toInt) (v3 := e0.toInt) (by omega) (by omega) (by omega)
    have R0 := own_R0 (own_f e2.toInt e1.toInt e3.toInt e0.toInt) (own_e e0 e1 e2 e3)
    have R1 := own_ofA Hf (e := (own_e e0 e1 e2 e3)) (n := 0) (a := 3) (b := 0) (k := e0.toInt) (j := e0) (by simp [own_f]) (by first | rfl | simp [own_e]) R0
    have R2 := own_ofB Hf (e := (own_e e0 e1 e2 e3)) (n := 1) (a := 1) (b := 1) (k := e1.toInt) (j := e1) (by simp [own_f]) (by first | rfl | simp [own_e]) (by decide) R1
    have R3 := own_ofB Hf (e := (own_e e0 e1 e2 e3)) (n := 1) (a := 0) (b := 2) (k := e2.toInt) (j := e2) (by simp [own_f]) (by first | rfl | simp [own_e]) (by decide) R2
    have R4 := own_ofB Hf (e := (own_e e0 e1 e2 e3)) (n := 1) (a := 2) (b := 3) (k := e3.toInt) (j := e3) (by simp [own_f]) (by first | rfl | simp [own_e]) (by decide) R3
    obtain ⟨z0, z1, z2, z3⟩ := own_net_2130 e0.toInt64 e1.toInt64 e2.toInt64 e3.toInt64 (by omega) (by omega) (by omega)
    have o0 : of 0 = e2 := (hof 0 (by decide)).trans ((own_st_rel Hf (by decide) R4 (1 - 1 - 0) (by decide) 0 (by decide)).2.trans ((congrArg (own_e e0 e1 e2 e3) (show _ = (2 : Int32) from by decide +kernel)).trans (by first | rfl | simp [own_e])))
    rw [o0, z0]
  · have Hf := own_fm (v0 := e2.toInt) (v1 := e3.toInt) (v2 := e0.toInt) (v3 := e1.toInt) (by omega) (by omega) (by omega)
    have R0 := own_R0 (own_f e2.toInt e3.toInt e0.toInt e1.toInt) (own_e e0 e1 e2 e3)
    have R1 := own_ofA Hf (e := (own_e e0 e1 e2 e3)) (n := 0) (a := 2) (b := 0) (k := e0.toInt) (j := e0) (by simp [own_f]) (by first | rfl | simp [own_e]) R0
    have R2 := own_ofB Hf (e := (own_e e0 e1 e2 e3)) (n := 1) (a := 3) (b := 1) (k := e1.toInt) (j := e1) (by simp [own_f]) (by first | rfl | simp [own_e]) (by decide) R1
    have R3 := own_ofB Hf (e := (own_e e0 e1 e2 e3)) (n := 1) (a := 0) (b := 2) (k := e2.toInt) (j := e2) (by simp [own_f]) (by first | rfl | simp [own_e]) (by decide) R2
    have R4 := own_ofB Hf (e := (own_e e0 e1 e2 e3)) (n := 1) (a := 1) (b := 3) (k := e3.toInt) (j := e3) (by simp [own_f]) (by first | rfl | simp [own_e]) (by decide) R3
    obtain ⟨z0, z1, z2, z3⟩ := own_net_2301 e0.toInt64 e1.toInt64 e2.toInt64 e3.toInt64 (by omega) (by omega) (by omega)
    have o0 : of 0 = e2 := (hof 0 (by decide)).trans ((own_st_rel Hf (by decide) R4 (1 - 1 - 0) (by decide) 0 (by decide)).2.trans ((congrArg (own_e e0 e1 e2 e3) (show _ = (2 : Int32) from by decide +kernel)).trans (by first | rfl | simp [own_e])))
    rw [o0, z0]
  · have Hf := own_fm (v0 := e2.toInt) (v1 := e3.toInt) (v2 := e1.toInt) (v3 := e0.toInt) (by omega) (by omega) (by omega)
    have R0 := own_R0 (own_f e2.toInt e3.toInt e1.toInt e0.toInt) (own_e e0 e1 e2 e3)
    have R1 := own_ofA Hf (e := (own_e e0 e1 e2 e3)) (n := 0) (a := 3) (b := 0) (k := e0.toInt) (j := e0) (by simp [own_f]) (by first | rfl | simp [own_e]) R0
    have R2 := own_ofB Hf (e := (own_e e0 e1 e2 e3)) (n := 1) (a := 2) (b := 1) (k := e1.toInt) (j := e1) (by simp [own_f]) (by first | rfl | simp [own_e]) (by decide) R1
    have R3 := own_ofB Hf (e := (own_e e0 e1 e2 e3)) (n := 1) (a := 0) (b := 2) (k := e2.toInt) (j := e2) (by simp [own_f]) (by first | rfl | simp [own_e]) (by decide) R2
    have R4 := own_ofB Hf (e := (own_e e0 e1 e2 e3)) (n := 1) (a := 1) (b := 3) (k := e3.toInt) (j := e3) (by simp [own_f]) (by first | rfl | simp [own_e]) (by decide) R3
    obtain ⟨z0, z1, z2, z3⟩ := own_net_2310 e0.toInt64 e1.toInt64 e2.toInt64 e3.toInt64 (by omega) (by omega) (by omega)
    have o0 : of 0 = e2 := (hof 0 (by decide)).trans ((own_st_rel Hf (by decide) R4 (1 - 1 - 0) (by decide) 0 (by decide)).2.trans ((congrArg (own_e e0 e1 e2 e3) (show _ = (2 : Int32) from by decide +kernel)).trans (by first | rfl | simp [own_e])))
    rw [o0, z0]
  · have Hf := own_fm (v0 := e3.toInt) (v1 := e0.toInt) (v2 := e1.toInt) (v3 := e2.toInt) (by omega) (by omega) (by omega)
    have R0 := own_R0 (own_f e3.toInt e0.toInt e1.toInt e2.toInt) (own_e e0 e1 e2 e3)
    have R1 := own_ofA Hf (e := (own_e e0 e1 e2 e3)) (n := 0) (a := 1) (b := 0) (k := e0.toInt) (j := e0) (by simp [own_f]) (by first | rfl | simp [own_e]) R0
    have R2 := own_ofB Hf (e := (own_e e0 e1 e2 e3)) (n := 1) (a := 2) (b := 1) (k := e1.toInt) (j := e1) (by simp [own_f]) (by first | rfl | simp [own_e]) (by decide) R1
    have R3 := own_ofB Hf (e := (own_e e0 e1 e2 e3)) (n := 1) (a := 3) (b := 2) (k := e2.toInt) (j := e2) (by simp [own_f]) (by first | rfl | simp [own_e]) (by decide) R2
    have R4 := own_ofB Hf (e := (own_e e0 e1 e2 e3)) (n := 1) (a := 0) (b := 3) (k := e3.toInt) (j := e3) (by simp [own_f]) (by first | rfl | simp [own_e]) (by decide) R3
    obtain ⟨z0, z1, z2, z3⟩ := own_net_3012 e0.toInt64 e1.toInt64 e2.toInt64 e3.toInt64 (by omega) (by omega) (by omega)
    have o0 : of 0 = e3 := (hof 0 (by decide)).trans ((own_st_rel Hf (by decide) R4 (1 - 1 - 0) (by decide) 0 (by decide)).2.trans ((congrArg (own_e e0 e1 e2 e3) (show _ = (3 : Int32) from by decide +kernel)).trans (by first | rfl | simp [own_e])))
    rw [o0, z0]
  · have Hf := own_fm (v0 := e3.toInt) (v1 := e0.toInt) (v2 := e2.toInt) (v3 := e1.toInt) (by omega) (by omega) (by omega)
    have R0 := own_R0 (own_f e3.toInt e0.toInt e2.toInt e1.toInt) (own_e e0 e1 e2 e3)
    have R1 := own_ofA Hf (e := (own_e e0 e1 e2 e3)) (n := 0) (a := 1) (b := 0) (k := e0.toInt) (j := e0) (by simp [own_f]) (by first | rfl | simp [own_e]) R0
    have R2 := own_ofB Hf (e := (own_e e0 e1 e2 e3)) (n := 1) (a := 3) (b := 1) (k := e1.toInt) (j := e1) (by simp [own_f]) (by first | rfl | simp [own_e]) (by decide) R1
    have R3 := own_ofB Hf (e := (own_e e0 e1 e2 e3)) (n := 1) (a := 2) (b := 2) (k := e2.toInt) (j := e2) (by simp [own_f]) (by first | rfl | simp [own_e]) (by decide) R2
    have R4 := own_ofB Hf (e := (own_e e0 e1 e2 e3)) (n := 1) (a := 0) (b := 3) (k := e3.toInt) (j := e3) (by simp [own_f]) (by first | rfl | simp [own_e]) (by decide) R3
    obtain ⟨z0, z1, z2, z3⟩ := own_net_3021 e0.toInt64 e1.toInt64 e2.toInt64 e3.toInt64 (by omega) (by omega) (by omega)
    have o0 : of 0 = e3 := (hof 0 (by decide)).trans ((own_st_rel Hf (by decide) R4 (1 - 1 - 0) (by decide) 0 (by decide)).2.trans ((congrArg (own_e e0 e1 e2 e3) (show _ = (3 : Int32) from by decide +kernel)).trans (by first | rfl | simp [own_e])))
    rw [o0, z0]
  · have Hf := own_fm (v0 := e3.toInt) (v1 := e1.toInt) (v2 := e0.toInt) (v3 := e2.toInt) (by omega) (by omega) (by omega)
    have R0 := own_R0 (own_f e3.toInt e1.toInt e0.toInt e2.toInt) (own_e e0 e1 e2 e3)
    have R1 := own_ofA Hf (e := (own_e e0 e1 e2 e3)) (n := 0) (a := 2) (b := 0) (k := e0.toInt) (j := e0) (by simp [own_f]) (by first | rfl | simp [own_e]) R0
    have R2 := own_ofB Hf (e := (own_e e0 e1 e2 e3)) (n := 1) (a := 1) (b := 1) (k := e1.toInt) (j := e1) (by simp [own_f]) (by first | rfl | simp [own_e]) (by decide) R1
    have R3 := own_ofB Hf (e := (own_e e0 e1 e2 e3)) (n := 1) (a := 3) (b := 2) (k := e2.toInt) (j := e2) (by simp [own_f]) (by first | rfl | simp [own_e]) (by decide) R2
    have R4 := own_ofB Hf (e := (own_e e0 e1 e2 e3)) (n := 1) (a := 0) (b := 3) (k := e3.toInt) (j := e3) (by simp [own_f]) (by first | rfl | simp [own_e]) (by decide) R3
    obtain ⟨z0, z1, z2, z3⟩ := own_net_3102 e0.toInt64 e1.toInt64 e2.toInt64 e3.toInt64 (by omega) (by omega) (by omega)
    have o0 : of 0 = e3 := (hof 0 (by decide)).trans ((own_st_rel Hf (by decide) R4 (1 - 1 - 0) (by decide) 0 (by decide)).2.trans ((congrArg (own_e e0 e1 e2 e3) (show _ = (3 : Int32) from by decide +kernel)).trans (by first | rfl | simp [own_e])))
    rw [o0, z0]
  · have Hf := own_fm (v0 := e3.toInt) (v1 := e1.toInt) (v2 := e2.toInt) (v3 := e0.toInt) (by omega) (by omega) (by omega)
    have R0 := own_R0 (own_f e3.toInt e1.toInt e2.toInt e0.toInt) (own_e e0 e1 e2 e3)
    have R1 := own_ofA Hf (e := (own_e e0 e1 e2 e3)) (n := 0) (a := 3) (b := 0) (k := e0.toInt) (j := e0) (by simp [own_f]) (by first | rfl | simp [own_e]) R0
    have R2 := own_ofB Hf (e := (own_e e0 e1 e2 e3)) (n := 1) (a := 1) (b := 1) (k := e1.toInt) (j := e1) (by simp [own_f]) (by first | rfl | simp [own_e]) (by decide) R1
    have R3 := own_ofB Hf (e := (own_e e0 e1 e2 e3)) (n := 1) (a := 2) (b := 2) (k := e2.toInt) (j := e2) (by simp [own_f]) (by first | rfl | simp [own_e]) (by decide) R2
    have R4 := own_ofB Hf (e := (own_e e0 e1 e2 e3)) (n := 1) (a := 0) (b := 3) (k := e3.toInt) (j := e3) (by simp [own_f]) (by first | rfl | simp [own_e]) (by decide) R3
    obtain ⟨z0, z1, z2, z3⟩ := own_net_3120 e0.toInt64 e1.toInt64 e2.toInt64 e3.toInt64 (by omega) (by omega) (by omega)
    have o0 : of 0 = e3 := (hof 0 (by decide)).trans ((own_st_rel Hf (by decide) R4 (1 - 1 - 0) (by decide) 0 (by decide)).2.trans ((congrArg (own_e e0 e1 e2 e3) (show _ = (3 : Int32) from by decide +kernel)).trans (by first | rfl | simp [own_e])))
    rw [o0, z0]
  · have Hf := own_fm (v0 := e3.toInt) (v1 := e2.toInt) (v2 := e0.toInt) (v3 := e1.toInt) (by omega) (by omega) (by omega)
    have R0 := own_R0 (own_f e3.toInt e2.toInt e0.toInt e1.toInt) (own_e e0 e1 e2 e3)
    have R1 := own_ofA Hf (e := (own_e e0 e1 e2 e3)) (n := 0) (a := 2) (b := 0) (k := e0.toInt) (j := e0) (by simp [own_f]) (by first | rfl | simp [own_e]) R0
    have R2 := own_ofB Hf (e := (own_e e0 e1 e2 e3)) (n := 1) (a := 3) (b := 1) (k := e1.toInt) (j := e1) (by simp [own_f]) (by first | rfl | simp [own_e]) (by decide) R1
    have R3 := own_ofB Hf (e := (own_e e0 e1 e2 e3)) (n := 1) (a := 1) (b := 2) (k := e2.toInt) (j := e2) (by simp [own_f]) (by first | rfl | simp [own_e]) (by decide) R2
    have R4 := own_ofB Hf (e := (own_e e0 e1 e2 e3)) (n := 1) (a := 0) (b := 3) (k := e3.toInt) (j := e3) (by simp [own_f]) (by first | rfl | simp [own_e]) (by decide) R3
    obtain ⟨z0, z1, z2, z3⟩ := own_net_3201 e0.toInt64 e1.toInt64 e2.toInt64 e3.toInt64 (by omega) (by omega) (by omega)
    have o0 : of 0 = e3 := (hof 0 (by decide)).trans ((own_st_rel Hf (by decide) R4 (1 - 1 - 0) (by decide) 0 (by decide)).2.trans ((congrArg (own_e e0 e1 e2 e3) (show _ = (3 : Int32) from by decide +kernel)).trans (by first | rfl | simp [own_e])))
    rw [o0, z0]
  · have Hf := own_fm (v0 := e3.toInt) (v1 := e2.toInt) (v2 := e1.toInt) (v3 := e0.toInt) (by omega) (by omega) (by omega)
    have R0 := own_R0 (own_f e3.toInt e2.toInt e1.toInt e0.toInt) (own_e e0 e1 e2 e3)
    have R1 := own_ofA Hf (e := (own_e e0 e1 e2 e3)) (n := 0) (a := 3) (b := 0) (k := e0.toInt) (j := e0) (by simp [own_f]) (by first | rfl | simp [own_e]) R0
    have R2 := own_ofB Hf (e := (own_e e0 e1 e2 e3)) (n := 1) (a := 2) (b := 1) (k := e1.toInt) (j := e1) (by simp [own_f]) (by first | rfl | simp [own_e]) (by decide) R1
    have R3 := own_ofB Hf (e := (own_e e0 e1 e2 e3)) (n := 1) (a := 1) (b := 2) (k := e2.toInt) (j := e2) (by simp [own_f]) (by first | rfl | simp [own_e]) (by decide) R2
    have R4 := own_ofB Hf (e := (own_e e0 e1 e2 e3)) (n := 1) (a := 0) (b := 3) (k := e3.toInt) (j := e3) (by simp [own_f]) (by first | rfl | simp [own_e]) (by decide) R3
    obtain ⟨z0, z1, z2, z3⟩ := own_net_3210 e0.toInt64 e1.toInt64 e2.toInt64 e3.toInt64 (by omega) (by omega) (by omega)
    have o0 : of 0 = e3 := (hof 0 (by decide)).trans ((own_st_rel Hf (by decide) R4 (1 - 1 - 0) (by decide) 0 (by decide)).2.trans ((congrArg (own_e e0 e1 e2 e3) (show _ = (3 : Int32) from by decide +kernel)).trans (by first | rfl | simp [own_e])))
    rw [o0, z0]
theorem own_fin_2_1 (e0 : Int32)  (K1 : Nat → Int) (J1 : Nat → Int32) (gK1 : (own_of 0 true (fun _ => (0 : Int)) (fun _ => (0 : Int32)) e0.toInt e0).1 = K1) (gJ1 : (own_of 0 true (fun _ => (0 : Int)) (fun _ => (0 : Int32)) e0.toInt e0).2 = J1) (of : Nat → Int32) (hof : ∀ d, d < 1 → of d = (own_st 1 K1 J1 (1 - 1 - d)).2 0) : (of 0).toInt64 = (own_mn (own_mn e0.toInt64 (9223372036854775807 : Int64)) (own_mn (9223372036854775807 : Int64) (9223372036854775807 : Int64))) := by
  subst gK1 gJ1
  have q0 := c_i2l e0
  have r0 := rng32 e0
  have qM : (9223372036854775807 : Int64).toInt = 9223372036854775807 := by decide
  have Hf := own_fm (v0 := e0.toInt) (v1 := (e0.toInt + 1)) (v2 := ((e0.toInt + 1) + 1)) (v3 := (((e0.toInt + 1) + 1) + 1)) (by omega) (by omega) (by omega)
  have R0 := own_R0 (own_f e0.toInt (e0.toInt + 1) ((e0.toInt + 1) + 1) (((e0.toInt + 1) + 1) + 1)) (own_e e0 0 0 0)
  have R1 := own_ofA Hf (e := (own_e e0 0 0 0)) (n := 0) (a := 0) (b := 0) (k := e0.toInt) (j := e0) (by simp [own_f]) (by first | rfl | simp [own_e]) R0
  obtain ⟨z0, z1, z2, z3⟩ := own_net_0123 e0.toInt64 (9223372036854775807 : Int64) (9223372036854775807 : Int64) (9223372036854775807 : Int64) (by omega) (by omega) (by omega)
  have o0 : of 0 = e0 := (hof 0 (by decide)).trans ((own_st_rel Hf (by decide) R1 (1 - 1 - 0) (by decide) 0 (by decide)).2.trans ((congrArg (own_e e0 0 0 0) (show _ = (0 : Int32) from by decide +kernel)).trans (by first | rfl | simp [own_e])))
  rw [o0, z0]
theorem own_fin_2_2 (e0 e1 : Int32) (d01 : e0.toInt ≠ e1.toInt) (K1 : Nat → Int) (J1 : Nat → Int32) (gK1 : (own_of 0 true (fun _ => (0 : Int)) (fun _ => (0 : Int32)) e0.toInt e0).1 = K1) (gJ1 : (own_of 0 true (fun _ => (0 : Int)) (fun _ => (0 : Int32)) e0.toInt e0).2 = J1) (K2 : Nat → Int) (J2 : Nat → Int32) (gK2 : (own_of 1 true K1 J1 e1.toInt e1).1 = K2) (gJ2 : (own_of 1 true K1 J1 e1.toInt e1).2 = J2) (of : Nat → Int32) (hof : ∀ d, d < 2 → of d = (own_st 2 K2 J2 (2 - 1 - d)).2 0) : (of 0).toInt64 = (own_mn (own_mn e0.toInt64 e1.toInt64) (own_mn (9223372036854775807 : Int64) (9223372036854775807 : Int64))) ∧ (of 1).toInt64 = (own_mn (own_mn (own_mx e0.toInt64 e1.toInt64) (own_mx (9223372036854775807 : Int64) (9223372036854775807 : Int64))) (own_mx (own_mn e0.toInt64 e1.toInt64) (own_mn (9223372036854775807 : Int64) (9223372036854775807 : Int64)))) := by
  subst gK1 gJ1
  subst gK2 gJ2
  have q0 := c_i2l e0
  have r0 := rng32 e0
  have q1 := c_i2l e1
  have r1 := rng32 e1
  have qM : (9223372036854775807 : Int64).toInt = 9223372036854775807 := by decide
  rcases own_ord2 e0.toInt e1.toInt d01 with h | h
  · have Hf := own_fm (v0 := e0.toInt) (v1 := e1.toInt) (v2 := (e1.toInt + 1)) (v3 := ((e1.toInt + 1) + 1)) (by omega) (by omega) (by omega)
    have R0 := own_R0 (own_f e0.toInt e1.toInt (e1.toInt + 1) ((e1.toInt + 1) + 1)) (own_e e0 e1 0 0)
    have R1 := own_ofA Hf (e := (own_e e0 e1 0 0)) (n := 0) (a := 0) (b := 0) (k := e0.toInt) (j := e0) (by simp [own_f]) (by first | rfl | simp [own_e]) R0
    have R2 := own_ofA Hf (e := (own_e e0 e1 0 0)) (n := 1) (a := 1) (b := 1) (k := e1.toInt) (j := e1) (by simp [own_f]) (by first | rfl | simp [own_e]) R1
    obtain ⟨z0, z1, z2, z3⟩ := own_net_0123 e0.toInt64 e1.toInt64 (9223372036854775807 : Int64) (9223372036854775807 : Int64) (by omega) (by omega) (by omega)
    have o0 : of 0 = e0 := (hof 0 (by decide)).trans ((own_st_rel Hf (by decide) R2 (2 - 1 - 0) (by decide) 0 (by decide)).2.trans ((congrArg (own_e e0 e1 0 0) (show _ = (0 : Int32) from by decide +kernel)).trans (by first | rfl | simp [own_e])))
    have o1 : of 1 = e1 := (hof 1 (by decide)).trans ((own_st_rel Hf (by decide) R2 (2 - 1 - 1) (by decide) 0 (by decide)).2.trans ((congrArg (own_e e0 e1 0 0) (show _ = (1 : Int32) from by decide +kernel)).trans (by first | rfl | simp [own_e])))
    exact ⟨(by rw [o0, z0]), (by rw [o1, z1])⟩
  · have Hf := own_fm (v0 := e1.toInt) (v1 := e0.toInt) (v2 := (e0.toInt + 1)) (v3 := ((e0.toInt + 1) + 1)) (by omega) (by omega) (by omega)
    have R0 := own_R0 (own_f e1.toInt e0.toInt (e0.toInt + 1) ((e0.toInt + 1) + 1)) (own_e e0 e1 0 0)
    have R1 := own_ofA Hf (e := (own_e e0 e1 0 0)) (n := 0) (a := 1) (b := 0) (k := e0.toInt) (j := e0) (by simp [own_f]) (by first | rfl | simp [own_e]) R0
    have R2 := own_ofA Hf (e := (own_e e0 e1 0 0)) (n := 1) (a := 0) (b := 1) (k := e1.toInt) (j := e1) (by simp [own_f]) (by first | rfl | simp [own_e]) R1
    obtain ⟨z0, z1, z2, z3⟩ := own_net_1023 e0.toInt64 e1.toInt64 (9223372036854775807 : Int64) (9223372036854775807 : Int64) (by omega) (by omega) (by omega)
    have o0 : of 0 = e1 := (hof 0 (by decide)).trans ((own_st_rel Hf (by decide) R2 (2 - 1 - 0) (by decide) 0 (by decide)).2.trans ((congrArg (own_e e0 e1 0 0) (show _ = (1 : Int32) from by decide +kernel)).trans (by first | rfl | simp [own_e])))
    have o1 : of 1 = e0 := (hof 1 (by decide)).trans ((own_st_rel Hf (by decide) R2 (2 - 1 - 1) (by decide) 0 (by decide)).2.trans ((congrArg (own_e e0 e1 0 0) (show _ = (0 : Int32) from by decide +kernel)).trans (by first | rfl | simp [own_e])))
    exact ⟨(by rw [o0, z0]), (by rw [o1, z1])⟩
theorem own_fin_2_3 (e0 e1 e2 : Int32) (d01 : e0.toInt ≠ e1.toInt) (d02 : e0.toInt ≠ e2.toInt) (d12 : e1.toInt ≠ e2.toInt) (K1 : Nat → Int) (J1 : Nat → Int32) (gK1 : (own_of 0 true (fun _ => (0 : Int)) (fun _ => (0 : Int32)) e0.toInt e0).1 = K1) (gJ1 : (own_of 0 true (fun _ => (0 : Int)) (fun _ => (0 : Int32)) e0.toInt e0).2 = J1) (K2 : Nat → Int) (J2 : Nat → Int32) (gK2 : (own_of 1 true K1 J1 e1.toInt e1).1 = K2) (gJ2 : (own_of 1 true K1 J1 e1.toInt e1).2 = J2) (K3 : Nat → Int) (J3 : Nat → Int32) (gK3 : (own_of 2 false K2 J2 e2.toInt e2).1 = K3) (gJ3 : (own_of 2 false K2 J2 e2.toInt e2).2 = J3) (of : Nat → Int32) (hof : ∀ d, d < 2 → of d = (own_st 2 K3 J3 (2 - 1 - d)).2 0) : (of 0).toInt64 = (own_mn (own_mn e0.toInt64 e1.toInt64) (own_mn e2.toInt64 (9223372036854775807 : Int64))) ∧ (of 1).toInt64 = (own_mn (own_mn (own_mx e0.toInt64 e1.toInt64) (own_mx e2.toInt64 (9223372036854775807 : Int64))) (own_mx (own_mn e0.toInt64 e1.toInt64) (own_mn e2.toInt64 (9223372036854775807 : Int64)))) := by
  subst gK1 gJ1
  subst gK2 gJ2
  subst gK3 gJ3
  have q0 := c_i2l e0
  have r0 := rng32 e0
  have q1 := c_i2l e1
  have r1 := rng32 e1
  have q2 := c_i2l e2
  have r2 := rng32 e2
  have qM : (9223372036854775807 : Int64).toInt = 9223372036854775807 := by decide
  rcases own_ord3 e0.toInt e1.toInt e2.toInt d01 d02 d12 with h | h | h | h | h | h
  · have Hf := own_fm (v0 := e0.toInt) (v1 := e1.toInt) (v2 := e2.toInt) (v3 := (e2.toInt + 1)) (by omega) (by omega) (by omega)
    have R0 := own_R0 (own_f e0.toInt e1.toInt e2.toInt (e2.toInt + 1)) (own_e e0 e1 e2 0)
    have R1 := own_ofA Hf (e := (own_e e0 e1 e2 0)) (n := 0) (a := 0) (b := 0) (k := e0.toInt) (j := e0) (by simp [own_f]) (by first | rfl | simp [own_e]) R0
    have R2 := own_ofA Hf (e := (own_e e0 e1 e2 0)) (n := 1) (a := 1) (b := 1) (k := e1.toInt) (j := e1) (by simp [own_f]) (by first | rfl | simp [own_e]) R1
    have R3 := own_ofB Hf (e := (own_e e0 e1 e2 0)) (n := 2) (a := 2) (b := 2) (k := e2.toInt) (j := e2) (by simp [own_f]) (by first | rfl | simp [own_e]) (by decide) R2
    obtain ⟨z0, z1, z2, z3⟩ := own_net_0123 e0.toInt64 e1.toInt64 e2.toInt64 (9223372036854775807 : Int64) (by omega) (by omega) (by omega)
    have o0 : of 0 = e0 := (hof 0 (by decide)).trans ((own_st_rel Hf (by decide) R3 (2 - 1 - 0) (by decide) 0 (by decide)).2.trans ((congrArg (own_e e0 e1 e2 0) (show _ = (0 : Int32) from by decide +kernel)).trans (by first | rfl | simp [own_e])))
    have o1 : of 1 = e1 := (hof 1 (by decide)).trans ((own_st_rel Hf (by decide) R3 (2 - 1 - 1) (by decide) 0 (by decide)).2.trans ((congrArg (own_e e0 e1 e2 0) (show _ = (1 : Int32) from by decide +kernel)).trans (by first | rfl | simp [own_e])))
    exact ⟨(by rw [o0, z0]), (by rw [o1, z1])⟩
  · have Hf := own_fm (v0 := e0.toInt) (v1 := e2.toInt) (v2 := e1.toInt) (v3 := (e1.toInt + 1)) (by omega) (by omega) (by omega)
    have R0 := own_R0 (own_f e0.toInt e2.toInt e1.toInt (e1.toInt + 1)) (own_e e0 e1 e2 0)
    have R1 := own_ofA Hf (e := (own_e e0 e1 e2 0)) (n := 0) (a := 0) (b := 0) (k := e0.toInt) (j := e0) (by simp [own_f]) (by first | rfl | simp [own_e]) R0
    have R2 := own_ofA Hf (e := (own_e e0 e1 e2 0)) (n := 1) (a := 2) (b := 1) (k := e1.toInt) (j := e1) (by simp [own_f]) (by first | rfl | simp [own_e]) R1
    have R3 := own_ofB Hf (e := (own_e e0 e1 e2 0)) (n := 2) (a := 1) (b := 2) (k := e2.toInt) (j := e2) (by simp [own_f]) (by first | rfl | simp [own_e]) (by decide) R2
    obtain ⟨z0, z1, z2, z3⟩ := own_net_0213 e0.toInt64 e1.toInt64 e2.toInt64 (9223372036854775807 : Int64) (by omega) (by omega) (by omega)
    have o0 : of 0 = e0 := (hof 0 (by decide)).trans ((own_st_rel Hf (by decide) R3 (2 - 1 - 0) (by decide) 0 (by decide)).2.trans ((congrArg (own_e e0 e1 e2 0) (show _ = (0 : Int32) from by decide +kernel)).trans (by first | rfl | simp [own_e])))
    have o1 : of 1 = e2 := (hof 1 (by decide)).trans ((own_st_rel Hf (by decide) R3 (2 - 1 - 1) (by decide) 0 (by decide)).2.trans ((congrArg (own_e e0 e1 e2 0) (show _ = (2 : Int32) from by decide +kernel)).trans (by first | rfl | simp [own_e])))
    exact ⟨(by rw [o0, z0]), (by rw [o1, z1])⟩
  · have Hf := own_fm (v0 := e1.toInt) (v1 := e0.toInt) (v2 := e2.toInt) (v3 := (e2.toInt + 1)) (by omega) (by omega) (by omega)
    have R0 := own_R0 (own_f e1.toInt e0.toInt e2.toInt (e2.toInt + 1)) (own_e e0 e1 e2 0)
    have R1 := own_ofA Hf (e := (own_e e0 e1 e2 0)) (n := 0) (a := 1) (b := 0) (k := e0.toInt) (j := e0) (by simp [own_f]) (by first | rfl | simp [own_e]) R0
    have R2 := own_ofA Hf (e := (own_e e0 e1 e2 0)) (n := 1) (a := 0) (b := 1) (k := e1.toInt) (j := e1) (by simp [own_f]) (by first | rfl | simp [own_e]) R1
    have R3 := own_ofB Hf (e := (own_e e0 e1 e2 0)) (n := 2) (a := 2) (b := 2) (k := e2.toInt) (j := e2) (by simp [own_f]) (by first | rfl | simp [own_e]) (by decide) R2
    obtain ⟨z0, z1, z2, z3⟩ := own_net_1023 e0.toInt64 e1.toInt64 e2.toInt64 (9223372036854775807 : Int64) (by omega) (by omega) (by omega)
    have o0 : of 0 = e1 := (hof 0 (by decide)).trans ((own_st_rel Hf (by decide) R3 (2 - 1 - 0) (by decide) 0 (by decide)).2.trans ((congrArg (own_e e0 e1 e2 0) (show _ = (1 : Int32) from by decide +kernel)).trans (by first | rfl | simp [own_e])))
    have o1 : of 1 = e0 := (hof 1 (by decide)).trans ((own_st_rel Hf (by decide) R3 (2 - 1 - 1) (by decide) 0 (by decide)).2.trans ((congrArg (own_e e0 e1 e2 0) (show _ = (0 : Int32) from by decide +kernel)).trans (by first | rfl | simp [own_e])))
    exact ⟨(by rw [o0, z0]), (by rw [o1, z1])⟩
  · have Hf := own_fm (v0 := e1.toInt) (v1 := e2.toInt) (v2 := e0.toInt) (v3 := (e0.toInt + 1)) (by omega) (by omega) (by omega)
    have R0 := own_R0 (own_f e1.toInt e2.toInt e0.toInt (e0.toInt + 1)) (own_e e0 e1 e2 0)
    have R1 := own_ofA Hf (e := (own_e e0 e1 e2 0)) (n := 0) (a := 2) (b := 0) (k := e0.toInt) (j := e0) (by simp [own_f]) (by first | rfl | simp [own_e]) R0
    have R2 := own_ofA Hf (e := (own_e e0 e1 e2 0)) (n := 1) (a := 0) (b := 1) (k := e1.toInt) (j := e1) (by simp [own_f]) (by first | rfl | simp [own_e]) R1
    have R3 := own_ofB Hf (e := (own_e e0 e1 e2 0)) (n := 2) (a := 1) (b := 2) (k := e2.toInt) (j := e2) (by simp [own_f]) (by first | rfl | simp [own_e]) (by decide) R2
    obtain ⟨z0, z1, z2, z3⟩ := own_net_1203 e0.toInt64 e1.toInt64 e2.toInt64 (9223372036854775807 : Int64) (by omega) (by omega) (by omega)
    have o0 : of 0 = e1 := (hof 0 (by decide)).trans ((own_st_rel Hf (by decide) R3 (2 - 1 - 0) (by decide) 0 (by decide)).2.trans ((congrArg (own_e e0 e1 e2 0) (show _ = (1 : Int32) from by decide +kernel)).trans (by first | rfl | simp [own_e])))
    have o1 : of 1 = e2 := (hof 1 (by decide)).trans ((own_st_rel Hf (by decide) R3 (2 - 1 - 1) (by decide) 0 (by decide)).2.trans ((congrArg (own_e e0 e1 e2 0) (show _ = (2 : Int32) from by decide +kernel)).trans (by first | rfl | simp [own_e])))
    exact ⟨(by rw [o0, z0]), (by rw [o1, z1])⟩
  · have Hf := own_fm (v0 := e2.toInt) (v1 := e0.toInt) (v2 := e1.toInt) (v3 := (e1.toInt + 1)) (by omega) (by omega) (by omega)
    have R0 := own_R0 (own_f e2.toInt e0.toInt e1.toInt (e1.toInt + 1)) (own_e e0 e1 e2 0)
    have R1 := own_ofA Hf (e := (own_e e0 e1 e2 0)) (n := 0) (a := 1) (b := 0) (k := e0.toInt) (j := e0) (by simp [own_f]) (by first | rfl | simp [own_e]) R0
    have R2 := own_ofA Hf (e := (own_e e0 e1 e2 0)) (n := 1) (a := 2) (b := 1) (k := e1.toInt) (j := e1) (by simp [own_f]) (by first | rfl | simp [own_e]) R1
    have R3 := own_ofB Hf (e := (own_e e0 e1 e2 0)) (n := 2) (a := 0) (b := 2) (k := e2.toInt) (j := e2) (by simp [own_f]) (by first | rfl | simp [own_e]) (by decide) R2
    obtain ⟨z0, z1, z2, z3⟩ := own_net_2013 e0.toInt64 e1.toInt64 e2.toInt64 (9223372036854775807 : Int64) (by omega) (by omega) (by omega)
    have o0 : of 0 = e2 := (hof 0 (by decide)).trans ((own_st_rel Hf (by decide) R3 (2 - 1 - 0) (by decide) 0 (by decide)).2.trans ((congrArg (own_e e0 e1 e2 0) (show _ = (2 : Int32) from by decide +kernel)).trans (by first | rfl | simp [own_e])))
    have o1 : of 1 = e0 := (hof 1 (by decide)).trans ((own_st_rel Hf (by decide) R3 (2 - 1 - 1) (by decide) 0 (by decide)).2.trans ((congrArg (own_e e0 e1 e2 0) (show _ = (0 : Int32) from by decide +kernel)).trans (by first | rfl | simp [own_e])))
    exact ⟨(by rw [o0, z0]), (by rw [o1, z1])⟩
  · have Hf := own_fm (v0 := e2.toInt) (v1 := e1.toInt) (v2 := e0.toInt) (v3 := (e0.toInt + 1)) (by omega) (by omega) (by omega)
    have R0 := own_R0 (own_f e2.toInt e1.toInt e0.toInt (e0.toInt + 1)) (own_e e0 e1 e2 0)
    have R1 := own_ofA Hf (e := (own_e e0 e1 e2 0)) (n := 0) (a := 2) (b := 0) (k := e0.toInt) (j := e0) (by simp [own_f]) (by first | rfl | simp [own_e]) R0
    have R2 := own_ofA Hf (e := (own_e e0 e1 e2 0)) (n := 1) (a := 1) (b := 1) (k := e1.toInt) (j := e1) (by simp [own_f]) (by first | rfl | simp [own_e]) R1
    have R3 := own_ofB Hf (e := (own_e e0 e1 e2 0)) (n := 2) (a := 0) (b := 2) (k := e2.toInt) (j := e2) (by simp [own_f]) (by first | rfl | simp [own_e]) (by decide) R2
    obtain ⟨z0, z1, z2, z3⟩ := own_net_2103 e0.toInt64 e1.toInt64 e2.toInt64 (9223372036854775807 : Int64) (by omega) (by omega) (by omega)
    have o0 : of 0 = e2 := (hof 0 (by decide)).trans ((own_st_rel Hf (by decide) R3 (2 - 1 - 0) (by decide) 0 (by decide)).2.trans ((congrArg (own_e e0 e1 e2 0) (show _ = (2 : Int32) from by decide +kernel)).trans (by first | rfl | simp [own_e])))
    have o1 : of 1 = e1 := (hof 1 (by decide)).trans ((own_st_rel Hf (by decide) R3 (2 - 1 - 1) (by decide) 0 (by decide)).2.trans ((congrArg (own_e e0 e1 e2 0) (show _ = (1 : Int32) from by decide +kernel)).trans (by first | rfl | simp [own_e])))
    exact ⟨(by rw [o0, z0]), (by rw [o1, z1])⟩
theorem own_fin_2_4 (e0 e1 e2 e3 : Int32) (d01 : e0.toInt ≠ e1.toInt) (d02 : e0.toInt ≠ e2.toInt) (d03 : e0.toInt ≠ e3.toInt) (d12 : e1.toInt ≠ e2.toInt) (d13 : e1.toInt ≠ e3.toInt) (d23 : e2.toInt ≠ e3.toInt) (K1 : Nat → Int) (J1 : Nat → Int32) (gK1 : (own_of 0 true (fun _ => (0 : Int)) (fun _ => (0 : Int32)) e0.toInt e0).1 = K1) (gJ1 : (own_of 0 true (fun _ => (0 : Int)) (fun _ => (0 : Int32)) e0.toInt e0).2 = J1) (K2 : Nat → Int) (J2 : Nat → Int32) (gK2 : (own_of 1 true K1 J1 e1.toInt e1).1 = K2) (gJ2 : (own_of 1 true K1 J1 e1.toInt e1).2 = J2) (K3 : Nat → Int) (J3 : Nat → Int32) (gK3 : (own_of 2 false K2 J2 e2.toInt e2).1 = K3) (gJ3 : (own_of 2 false K2 J2 e2.toInt e2).2 = J3) (K4 : Nat → Int) (J4 : Nat → Int32) (gK4 : (own_of 2 false K3 J3 e3.toInt e3).1 = K4) (gJ4 : (own_of 2 false K3 J3 e3.toInt e3).2 = J4) (of : Nat → Int32) (hof : ∀ d, d < 2 → of d = (own_st 2 K4 J4 (2 - 1 - d)).2 0) : (of 0).toInt64 = (own_mn (own_mn e0.toInt64 e1.toInt64) (own_mn e2.toInt64 e3.toInt64)) ∧ (of 1).toInt64 = (own_mn (own_mn (own_mx e0.toInt64 e1.toInt64) (own_mx e2.toInt64 e3.toInt64)) (own_mx (own_mn e0.toInt64 e1.toInt64) (own_mn e2.toInt64 e3.toInt64))) := by
  subst gK1 gJ1
  subst gK2 gJ2
  subst gK3 gJ3
  subst gK4 gJ4
  have q0 := c_i2l e0
  have r0 := rng32 e0
  have q1 := c_i2l e1
  have r1 := rng32 e1
  have q2 := c_i2l e2
  have r2 := rng32 e2
  have q3 := c_i2l e3
  have r3 := rng32 e3
  have qM : (9223372036854775807 : Int64).toInt = 9223372036854775807 := by decide
  rcases own_ord4 e0.toInt e1.toInt e2.toInt e3.toInt d01 d02 d03 d12 d13 d23 with h | h | h | h | h | h | h | h | h | h | h | h | h | h | h | h | h | h | h | h | h | h | h | h
  · have Hf := own_fm (v0 := e0.toInt) (v1 := e1.toInt) (v2 := e2.toInt) (v3 := e3.toInt) (by omega) (by omega) (by omega)
    have R0 := own_R0 (own_f e0.toInt e1.toInt e2.toInt e3.toInt) (own_e e0 e1 e2 e3)
    have R1 := own_ofA Hf (e := (own_e e0 e1 e2 e3)) (n := 0) (a := 0) (b := 0) (k := e0.toInt) (j := e0) (by simp [own_f]) (by first | rfl | simp [own_e]) R0
    have R2 := own_ofA Hf (e := (own_e e0 e1 e2 e3)) (n := 1) (a := 1) (b := 1) (k := e1.toInt) (j := e1) (by simp [own_f]) (by first | rfl | simp [own_e]) R1
    have R3 := own_ofB Hf (e := (own_e e0 e1 e2 e3)) (n := 2) (a := 2) (b := 2) (k := e2.toInt) (j := e2) (by simp [own_f]) (by first | rfl | simp [own_e]) (by decide) R2
    have R4 := own_ofB Hf (e := (own_e e0 e1 e2 e3)) (n := 2) (a := 3) (b := 3) (k := e3.toInt) (j := e3) (by simp [own_f]) (by first | rfl | simp [own_e]) (by decide) R3
    obtain ⟨z0, z1, z2, z3⟩ := own_net_0123 e0.toInt64 e1.toInt64 e2.toInt64 e3.toInt64 (by omega) (by omega) (by omega)
    have o0 : of 0 = e0 := (hof 0 (by decide)).trans ((own_st_rel Hf (by decide) R4 (2 - 1 - 0) (by decide) 0 (by decide)).2.trans ((congrArg (own_e e0 e1 e2 e3) (show _ = (0 : Int32) from by decide +kernel)).trans (by first | rfl | simp [own_e])))
    have o1 : of 1 = e1 := (hof 1 (by decide)).trans ((own_st_rel Hf (by decide) R4 (2 - 1 - 1) (by decide) 0 (by decide)).2.trans ((congrArg (own_e e0 e1 e2 e3) (show _ = (1 : Int32) from by decide +kernel)).trans (by first | rfl | simp [own_e])))
    exact ⟨(by rw [o0, z0]), (by rw [o1, z1])⟩
  · have Hf := own_fm (v0 := e0.toInt) (v1 := e1.toInt) (v2 := e3.toInt) (v3 := e2.toInt) (by omega) (by omega) (by omega)
    have R0 := own_R0 (own_f e0.toInt e1.toInt e3.toInt e2.toInt) (own_e e0 e1 e2 e3)
    have R1 := own_ofA Hf (e := (own_e e0 e1 e2 e3)) (n := 0) (a := 0) (b := 0) (k := e0.toInt) (j := e0) (by simp [own_f]) (by first | rfl | simp [own_e]) R0
    have R2 := own_ofA Hf (e := (own_e e0 e1 e2 e3)) (n := 1) (a := 1) (b := 1) (k := e1.toInt) (j := e1) (by simp [own_f]) (by first | rfl | simp [own_e]) R1
    have R3 := own_ofB Hf (e := (own_e e0 e1 e2 e3)) (n := 2) (a := 3) (b := 2) (k := e2.toInt) (j := e2) (by simp [own_f]) (by first | rfl | simp [own_e]) (by decide) R2
    have R4 := own_ofB Hf (e := (own_e e0 e1 e2 e3)) (n := 2) (a := 2) (b := 3) (k := e3.toInt) (j := e3) (by simp [own_f]) (by first | rfl | simp [own_e]) (by decide) R3
    obtain ⟨z0, z1, z2, z3⟩ := own_net_0132 e0.toInt64 e1.toInt64 e2.toInt64 e3.toInt64 (by omega) (by omega) (by omega)
    have o0 : of 0 = e0 := (hof 0 (by decide)).trans ((own_st_rel Hf (by decide) R4 (2 - 1 - 0) (by decide) 0 (by decide)).2.trans ((congrArg (own_e e0 e1 e2 e3) (show _ = (0 : Int32) from by decide +kernel)).trans (by first | rfl | simp [own_e])))
    have o1 : of 1 = e1 := (hof 1 (by decide)).trans ((own_st_rel Hf (by decide) R4 (2 - 1 - 1) (by decide) 0 (by decide)).2.trans ((congrArg (own_e e0 e1 e2 e3) (show _ = (1 : Int32) from by decide +kernel)).trans (by first | rfl | simp [own_e])))
    exact ⟨(by rw [o0, z0]), (by rw [o1, z1])⟩
  · have Hf := own_fm (v0 := e0.toInt) (v1 := e2.toInt) (v2 := e1.toInt) (v3 := e3.toInt) (by omega) (by omega) (by omega)
    have R0 := own_R0 (own_f e0.toInt e2.toInt e1.toInt e3.toInt) (own_e e0 e1 e2 e3)
    have R1 := own_ofA Hf (e := (own_e e0 e1 e2 e3)) (n := 0) (a := 0) (b := 0) (k := e0.toInt) (j := e0) (by simp [own_f]) (by first | rfl | simp [own_e]) R0
    have R2 := own_ofA Hf (e := (own_e e0 e1 e2 e3)) (n := 1) (a := 2) (b := 1) (k := e1.toInt) (j := e1) (by simp [own_f]) (by first | rfl | simp [own_e]) R1
    have R3 := own_ofB Hf (e := (own_e e0 e1 e2 e3)) (n := 2) (a := 1) (b := 2) (k := e2.toInt) (j := e2) (by simp [own_f]) (by first | rfl | simp [own_e]) (by decide) R2
    have R4 := own_ofB Hf (e := (own_e e0 e1 e2 e3)) (n := 2) (a := 3) (b := 3) (k := e3.toInt) (j := e3) (by simp [own_f]) (by first | rfl | simp [own_e]) (by decide) R3
    obtain ⟨z0, z1, z2, z3⟩ := own_net_0213 e0.toInt64 e1.toInt64 e2.toInt64 e3.toInt64 (by omega) (by omega) (by omega)
    have o0 : of 0 = e0 := (hof 0 (by decide)).trans ((own_st_rel Hf (by decide) R4 (2 - 1 - 0) (by decide) 0 (by decide)).2.trans ((congrArg (own_e e0 e1 e2 e3) (show _ = (0 : Int32) from by decide +kernel)).trans (by first | rfl | simp [own_e])))
    have o1 : of 1 = e2 := (hof 1 (by decide)).trans ((own_st_rel Hf (by decide) R4 (2 - 1 - 1) (by decide) 0 (by decide)).2.trans ((congrArg (own_e e0 e1 e2 e3) (show _ = (2 : Int32) from by decide +kernel)).trans (by first | rfl | simp [own_e])))
    exact ⟨(by rw [o0, z0]), (by rw [o1, z1])⟩
  · have Hf := own_fm (v0 := e0.toInt) (v1 := e2.toInt) (v2 := e3.toInt) (v3 := e1.toInt) (by omega) (by omega) (by omega)
    have R0 := own_R0 (own_f e0.toInt e2.toInt e3.toInt e1.toInt) (own_e e0 e1 e2 e3)
    have R1 := own_ofA Hf (e := (own_e e0 e1 e2 e3)) (n := 0) (a := 0) (b := 0) (k := e0.toInt) (j := e0) (by simp [own_f]) (by first | rfl | simp [own_e]) R0
    have R2 := own_ofA Hf (e := (own_e e0 e1 e2 e3)) (n := 1) (a := 3) (b := 1) (k := e1.toInt) (j := e1) (by simp [own_f]) (by first | rfl | simp [own_e]) R1
    have R3 := own_ofB Hf (e := (own_e e0 e1 e2 e3)) (n := 2) (a := 1) (b := 2) (k := e2.toInt) (j := e2) (by simp [own_f]) (by first | rfl | simp [own_e]) (by decide) R2
    have R4 := own_ofB Hf (e := (own_e e0 e1 e2 e3)) (n := 2) (a := 2) (b := 3) (k := e3.toInt) (j := e3) (by simp [own_f]) (by first | rfl | simp [own_e]) (by decide) R3
    obtain ⟨z0, z1, z2, z3⟩ := own_net_0231 e0.toInt64 e1.toInt64 e2.toInt64 e3.toInt64 (by omega) (by omega) (by omega)
    have o0 : of 0 = e0 := (hof 0 (by decide)).trans ((own_st_rel Hf (by decide) R4 (2 - 1 - 0) (by decide) 0 (by decide)).2.trans ((congrArg (own_e e0 e1 e2 e3) (show _ = (0 : Int32) from by decide +kernel)).trans (by first | rfl | simp [own_e])))
    have o1 : of 1 = e2 := (hof 1 (by decide)).trans ((own_st_rel Hf (by decide) R4 (2 - 1 - 1) (by decide) 0 (by decide)).2.trans ((congrArg (own_e e0 e1 e2 e3) (show _ = (2 : Int32) from by decide +kernel)).trans (by first | rfl | simp [own_e])))
    exact ⟨(by rw [o0, z0]), (by rw [o1, z1])⟩
  · have Hf := own_fm (v0 := e0.toInt) (v1 := e3.toInt) (v2 := e1.toInt) (v3 := e2.toInt) (by omega) (by omega) (by omega)
    have R0 := own_R0 (own_f e0.toInt e3.toInt e1.toInt e2.toInt) (own_e e0 e1 e2 e3)
    have R1 := own_ofA Hf (e := (own_e e0 e1 e2 e3)) (n := 0) (a := 0) (b := 0) (k := e0.toInt) (j := e0) (by simp [own_f]) (by first | rfl | simp [own_e]) R0
    have R2 := own_ofA Hf (e := (own_e e0 e1 e2 e3)) (n := 1) (a := 2) (b := 1) (k := e1.toInt) (j := e1) (by simp [own_f]) (by first | rfl | simp [own_e]) R1
    have R3 := own_ofB Hf (e := (own_e e0 e1 e2 e3)) (n := 2) (a := 3) (b := 2) (k := e2.toInt) (j := e2) (by simp [own_f]) (by first | rfl | simp [own_e]) (by decide) R2
    have R4 := own_ofB Hf (e := (own_e e0 e1 e2 e3)) (n := 2) (a := 1) (b := 3) (k := e3.toInt) (j := e3) (by simp [own_f]) (by first | rfl | simp [own_e]) (by decide) R3
    obtain ⟨z0, z1, z2, z3⟩ := own_net_0312 e0.toInt64 e1.toInt64 e2.toInt64 e3.toInt64 (by omega) (by omega) (by omega)
    have o0 : of 0 = e0 := (hof 0 (by decide)).trans ((own_st_rel Hf (by decide) R4 (2 - 1 - 0) (by decide) 0 (by decide)).2.trans ((congrArg (own_e e0 e1 e2 e3) (show _ = (0 : Int32) from by decide +kernel)).trans (by first | rfl | simp [own_e])))
    have o1 : of 1 = e3 := (hof 1 (by decide)).trans ((own_st_rel Hf (by decide) R4 (2 - 1 - 1) (by decide) 0 (by decide)).2.trans ((congrArg (own_e e0 e1 e2 e3) (show _ = (3 : Int32) from by decide +kernel)).trans (by first | rfl | simp [own_e])))
    exact ⟨(by rw [o0, z0]), (by rw [o1, z1])⟩
  · have Hf := own_fm (v0 := e0.toInt) (v1 := e3.toInt) (v2 := e2.toInt) (v3 := e1.toInt) (by omega) (by omega) (by omega)
    have R0 := own_R0 (own_f e0.toInt e3.toInt e2.toInt e1.toInt) (own_e e0 e1 e2 e3)
    have R1 := own_ofA Hf (e := (own_e e0 e1 e2 e3)) (n := 0) (a := 0) (b := 0) (k := e0.toInt) (j := e0) (by simp [own_f]) (by first | rfl | simp [own_e]) R0
    have R2 := own_ofA Hf (e := (own_e e0 e1 e2 e3)) (n := 1) (a := 3) (b := 1) (k := e1.toInt) (j := e1) (by simp [own_f]) (by first | rfl | simp [own_e]) R1
    have R3 := own_ofB Hf (e := (own_e e0 e1 e2 e3)) (n := 2) (a := 2) (b := 2) (k := e2.toInt) (j := e2) (by simp [own_f]) (by first | rfl | simp [own_e]) (by decide) R2
    have R4 := own_ofB Hf (e := (own_e e0 e1 e2 e3)) (n := 2) (a := 1) (b := 3) (k := e3.toInt) (j := e3) (by simp [own_f]) (by first | rfl | simp [own_e]) (by decide) R3
    obtain ⟨z0, z1, z2, z3⟩ := own_net_0321 e0.toInt64 e1.toInt64 e2.toInt64 e3.toInt64 (by omega) (by omega) (by omega)
    have o0 : of 0 = e0 := (hof 0 (by decide)).trans ((own_st_rel Hf (by decide) R4 (2 - 1 - 0) (by decide) 0 (by decide)).2.trans ((congrArg (own_e e0 e1 e2 e3) (show _ = (0 : Int32) from by decide +kernel)).trans (by first | rfl | simp [own_e])))
    have o1 : of 1 = e3 := (hof 1 (by decide)).trans ((own_st_rel Hf (by decide) R4 (2 - 1 - 1) (by decide) 0 (by decide)).2.trans ((congrArg (own_e e0 e1 e2 e3) (show _ = (3 : Int32) from by decide +kernel)).trans (by first | rfl | simp [own_e])))
    exact ⟨(by rw [o0, z0]), (by rw [o1, z1])⟩
  · have Hf := own_fm (v0 := e1.toInt) (v1 := e0.toInt) (v2 := e2.toInt) (v3 := e3.toInt) (by omega) (by omega) (by omega)
    have R0 := own_R0 (own_f e1.toInt e0.toInt e2.toInt e3.toInt) (own_e e0 e1 e2 e3)
    have R1 := own_ofA Hf (e := (own_e e0 e1 e2 e3)) (n := 0) (a := 1) (b := 0) (k := e0.toInt) (j := e0) (by simp [own_f]) (by first | rfl | simp [own_e]) R0
    have R2 := own_ofA Hf (e := (own_e e0 e1 e2 e3)) (n := 1) (a := 0) (b := 1) (k := e1.toInt) (j := e1) (by simp [own_f]) (by first | rfl | simp [own_e]) R1
    have R3 := own_ofB Hf (e := (own_e e0 e1 e2 e3)) (n := 2) (a := 2) (b := 2) (k := e2.toInt) (j := e2) (by simp [own_f]) (by first | rfl | simp [own_e]) (by decide) R2
    have R4 := own_ofB Hf (e := (own_e e0 e1 e2 e3)) (n := 2) (a := 3) (b := 3) (k := e3.toInt) (j := e3) (by simp [own_f]) (by first | rfl | simp [own_e]) (by decide) R3
    obtain ⟨z0, z1, z2, z3⟩ := own_net_1023 e0.toInt64 e1.toInt64 e2.toInt64 e3.toInt64 (by omega) (by omega) (by omega)
    have o0 : of 0 = e1 := (hof 0 (by decide)).trans ((own_st_rel Hf (by decide) R4 (2 - 1 - 0) (by decide) 0 (by decide)).2.trans ((congrArg (own_e e0 e1 e2 e3) (show _ = (1 : Int32) from by decide +kernel)).trans (by first | rfl | simp [own_e])))
    have o1 : of 1 = e0 := (hof 1 (by decide)).trans ((own_st_rel Hf (by decide) R4 (2 - 1 - 1) (by decide) 0 (by decide)).2.trans ((congrArg (own_e e0 e1 e2 e3) (show _ = (0 : Int32) from by decide +kernel)).trans (by first | rfl | simp [own_e])))
    exact ⟨(by rw [o0, z0]), (by rw [o1, z1])⟩
  · have Hf := own_fm (v0 := e1.toInt) (v1 := e0.toInt) (v2 := e3.toInt) (v3 := e2.toInt) (by omega) (by omega) (by omega)
    have R0 := own_R0 (own_f e1.toInt e0.toInt e3.toInt e2.toInt) (own_e e0 e1 e2 e3)
    have R1 := own_ofA Hf (e := (own_e e0 e1 e2 e3)) (n := 0) (a := 1) (b := 0) (k := e0.toInt) (j := e0) (by simp [own_f]) (by first | rfl | simp [own_e]) R0
    have R2 := own_ofA Hf (e := (own_e e0 e1 e2 e3)) (n := 1) (a := 0) (b := 1) (k := e1.toInt) (j := e1) (by simp [own_f]) (by first | rfl | simp [own_e]) R1
    have R3 := own_ofB Hf (e := (own_e e0 e1 e2 e3)) (n := 2) (a := 3) (b := 2) (k := e2.toInt) (j := e2) (by simp [own_f]) (by first | rfl | simp [own_e]) (by decide) R2
    have R4 := own_ofB Hf (e := (own_e e0 e1 e2 e3)) (n := 2) (a := 2) (b := 3) (k := e3.toInt) (j := e3) (by simp [own_f]) (by first | rfl | simp [own_e]) (by decide) R3
    obtain ⟨z0, z1, z2, z3⟩ := own_net_1032 e0.toInt64 e1.toInt64 e2.toInt64 e3.toInt64 (by omega) (by omega) (by omega)
    have o0 : of 0 = e1 := (hof 0 (by decide)).trans ((own_st_rel Hf (by decide) R4 (2 - 1 - 0) (by decide) 0 (by decide)).2.trans ((congrArg (own_e e0 e1 e2 e3) (show _ = (1 : Int32) from by decide +kernel)).trans (by first | rfl | simp [own_e])))
    have o1 : of 1 = e0 := (hof 1 (by decide)).trans ((own_st_rel Hf (by decide) R4 (2 - 1 - 1) (by decide) 0 (by decide)).2.trans ((congrArg (own_e e0 e1 e2 e3) (show _ = (0 : Int32) from by decide +kernel)).trans (by first | rfl | simp [own_e])))
    exact ⟨(by rw [o0, z0]), (by rw [o1, z1])⟩
  · have Hf := own_fm (v0 := e1.toInt) (v1 := e2.toInt) (v2 := e0.toInt) (v3 := e3.toInt) (by omega) (by omega) (by omega)
    have R0 := own_R0 (own_f e1.toInt e2.toInt e0.toInt e3.toInt) (own_e e0 e1 e2 e3)
    have R1 := own_ofA Hf (e := (own_e e0 e1 e2 e3)) (n := 0) (a := 2) (b := 0) (k := e0.toInt) (j := e0) (by simp [own_f]) (by first | rfl | simp [own_e]) R0
    have R2 := own_ofA Hf (e := (own_e e0 e1 e2 e3)) (n := 1) (a := 0) (b := 1) (k := e1.toInt) (j := e1) (by simp [own_f]) (by first | rfl | simp [own_e]) R1
    have R3 := own_ofB Hf (e := (own_e e0 e1 e2 e3)) (n := 2) (a := 1) (b := 2) (k := e2.toInt) (j := e2) (by simp [own_f]) (by first | rfl | simp [own_e]) (by decide) R2
    have R4 := own_ofB Hf (e := (own_e e0 e1 e2 e3)) (n := 2) (a := 3) (b := 3) (k := e3.toInt) (j := e3) (by simp [own_f]) (by first | rfl | simp [own_e]) (by decide) R3
    obtain ⟨z0, z1, z2, z3⟩ := own_net_1203 e0.toInt64 e1.toInt64 e2.toInt64 e3.toInt64 (by omega) (by omega) (by omega)
    have o0 : of 0 = e1 := (hof 0 (by decide)).trans ((own_st_rel Hf (by decide) R4 (2 - 1 - 0) (by decide) 0 (by decide)).2.trans ((congrArg (own_e e0 e1 e2 e3) (show _ = (1 : Int32) from by decide +kernel)).trans (by first | rfl | simp [own_e])))
    have o1 : of 1 = e2 := (hof 1 (by decide)).trans ((own_st_rel Hf (by decide) R4 (2 - 1 - 1) (by decide) 0 (by decide)).2.trans ((congrArg (own_e e0 e1 e2 e3) (show _ = (2 : Int32) from by decide +kernel)).trans (by first | rfl | simp [own_e])))
    exact ⟨(by rw [o0, z0]), (by rw [o1, z1])⟩
  · have Hf := own_fm (v0 := e1.toInt) (v1 := e2.toInt) (v2 := e3.toInt) (v3 := e0.toInt) (by omega) (by omega) (by omega)
    have R0 := own_R0 (own_f e1.toInt e2.toInt e3.toInt e0.toInt) (own_e e0 e1 e2 e3)
    have R1 := own_ofA Hf (e := (own_e e0 e1 e2 e3)) (n := 0) (a := 3) (b := 0) (k := e0.toInt) (j := e0) (by simp [own_f]) (by first | rfl | simp [own_e]) R0
    have R2 := own_ofA Hf (e := (own_e e0 e1 e2 e3)) (n := 1) (a := 0) (b := 1) (k := e1.toInt) (j := e1) (by simp [own_f]) (by first | rfl | simp [own_e]) R1
    have R3 := own_ofB Hf (e := (own_e e0 e1 e2 e3)) (n := 2) (a := 1) (b := 2) (k := e2.toInt) (j := e2) (by simp [own_f]) (by first | rfl | simp [own_e]) (by decide) R2
    have R4 := own_ofB Hf (e := (own_e e0 e1 e2 e3)) (n := 2) (a := 2) (b := 3) (k := e3.toInt) (j := e3) (by simp [own_f]) (by first | rfl | simp [own_e]) (by decide) R3
    obtain ⟨z0, z1, z2, z3⟩ := own_net_1230 e0.toInt64 e1.toInt64 e2.toInt64 e3.toInt64 (by omega) (by omega) (by omega)
    have o0 : of 0 = e1 := (hof 0 (by decide)).trans ((own_st_rel Hf (by decide) R4 (2 - 1 - 0) (by decide) 0 (by decide)).2.trans ((congrArg (own_e e0 e1 e2 e3) (show _ = (1 : Int32) from by decide +kernel)).trans (by first | rfl | simp [own_e])))
    have o1 : of 1 = e2 := (hof 1 (by decide)).trans ((own_st_rel Hf (by decide) R4 (2 - 1 - 1) (by decide) 0 (by decide)).2.trans ((congrArg (own_e e0 e1 e2 e3) (show _ = (2 : Int32) from by decide +kernel)).trans (by first | rfl | simp [own_e])))
    exact ⟨(by rw [o0, z0]), (by rw [o1, z1])⟩
  · have Hf := own_fm (v0 := e1.toInt) (v1 := e3.toInt) (v2 := e0.toInt) (v3 := e2.toInt) (by omega) (by omega) (by omega)
    have R0 := own_R0 (own_f e1.toInt e3.toInt e0.toInt e2.toInt) (own_e e0 e1 e2 e3)
    have R1 := own_ofA Hf (e := (own_e e0 e1 e2 e3)) (n := 0) (a := 2) (b := 0) (k := e0.toInt) (j := e0) (by simp [own_f]) (by first | rfl | simp [own_e]) R0
    have R2 := own_ofA Hf (e := (own_e e0 e1 e2 e3)) (n := 1) (a := 0) (b := 1) (k := e1.toInt) (j := e1) (by simp [own_f]) (by first | rfl | simp [own_e]) R1
    have R3 := own_ofB Hf (e := (own_e e0 e1 e2 e3)) (n := 2) (a := 3) (b := 2) (k := e2.toInt) (j := e2) (by simp [own_f]) (by first | rfl | simp [own_e]) (by decide) R2
    have R4 := own_ofB Hf (e := (own_e e0 e1 e2 e3)) (n := 2) (a := 1) (b := 3) (k := e3.toInt) (j := e3) (by simp [own_f]) (by first | rfl | simp [own_e]) (by decide) R3
    obtain ⟨z0, z1, z2, z3⟩ := own_net_1302 e0.toInt64 e1.toInt64 e2.toInt64 e3.toInt64 (by omega) (by omega) (by omega)
    have o0 : of 0 = e1 := (hof 0 (by decide)).trans ((own_st_rel Hf (by decide) R4 (2 - 1 - 0) (by decide) 0 (by decide)).2.trans ((congrArg (own_e e0 e1 e2 e3) (show _ = (1 : Int32) from by decide +kernel)).trans (by first | rfl | simp [own_e])))
    have o1 : of 1 = e3 := (hof 1 (by decide)).trans ((own_st_rel Hf (by decide) R4 (2 - 1 - 1) (by decide) 0 (by decide)).2.trans ((congrArg (own_e e0 e1 e2 e3) (show _ = (3 : Int32) from by decide +kernel)).trans (by first | rfl | simp [own_e])))
    exact ⟨(by rw [o0, z0]), (by rw [o1, z1])⟩
  · have Hf := own_fm (v0 := e1.toInt) (v1 := e3.toInt) (v2 := e2.toInt) (v3 := e0.toInt) (by omega) (by omega) (by omega)
    have R0 := own_R0 (own_f e1.toInt e3.toInt e2.toInt e0.toInt) (own_e e0 e1 e2 e3)
    have R1 := own_ofA Hf (e := (own_e e0 e1 e2 e3)) (n := 0) (a := 3) (b := 0) (k := e0.toInt) (j := e0) (by simp [own_f]) (by first | rfl | simp [own_e]) R0
    have R2 := own_ofA Hf (e := (own_e e0 e1 e2 e3)) (n := 1) (a := 0) (b := 1) (k := e1.toInt) (j := e1) (by simp [own_f]) (by first | rfl | simp [own_e]) R1
    have R3 := own_ofB Hf (e := (own_e e0 e1 e2 e3)) (n := 2) (a := 2) (b := 2) (k := e2.toInt) (j := e2) (by simp [own_f]) (by first | rfl | simp [own_e]) (by decide) R2
    have R4 := own_ofB Hf (e := (own_e e0 e1 e2 e3)) (n := 2) (a := 1) (b := 3) (k := e3.toInt) (j := e3) (by simp [own_f]) (by first | rfl | simp [own_e]) (by decide) R3
    obtain ⟨z0, z1, z2, z3⟩ := own_net_1320 e0.toInt64 e1.toInt64 e2.toInt64 e3.toInt64 (by omega) (by omega) (by omega)
    have o0 : of 0 = e1 := (hof 0 (by decide)).trans ((own_st_rel Hf (by decide) R4 (2 - 1 - 0) (by decide) 0 (by decide)).2.trans ((congrArg (own_e e0 e1 e2 e3) (show _ = (1 : Int32) from by decide +kernel)).trans (by first | rfl | simp [own_e])))
    have o1 : of 1 = e3 := (hof 1 (by decide)).trans ((own_st_rel Hf (by decide) R4 (2 - 1 - 1) (by decide) 0 (by decide)).2.trans ((congrArg (own_e e0 e1 e2 e3) (show _ = (3 : Int32) from by decide +kernel)).trans (by first | rfl | simp [own_e])))
    exact ⟨(by rw [o0, z0]), (by rw [o1, z1])⟩
  · have Hf := own_fm (v0 := e2.toInt) (v1 := e0.toInt) (v2 := e1.toInt) (v3 := e3.toInt) (by omega) (by omega) (by omega)
    have R0 := own_R0 (own_f e2.toInt e0.toInt e1.toInt e3.toInt) (own_e e0 e1 e2 e3)
    have R1 := own_ofA Hf (e := (own_e e0 e1 e2 e3)) (n := 0) (a := 1) (b := 0) (k := e0.toInt) (j := e0) (by simp [own_f]) (by first | rfl | simp [own_e]) R0
    have R2 := own_ofA Hf (e := (own_e e0 e1 e2 e3)) (n := 1) (a := 2) (b := 1) (k := e1.toInt) (j := e1) (by simp [own_f]) (by first | rfl | simp [own_e]) R1
    have R3 := own_ofB Hf (e := (own_e e0 e1 e2 e3)) (n := 2) (a := 0) (b := 2) (k := e2.toInt) (j := e2) (by simp [own_f]) (by first | rfl | simp [own_e]) (by decide) R2
    have R4 := own_ofB Hf (e := (own_e e0 e1 e2 e3)) (n := 2) (a := 3) (b := 3) (k := e3.toInt) (j := e3) (by simp [own_f]) (by first | rfl | simp [own_e]) (by decide) R3
    obtain ⟨z0, z1, z2, z3⟩ := own_net_2013 e0.toInt64 e1.toInt64 e2.toInt64 e3.toInt64 (by omega) (by omega) (by omega)
    have o0 : of 0 = e2 := (hof 0 (by decide)).trans ((own_st_rel Hf (by decide) R4 (2 - 1 - 0) (by decide) 0 (by decide)).2.trans ((congrArg (own_e e0 e1 e2 e3) (show _ = (2 : Int32) from by decide +kernel)).trans (by first | rfl | simp [own_e])))
    have o1 : of 1 = e0 := (hof 1 (by decide)).trans ((own_st_rel Hf (by decide) R4 (2 - 1 - 1) (by decide) 0 (by decide)).2.trans ((congrArg (own_e e0 e1 e2 e3) (show _ = (0 : Int32) from by decide +kernel)).trans (by first | rfl | simp [own_e])))
    exact ⟨(by rw [o0, z0]), (by rw [o1, z1])⟩
  · have Hf := own_fm (v0 := e2.toInt) (v1 := e0.toInt) (v2 := e3.toInt) (v3 := e1.toInt) (by omega) (by omega) (by omega)
    have R0 := own_R0 (own_f e2.toInt e0.toInt e3.toInt e1.toInt) (own_e e0 e1 e2 e3)
    have R1 := own_ofA Hf (e := (own_e e0 e1 e2 e3)) (n := 0) (a := 1) (b := 0) (k := e0.toInt) (j := e0) (by simp [own_f]) (by first | rfl | simp [own_e]) R0
    have R2 := own_ofA Hf (e := (own_e e0 e1 e2 e3)) (n := 1) (a := 3) (b := 1) (k := e1.toInt) (j := e1) (by simp [own_f]) (by first | rfl | simp [own_e]) R1
    have R3 := own_ofB Hf (e := (own_e e0 e1 e2 e3)) (n := 2) (a := 0) (b := 2) (k := e2.toInt) (j := e2) (by simp [own_f]) (by first | rfl | simp [own_e]) (by decide) R2
    have R4 := own_ofB Hf (e := (own_e e0 e1 e2 e3)) (n := 2) (a := 2) (b := 3) (k := e3.toInt) (j := e3) (by simp [own_f]) (by first | rfl | simp [own_e]) (by decide) R3
    obtain ⟨z0, z1, z2, z3⟩ := own_net_2031 e0.toInt64 e1.toInt64 e2.toInt64 e3.toInt64 (by omega) (by omega) (by omega)
    have o0 : of 0 = e2 := (hof 0 (by decide)).trans ((own_st_rel Hf (by decide) R4 (2 - 1 - 0) (by decide) 0 (by decide)).2.trans ((congrArg (own_e e0 e1 e2 e3) (show _ = (2 : Int32) from by decide +kernel)).trans (by first | rfl | simp [own_e])))
    have o1 : of 1 = e0 := (hof 1 (by decide)).trans ((own_st_rel Hf (by decide) R4 (2 - 1 - 1) (by decide) 0 (by decide)).2.trans ((congrArg (own_e e0 e1 e2 e3) (show _ = (0 : Int32) from by decide +kernel)).trans (by first | rfl | simp [own_e])))
    exact ⟨(by rw [o0, z0]), (by rw [o1, z1])⟩
  · have Hf := own_fm (v0 := e2.toInt) (v1 := e1.toInt) (v2 := e0.toInt) (v3 := e3.toInt) (by omega) (by omega) (by omega)
    have R0 := own_R0 (own_f e2.toInt e1.toInt e0.toInt e3.toInt) (own_e e0 e1 e2 e3)
    have R1 := own_ofA Hf (e := (own_e e0 e1 e2 e3)) (n := 0) (a := 2) (b := 0) (k := e0.toInt) (j := e0) (by simp [own_f]) (by first | rfl | simp [own_e]) R0
    have R2 := own_ofA Hf (e := (own_e e0 e1 e2 e3)) (n := 1) (a := 1) (b := 1) (k := e1.toInt) (j := e1) (by simp [own_f]) (by first | rfl | simp [own_e]) R1
    have R3 := own_ofB Hf (e := (own_e e0 e1 e2 e3)) (n := 2) (a := 0) (b := 2) (k := e2.toInt) (j := e2) (by simp [own_f]) (by first | rfl | simp [own_e]) (by decide) R2
    have R4 := own_ofB Hf (e := (own_e e0 e1 e2 e3)) (n := 2) (a := 3) (b := 3) (k := e3.toInt) (j := e3) (by simp [own_f]) (by first | rfl | simp [own_e]) (by decide) R3
    obtain ⟨z0, z1, z2, z3⟩ := own_net_2103 e0.toInt64 e1.toInt64 e2.toInt64 e3.toInt64 (by omega) (by omega) (by omega)
    have o0 : of 0 = e2 := (hof 0 (by decide)).trans ((own_st_rel Hf (by decide) R4 (2 - 1 - 0) (by decide) 0 (by decide)).2.trans ((congrArg (own_e e0 e1 e2 e3) (show _ = (2 : Int32) from by decide +kernel)).trans (by first | rfl | simp [own_e])))
    have o1 : of 1 = e1 := (hof 1 (by decide)).trans ((own_st_rel Hf (by decide) R4 (2 - 1 - 1) (by decide) 0 (by decide)).2.trans ((congrArg (own_e e0 e1 e2 e3) (show _ = (1 : Int32) from by decide +kernel)).trans (by first | rfl | simp [own_e])))
    exact ⟨(by rw [o0, z0]), (by rw [o1, z1])⟩
  · have Hf := own_fm (v0 := e2.toInt) (v1 := e1.toInt) (v2 := e3.toInt) (v3 := e0.toInt) (by omega) (by omega) (by omega)
    have R0 := own_R0 (own_f e2.toInt e1.toInt e3.toInt e0.toInt) (own_e e0 e1 e2 e3)
    have R1 := own_ofA Hf (e := (own_e e0 e1 e2 e3)) (n := 0) (a := 3) (b := 0) (k := e0.toInt) (j := e0) (by simp [own_f]) (by first | rfl | simp [own_e]) R0
    have R2 := own_ofA Hf (e := (own_e e0 e1 e2 e3)) (n := 1) (a := 1) (b := 1) (k := e1.toInt) (j := e1) (by simp [own_f]) (by first | rfl | simp [own_e]) R1
    have R3 := own_ofB Hf (e := (own_e e0 e1 e2 e3)) (n := 2) (a := 0) (b := 2) (k := e2.toInt) (j := e2) (by simp [own_f]) (by first | rfl | simp [own_e]) (by decide) R2
    have R4 := own_ofB Hf (e := (own_e e0 e1 e2 e3)) (n := 2) (a := 2) (b := 3) (k := e3.toInt) (j := e3) (by simp [own_f]) (by first | rfl | simp [own_e]) (by decide) R3
    obtain ⟨z0, z1, z2, z3⟩ := own_net_2130 e0.toInt64 e1.toInt64 e2.toInt64 e3.toInt64 (by omega) (by omega) (by omega)
    have o0 : of 0 = e2 := (hof 0 (by decide)).trans ((own_st_rel Hf (by decide) R4 (2 - 1 - 0) (by decide) 0 (by decide)).2.trans ((congrArg (own_e e0 e1 e2 e3) (show _ = (2 : Int32) from by decide +kernel)).trans (by first | rfl | simp [own_e])))
    have o1 : of 1 = e1 := (hof 1 (by decide)).trans ((own_st_rel Hf (by decide) R4 (2 - 1 - 1) (by decide) 0 (by decide)).2.trans ((congrArg (own_e e0 e1 e2 e3) (show _ = (1 : Int32) from by decide +kernel)).trans (by first | rfl | simp [own_e])))
    exact ⟨(by rw [o0, z0]), (by rw [o1, z1])⟩
  · have Hf := own_fm (v0 := e2.toInt) (v1 := e3.toInt) (v2 := e0.toInt) (v3 := e1.toInt) (by omega) (by omega) (by omega)
    have R0 := own_R0 (own_f e2.toInt e3.toInt e0.toInt e1.toInt) (own_e e0 e1 e2 e3)
    have R1 := own_ofA Hf (e := (own_e e0 e1 e2 e3)) (n := 0) (a := 2) (b := 0) (k := e0.toInt) (j := e0) (by simp [own_f]) (by first | rfl | simp [own_e]) R0
    have R2 := own_ofA Hf (e := (own_e e0 e1 e2 e3)) (n := 1) (a := 3) (b := 1) (k := e1.toInt) (j := e1) (by simp [own_f]) (by first | rfl | simp [own_e]) R1
    have R3 := own_ofB Hf (e := (own_e e0 e1 e2 e3)) (n := 2) (a := 0) (b := 2) (k := e2.toInt) (j := e2) (by simp [own_f]) (by first | rfl | simp [own_e]) (by decide) R2
    have R4 := own_ofB Hf (e := (own_e e0 e1 e2 e3)) (n := 2) (a := 1) (b := 3) (k := e3.toInt) (j := e3) (by simp [own_f]) (by first | rfl | simp [own_e]) (by decide) R3
    obtain ⟨z0, z1, z2, z3⟩ := own_net_2301 e0.toInt64 e1.toInt64 e2.toInt64 e3.toInt64 (by omega) (by omega) (by omega)
    have o0 : of 0 = e2 := (hof 0 (by decide)).trans ((own_st_rel Hf (by decide) R4 (2 - 1 - 0) (by decide) 0 (by decide)).2.trans ((congrArg (own_e e0 e1 e2 e3) (show _ = (2 : Int32) from by decide +kernel)).trans (by first | rfl | simp [own_e])))
    have o1 : of 1 = e3 := (hof 1 (by decide)).trans ((own_st_rel Hf (by decide) R4 (2 - 1 - 1) (by decide) 0 (by decide)).2.trans ((congrArg (own_e e0 e1 e2 e3) (show _ = (3 : Int32) from by decide +kernel)).trans (by first | rfl | simp [own_e])))
    exact ⟨(by rw [o0, z0]), (by rw [o1, z1])⟩
  · have Hf := own_fm (v0 := e2.toInt) (v1 := e3.toInt) (v2 := e1.toInt) (v3 := e0.toInt) (by omega) (by omega) (by omega)
    have R0 := own_R0 (own_f e2.toInt e3.toInt e1.toInt e0.toInt) (own_e e0 e1 e2 e3)
    have R1 := own_ofA Hf (e := (own_e e0 e1 e2 e3)) (n := 0) (a := 3) (b := 0) (k := e0.toInt) (j := e0) (by simp [own_f]) (by first | rfl | simp [own_e]) R0
    have R2 := own_ofA Hf (e := (own_e e0 e1 e2 e3)) (n := 1) (a := 2) (b := 1) (k := e1.toInt) (j := e1) (by simp [own_f]) (by first | rfl | simp [own_e]) R1
    have R3 := own_ofB Hf (e := (own_e e0 e1 e2 e3)) (n := 2) (a := 0) (b := 2) (k := e2.toInt) (j := e2) (by simp [own_f]) (by first | rfl | simp [own_e]) (by decide) R2
    have R4 := own_ofB Hf (e := (own_e e0 e1 e2 e3)) (n := 2) (a := 1) (b := 3) (k := e3.toInt) (j := e3) (by simp [own_f]) (by first | rfl | simp [own_e]) (by decide) R3
    obtain ⟨z0, z1, z2, z3⟩ := own_net_2310 e0.toInt64 e1.toInt64 e2.toInt64 e3.toInt64 (by omega) (by omega) (by omega)
    have o0 : of 0 = e2 := (hof 0 (by decide)).trans ((own_st_rel Hf (by decide) R4 (2 - 1 - 0) (by decide) 0 (by decide)).2.trans ((congrArg (own_e e0 e1 e2 e3) (show _ = (2 : Int32) from by decide +kernel)).trans (by first | rfl | simp [own_e])))
    have o1 : of 1 = e3 := (hof 1 (by decide)).trans ((own_st_rel Hf (by decide) R4 (2 - 1 - 1) (by decide) 0 (by decide)).2.trans ((congrArg (own_e e0 e1 e2 e3) (show _ = (3 : Int32) from by decide +kernel)).trans (by first | rfl | simp [own_e])))
    exact ⟨(by rw [o0, z0]), (by rw [o1, z1])⟩
  · have Hf := own_fm (v0 := e3.toInt) (v1 := e0.toInt) (v2 := e1.toInt) (v3 := e2.toInt) (by omega) (by omega) (by omega)
    have R0 := own_R0 (own_f e3.toInt e0.toInt e1.toInt e2.toInt) (own_e e0 e1 e2 e3)
    have R1 := own_ofA Hf (e := (own_e e0 e1 e2 e3)) (n := 0) (a := 1) (b := 0) (k := e0.toInt) (j := e0) (by simp [own_f]) (by first | rfl | simp [own_e]) R0
    have R2 := own_ofA Hf (e := (own_e e0 e1 e2 e3)) (n := 1) (a := 2) (b := 1) (k := e1.toInt) (j := e1) (by simp [own_f]) (by first | rfl | simp [own_e]) R1
    have R3 := own_ofB Hf (e := (own_e e0 e1 e2 e3)) (n := 2) (a := 3) (b := 2) (k := e2.toInt) (j := e2) (by simp [own_f]) (by first | rfl | simp [own_e]) (by decide) R2
    have R4 := own_ofB Hf (e := (own_e e0 e1 e2 e3)) (n := 2) (a := 0) (b := 3) (k := e3.toInt) (j := e3) (by simp [own_f]) (by first | rfl | simp [own_e]) (by decide) R3
    obtain ⟨z0, z1, z2, z3⟩ := own_net_3012 e0.toInt64 e1.toInt64 e2.toInt64 e3.toInt64 (by omega) (by omega) (by omega)
    have o0 : of 0 = e3 := (hof 0 (by decide)).trans ((own_st_rel Hf (by decide) R4 (2 - 1 - 0) (by decide) 0 (by decide)).2.trans ((congrArg (own_e e0 e1 e2 e3) (show _ = (3 : Int32) from by decide +kernel)).trans (by first | rfl | simp [own_e])))
    have o1 : of 1 = e0 := (hof 1 (by decide)).trans ((own_st_rel Hf (by decide) R4 (2 - 1 - 1) (by decide) 0 (by decide)).2.trans ((congrArg (own_e e0 e1 e2 e3) (show _ = (0 : Int32) from by decide +kernel)).trans (by first | rfl | simp [own_e])))
    exact ⟨(by rw [o0, z0]), (by rw [o1, z1])⟩
  · have Hf := own_fm (v0 := e3.toInt) (v1 := e0.toInt) (v2 := e2.toInt) (v3 := e1.toInt) (by omega) (by omega) (by omega)
    have R0 := own_R0 (own_f e3.toInt e0.toInt e2.toInt e1.toInt) (own_e e0 e1 e2 e3)
    have R1 := own_ofA Hf (e := (own_e e0 e1 e2 e3)) (n := 0) (a := 1) (b := 0) (k := e0.toInt) (j := e0) (by simp [own_f]) (by first | rfl | simp [own_e]) R0
    have R2 := own_ofA Hf (e := (own_e e0 e1 e2 e3)) (n := 1) (a := 3) (b := 1) (k := e1.toInt) (j := e1) (by simp [own_f]) (by first | rfl | simp [own_e]) R1
    have R3 := own_ofB Hf (e := (own_e e0 e1 e2 e3)) (n := 2) (a := 2) (b := 2) (k := e2.toInt) (j := e2) (by simp [own_f]) (by first | rfl | simp [own_e]) (by decide) R2
    have R4 := own_ofB Hf (e := (own_e e0 e1 e2 e3)) (n := 2) (a := 0) (b := 3) (k := e3.toInt) (j := e3) (by simp [own_f]) (by first | rfl | simp [own_e]) (by decide) R3
    obtain ⟨z0, z1, z2, z3⟩ := own_net_3021 e0.toInt64 e1.toInt64 e2.toInt64 e3.toInt64 (by omega) (by omega) (by omega)
    have o0 : of 0 = e3 := (hof 0 (by decide)).trans ((own_st_rel Hf (by decide) R4 (2 - 1 - 0) (by decide) 0 (by decide)).2.trans ((congrArg (own_e e0 e1 e2 e3) (show _ = (3 : Int32) from by decide +kernel)).trans (by first | rfl | simp [own_e])))
    have o1 : of 1 = e0 := (hof 1 (by decide)).trans ((own_st_rel Hf (by decide) R4 (2 - 1 - 1) (by decide) 0 (by decide)).2.trans ((congrArg (own_e e0 e1 e2 e3) (show _ = (0 : Int32) from by decide +kernel)).trans (by first | rfl | simp [own_e])))
    exact ⟨(by rw [o0, z0]), (by rw [o1, z1])⟩
  · have Hf := own_fm (v0 := e3.toInt) (v1 := e1.toInt) (v2 := e0.toInt) (v3 := e2.toInt) (by omega) (by omega) (by omega)
    have R0 := own_R0 (own_f e3.toInt e1.toInt e0.toInt e2.toInt) (own_e e0 e1 e2 e3)
    have R1 := own_ofA Hf (e := (own_e e0 e1 e2 e3)) (n := 0) (a := 2) (b := 0) (k := e0.toInt) (j := e0) (by simp [own_f]) (by first | rfl | simp [own_e]) R0
    have R2 := own_ofA Hf (e := (own_e e0 e1 e2 e3)) (n := 1) (a := 1) (b := 1) (k := e1.toInt) (j := e1) (by simp [own_f]) (by first | rfl | simp [own_e]) R1
    have R3 := own_ofB Hf (e := (own_e e0 e1 e2 e3)) (n := 2) (a := 3) (b := 2) (k := e2.toInt) (j := e2) (by simp [own_f]) (by first | rfl | simp [own_e]) (by decide) R2
    have R4 := own_ofB Hf (e := (own_e e0 e1 e2 e3)) (n := 2) (a := 0) (b := 3) (k := e3.toInt) (j := e3) (by simp [own_f]) (by first | rfl | simp [own_e]) (by decide) R3
    obtain ⟨z0, z1, z2, z3⟩ := own_net_3102 e0.toInt64 e1.toInt64 e2.toInt64 e3.toInt64 (by omega) (by omega) (by omega)
    have o0 : of 0 = e3 := (hof 0 (by decide)).trans ((own_st_rel Hf (by decide) R4 (2 - 1 - 0) (by decide) 0 (by decide)).2.trans ((congrArg (own_e e0 e1 e2 e3) (show _ = (3 : Int32) from by decide +kernel)).trans (by first | rfl | simp [own_e])))
    have o1 : of 1 = e1 := (hof 1 (by decide)).trans ((own_st_rel Hf (by decide) R4 (2 - 1 - 1) (by decide) 0 (by decide)).2.trans ((congrArg (own_e e0 e1 e2 e3) (show _ = (1 : Int32) from by decide +kernel)).trans (by first | rfl | simp [own_e])))
    exact ⟨(by rw [o0, z0]), (by rw [o1, z1])⟩
  · have Hf := own_fm (v0 := e3.toInt) (v1 := e1.toInt) (v2 := e2.toInt) (v3 := e0.toInt) (by omega) (by omega) (by omega)
    have R0 := own_R0 (own_f e3.toInt e1.toInt e2.toInt e0.toInt) (own_e e0 e1 e2 e3)
    have R1 := own_ofA Hf (e := (own_e e0 e1 e2 e3)) (n := 0) (a := 3) (b := 0) (k := e0.toInt) (j := e0) (by simp [own_f]) (by first | rfl | simp [own_e]) R0
    have R2 := own_ofA Hf (e := (own_e e0 e1 e2 e3)) (n := 1) (a := 1) (b := 1) (k := e1.toInt) (j := e1) (by simp [own_f]) (by first | rfl | simp [own_e]) R1
    have R3 := own_ofB Hf (e := (own_e e0 e1 e2 e3)) (n := 2) (a := 2) (b := 2) (k := e2.toInt) (j := e2) (by simp [own_f]) (by first | rfl | simp [own_e]) (by decide) R2
    have R4 := own_ofB Hf (e := (own_e e0 e1 e2 e3)) (n := 2) (a := 0) (b := 3) (k := e3.toInt) (j := e3) (by simp [own_f]) (by first | rfl | simp [own_e]) (by decide) R3
    obtain ⟨z0, z1, z2, z3⟩ := own_net_3120 e0.toInt64 e1.toInt64 e2.toInt64 e3.toInt64 (by omega) (by omega) (by omega)
    have o0 : of 0 = e3 := (hof 0 (by decide)).trans ((own_st_rel Hf (by decide) R4 (2 - 1 - 0) (by decide) 0 (by decide)).2.trans ((congrArg (own_e e0 e1 e2 e3) (show _ = (3 : Int32) from by decide +kernel)).trans (by first | rfl | simp [own_e])))
    have o1 : of 1 = e1 := (hof 1 (by decide)).trans ((own_st_rel Hf (by decide) R4 (2 - 1 - 1) (by decide) 0 (by decide)).2.trans ((congrArg (own_e e0 e1 e2 e3) (show _ = (1 : Int32) from by decide +kernel)).trans (by first | rfl | simp [own_e])))
    exact ⟨(by rw [o0, z0]), (by rw [o1, z1])⟩
  · have Hf := own_fm (v0 := e3.toInt) (v1 := e2.toInt) (v2 := e0.toInt) (v3 := e1.toInt) (by omega) (by omega) (by omega)
    have R0 := own_R0 (own_f e3.toInt e2.toInt e0.toInt e1.toInt) (own_e e0 e1 e2 e3)
    have R1 := own_ofA Hf (e := (own_e e0 e1 e2 e3)) (n := 0) (a := 2) (b := 0) (k := e0.toInt) (j := e0) (by simp [own_f]) (by first | rfl | simp [own_e]) R0
    have R2 := own_ofA Hf (e := (own_e e0 e1 e2 e3)) (n := 1) (a := 3) (b := 1) (k := e1.toInt) (j := e1) (by simp [own_f]) (by first | rfl | simp [own_e]) R1
    have R3 := own_ofB Hf (e := (own_e e0 e1 e2 e3)) (n := 2) (a := 1) (b := 2) (k := e2.toInt) (j := e2) (by simp [own_f]) (by first | rfl | simp [own_e]) (by decide) R2
    have R4 := own_ofB Hf (e := (own_e e0 e1 e2 e3)) (n := 2) (a := 0) (b := 3) (k := e3.toInt) (j := e3) (by simp [own_f]) (by first | rfl | simp [own_e]) (by decide) R3
    obtain ⟨z0, z1, z2, z3⟩ := own_net_3201 e0.toInt64 e1.toInt64 e2.toInt64 e3.toInt64 (by omega) (by omega) (by omega)
    have o0 : of 0 = e3 := (hof 0 (by decide)).trans ((own_st_rel Hf (by decide) R4 (2 - 1 - 0) (by decide) 0 (by decide)).2.trans ((congrArg (own_e e0 e1 e2 e3) (show _ = (3 : Int32) from by decide +kernel)).trans (by first | rfl | simp [own_e])))
    have o1 : of 1 = e2 := (hof 1 (by decide)).trans ((own_st_rel Hf (by decide) R4 (2 - 1 - 1) (by decide) 0 (by decide)).2.trans ((congrArg (own_e e0 e1 e2 e3) (show _ = (2 : Int32) from by decide +kernel)).trans (by first | rfl | simp [own_e])))
    exact ⟨(by rw [o0, z0]), (by rw [o1, z1])⟩
  · have Hf := own_fm (v0 := e3.toInt) (v1 := e2.toInt) (v2 := e1.toInt) (v3 := e0.toInt) (by omega) (by omega) (by omega)
    have R0 := own_R0 (own_f e3.toInt e2.toInt e1.toInt e0.toInt) (own_e e0 e1 e2 e3)
    have R1 := own_ofA Hf (e := (own_e e0 e1 e2 e3)) (n := 0) (a := 3) (b := 0) (k := e0.toInt) (j := e0) (by simp [own_f]) (by first | rfl | simp [own_e]) R0
    have R2 := own_ofA Hf (e := (own_e e0 e1 e2 e3)) (n := 1) (a := 2) (b := 1) (k := e1.toInt) (j := e1) (by simp [own_f]) (by first | rfl | simp [own_e]) R1
    have R3 := own_ofB Hf (e := (own_e e0 e1 e2 e3)) (n := 2) (a := 1) (b := 2) (k := e2.toInt) (j := e2) (by simp [own_f]) (by first | rfl | simp [own_e]) (by decide) R2
    have R4 := own_ofB Hf (e := (own_e e0 e1 e2 e3)) (n := 2) (a := 0) (b := 3) (k := e3.toInt) (j := e3) (by simp [own_f]) (by first | rfl | simp [own_e]) (by decide) R3
    obtain ⟨z0, z1, z2, z3⟩ := own_net_3210 e0.toInt64 e1.toInt64 e2.toInt64 e3.toInt64 (by omega) (by omega) (by omega)
    have o0 : of 0 = e3 := (hof 0 (by decide)).trans ((own_st_rel Hf (by decide) R4 (2 - 1 - 0) (by decide) 0 (by decide)).2.trans ((congrArg (own_e e0 e1 e2 e3) (show _ = (3 : Int32) from by decide +kernel)).trans (by first | rfl | simp [own_e])))
    have o1 : of 1 = e2 := (hof 1 (by decide)).trans ((own_st_rel Hf (by decide) R4 (2 - 1 - 1) (by decide) 0 (by decide)).2.trans ((congrArg (own_e e0 e1 e2 e3) (show _ = (2 : Int32) from by decide +kernel)).trans (by first | rfl | simp [own_e])))
    exact ⟨(by rw [o0, z0]), (by rw [o1, z1])⟩
theorem own_fin_3_1 (e0 : Int32)  (K1 : Nat → Int) (J1 : Nat → Int32) (gK1 : (own_of 0 true (fun _ => (0 : Int)) (fun _ => (0 : Int32)) e0.toInt e0).1 = K1) (gJ1 : (own_of 0 true (fun _ => (0 : Int)) (fun _ => (0 : Int32)) e0.toInt e0).2 = J1) (of : Nat → Int32) (hof : ∀ d, d < 1 → of d = (own_st 1 K1 J1 (1 - 1 - d)).2 0) : (of 0).toInt64 = (own_mn (own_mn e0.toInt64 (9223372036854775807 : Int64)) (own_mn (9223372036854775807 : Int64) (9223372036854775807 : Int64))) := by
  subst gK1 gJ1
  have q0 := c_i2l e0
  have r0 := rng32 e0
  have qM : (9223372036854775807 : Int64).toInt = 9223372036854775807 := by decide
  have Hf := own_fm (v0 := e0.toInt) (v1 := (e0.toInt + 1)) (v2 := ((e0.toInt + 1) + 1)) (v3 := (((e0.toInt + 1) + 1) + 1)) (by omega) (by omega) (by omega)
  have R0 := own_R0 (own_f e0.toInt (e0.toInt + 1) ((e0.toInt + 1) + 1) (((e0.toInt + 1) + 1) + 1)) (own_e e0 0 0 0)
  have R1 := own_ofA Hf (e := (own_e e0 0 0 0)) (n := 0) (a := 0) (b := 0) (k := e0.toInt) (j := e0) (by simp [own_f]) (by first | rfl | simp [own_e]) R0
  obtain ⟨z0, z1, z2, z3⟩ := own_net_0123 e0.toInt64 (9223372036854775807 : Int64) (9223372036854775807 : Int64) (9223372036854775807 : Int64) (by omega) (by omega) (by omega)
  have o0 : of 0 = e0 := (hof 0 (by decide)).trans ((own_st_rel Hf (by decide) R1 (1 - 1 - 0) (by decide) 0 (by decide)).2.trans ((congrArg (own_e e0 0 0 0) (show _ = (0 : Int32) from by decide +kernel)).trans (by first | rfl | simp [own_e])))
  rw [o0, z0]
theorem own_fin_3_2 (e0 e1 : Int32) (d01 : e0.toInt ≠ e1.toInt) (K1 : Nat → Int) (J1 : Nat → Int32) (gK1 : (own_of 0 true (fun _ => (0 : Int)) (fun _ => (0 : Int32)) e0.toInt e0).1 = K1) (gJ1 : (own_of 0 true (fun _ => (0 : Int)) (fun _ => (0 : Int32)) e0.toInt e0).2 = J1) (K2 : Nat → Int) (J2 : Nat → Int32) (gK2 : (own_of 1 true K1 J1 e1.toInt e1).1 = K2) (gJ2 : (own_of 1 true K1 J1 e1.toInt e1).2 = J2) (of : Nat → Int32) (hof : ∀ d, d < 2 → of d = (own_st 2 K2 J2 (2 - 1 - d)).2 0) : (of 0).toInt64 = (own_mn (own_mn e0.toInt64 e1.toInt64) (own_mn (9223372036854775807 : Int64) (9223372036854775807 : Int64))) ∧ (of 1).toInt64 = (own_mn (own_mn (own_mx e0.toInt64 e1.toInt64) (own_mx (9223372036854775807 : Int64) (9223372036854775807 : Int64))) (own_mx (own_mn e0.toInt64 e1.toInt64) (own_mn (9223372036854775807 : Int64) (9223372036854775807 : Int64)))) := by
  subst gK1 gJ1
  subst gK2 gJ2
  have q0 := c_i2l e0
  have r0 := rng32 e0
  have q1 := c_i2l e1
  have r1 := rng32 e1
  have qM : (9223372036854775807 : Int64).toInt = 9223372036854775807 := by decide
  rcases own_ord2 e0.toInt e1.toInt d01 with h | h
  · have Hf := own_fm (v0 := e0.toInt) (v1 := e1.toInt) (v2 := (e1.toInt + 1)) (v3 := ((e1.toInt + 1) + 1)) (by omega) (by omega) (by omega)
    have R0 := own_R0 (own_f e0.toInt e1.toInt (e1.toInt + 1) ((e1.toInt + 1) + 1)) (own_e e0 e1 0 0)
    have R1 := own_ofA Hf (e := (own_e e0 e1 0 0)) (n := 0) (a := 0) (b := 0) (k := e0.toInt) (j := e0) (by simp [own_f]) (by first | rfl | simp [own_e]) R0
    have R2 := own_ofA Hf (e := (own_e e0 e1 0 0)) (n := 1) (a := 1) (b := 1) (k := e1.toInt) (j := e1) (by simp [own_f]) (by first | rfl | simp [own_e]) R1
    obtain ⟨z0, z1, z2, z3⟩ := own_net_0123 e0.toInt64 e1.toInt64 (9223372036854775807 : Int64) (9223372036854775807 : Int64) (by omega) (by omega) (by omega)
    have o0 : of 0 = e0 := (hof 0 (by decide)).trans ((own_st_rel Hf (by decide) R2 (2 - 1 - 0) (by decide) 0 (by decide)).2.trans ((congrArg (own_e e0 e1 0 0) (show _ = (0 : Int32) from by decide +kernel)).trans (by first | rfl | simp [own_e])))
    have o1 : of 1 = e1 := (hof 1 (by decide)).trans ((own_st_rel Hf (by decide) R2 (2 - 1 - 1) (by decide) 0 (by decide)).2.trans ((congrArg (own_e e0 e1 0 0) (show _ = (1 : Int32) from by decide +kernel)).trans (by first | rfl | simp [own_e])))
    exact ⟨(by rw [o0, z0]), (by rw [o1, z1])⟩
  · have Hf := own_fm (v0 := e1.toInt) (v1 := e0.toInt) (v2 := (e0.toInt + 1)) (v3 := ((e0.toInt + 1) + 1)) (by omega) (by omega) (by omega)
    have R0 := own_R0 (own_f e1.toInt e0.toInt (e0.toInt + 1) ((e0.toInt + 1) + 1)) (own_e e0 e1 0 0)
    have R1 := own_ofA Hf (e := (own_e e0 e1 0 0)) (n := 0) (a := 1) (b := 0) (k := e0.toInt) (j := e0) (by simp [own_f]) (by first | rfl | simp [own_e]) R0
    have R2 := own_ofA Hf (e := (own_e e0 e1 0 0)) (n := 1) (a := 0) (b := 1) (k := e1.toInt) (j := e1) (by simp [own_f]) (by first | rfl | simp [own_e]) R1
    obtain ⟨z0, z1, z2, z3⟩ := own_net_1023 e0.toInt64 e1.toInt64 (9223372036854775807 : Int64) (9223372036854775807 : Int64) (by omega) (by omega) (by omega)
    have o0 : of 0 = e1 := (hof 0 (by decide)).trans ((own_st_rel Hf (by decide) R2 (2 - 1 - 0) (by decide) 0 (by decide)).2.trans ((congrArg (own_e e0 e1 0 0) (show _ = (1 : Int32) from by decide +kernel)).trans (by first | rfl | simp [own_e])))
    have o1 : of 1 = e0 := (hof 1 (by decide)).trans ((own_st_rel Hf (by decide) R2 (2 - 1 - 1) (by decide) 0 (by decide)).2.trans ((congrArg (own_e e0 e1 0 0) (show _ = (0 : Int32) from by decide +kernel)).trans (by first | rfl | simp [own_e])))
    exact ⟨(by rw [o0, z0]), (by rw [o1, z1])⟩
theorem own_fin_3_3 (e0 e1 e2 : Int32) (d01 : e0.toInt ≠ e1.toInt) (d02 : e0.toInt ≠ e2.toInt) (d12 : e1.toInt ≠ e2.toInt) (K1 : Nat → Int) (J1 : Nat → Int32) (gK1 : (own_of 0 true (fun _ => (0 : Int)) (fun _ => (0 : Int32)) e0.toInt e0).1 = K1) (gJ1 : (own_of 0 true (fun _ => (0 : Int)) (fun _ => (0 : Int32)) e0.toInt e0).2 = J1) (K2 : Nat → Int) (J2 : Nat → Int32) (gK2 : (own_of 1 true K1 J1 e1.toInt e1).1 = K2) (gJ2 : (own_of 1 true K1 J1 e1.toInt e1).2 = J2) (K3 : Nat → Int) (J3 : Nat → Int32) (gK3 : (own_of 2 true K2 J2 e2.toInt e2).1 = K3) (gJ3 : (own_of 2 true K2 J2 e2.toInt e2).2 = J3) (of : Nat → Int32) (hof : ∀ d, d < 3 → of d = (own_st 3 K3 J3 (3 - 1 - d)).2 0) : (of 0).toInt64 = (own_mn (own_mn e0.toInt64 e1.toInt64) (own_mn e2.toInt64 (9223372036854775807 : Int64))) ∧ (of 1).toInt64 = (own_mn (own_mn (own_mx e0.toInt64 e1.toInt64) (own_mx e2.toInt64 (9223372036854775807 : Int64))) (own_mx (own_mn e0.toInt64 e1.toInt64) (own_mn e2.toInt64 (9223372036854775807 : Int64)))) ∧ (of 2).toInt64 = (own_mx (own_mn (own_mx e0.toInt64 e1.toInt64) (own_mx e2.toInt64 (9223372036854775807 : Int64))) (own_mx (own_mn e0.toInt64 e1.toInt64) (own_mn e2.toInt64 (9223372036854775807 : Int64)))) := by
  subst gK1 gJ1
  subst gK2 gJ2
  subst gK3 gJ3
  have q0 := c_i2l e0
  have r0 := rng32 e0
  have q1 := c_i2l e1
  have r1 := rng32 e1
  have q2 := c_i2l e2
  have r2 := rng32 e2
  have qM : (9223372036854775807 : Int64).toInt = 9223372036854775807 := by decide
  rcases own_ord3 e0.toInt e1.toInt e2.toInt d01 d02 d12 with h | h | h | h | h | h
  · have Hf := own_fm (v0 := e0.toInt) (v1 := e1.toInt) (v2 := e2.toInt) (v3 := (e2.toInt + 1)) (by omega) (by omega) (by omega)
    have R0 := own_R0 (own_f e0.toInt e1.toInt e2.toInt (e2.toInt + 1)) (own_e e0 e1 e2 0)
    have R1 := own_ofA Hf (e := (own_e e0 e1 e2 0)) (n := 0) (a := 0) (b := 0) (k := e0.toInt) (j := e0) (by simp [own_f]) (by first | rfl | simp [own_e]) R0
    have R2 := own_ofA Hf (e := (own_e e0 e1 e2 0)) (n := 1) (a := 1) (b := 1) (k := e1.toInt) (j := e1) (by simp [own_f]) (by first | rfl | simp [own_e]) R1
    have R3 := own_ofA Hf (e := (own_e e0 e1 e2 0)) (n := 2) (a := 2) (b := 2) (k := e2.toInt) (j := e2) (by simp [own_f]) (by first | rfl | simp [own_e]) R2
    obtain ⟨z0, z1, z2, z3⟩ := own_net_0123 e0.toInt64 e1.toInt64 e2.toInt64 (9223372036854775807 : Int64) (by omega) (by omega) (by omega)
    have o0 : of 0 = e0 := (hof 0 (by decide)).trans ((own_st_rel Hf (by decide) R3 (3 - 1 - 0) (by decide) 0 (by decide)).2.trans ((congrArg (own_e e0 e1 e2 0) (show _ = (0 : Int32) from by decide +kernel)).trans (by first | rfl | simp [own_e])))
    have o1 : of 1 = e1 := (hof 1 (by decide)).trans ((own_st_rel Hf (by decide) R3 (3 - 1 - 1) (by decide) 0 (by decide)).2.trans ((congrArg (own_e e0 e1 e2 0) (show _ = (1 : Int32) from by decide +kernel)).trans (by first | rfl | simp [own_e])))
    have o2 : of 2 = e2 := (hof 2 (by decide)).trans ((own_st_rel Hf (by decide) R3 (3 - 1 - 2) (by decide) 0 (by decide)).2.trans ((congrArg (own_e e0 e1 e2 0) (show _ = (2 : Int32) from by decide +kernel)).trans (by first | rfl | simp [own_e])))
    exact ⟨(by rw [o0, z0]), (by rw [o1, z1]), (by rw [o2, z2])⟩
  · have Hf := own_fm (v0 := e0.toInt) (v1 := e2.toInt) (v2 := e1.toInt) (v3 := (e1.toInt + 1)) (by omega) (by omega) (by omega)
    have R0 := own_R0 (own_f e0.toInt e2.toInt e1.toInt (e1.toInt + 1)) (own_e e0 e1 e2 0)
    have R1 := own_ofA Hf (e := (own_e e0 e1 e2 0)) (n := 0) (a := 0) (b := 0) (k := e0.toInt) (j := e0) (by simp [own_f]) (by first | rfl | simp [own_e]) R0
    have R2 := own_ofA Hf (e := (own_e e0 e1 e2 0)) (n := 1) (a := 2) (b := 1) (k := e1.toInt) (j := e1) (by simp [own_f]) (by first | rfl | simp [own_e]) R1
    have R3 := own_ofA Hf (e := (own_e e0 e1 e2 0)) (n := 2) (a := 1) (b := 2) (k := e2.toInt) (j := e2) (by simp [own_f]) (by first | rfl | simp [own_e]) R2
    obtain ⟨z0, z1, z2, z3⟩ := own_net_0213 e0.toInt64 e1.toInt64 e2.toInt64 (9223372036854775807 : Int64) (by omega) (by omega) (by omega)
    have o0 : of 0 = e0 := (hof 0 (by decide)).trans ((own_st_rel Hf (by decide) R3 (3 - 1 - 0) (by decide) 0 (by decide)).2.trans ((congrArg (own_e e0 e1 e2 0) (show _ = (0 : Int32) from by decide +kernel)).trans (by first | rfl | simp [own_e])))
    have o1 : of 1 = e2 := (hof 1 (by decide)).trans ((own_st_rel Hf (by decide) R3 (3 - 1 - 1) (by decide) 0 (by decide)).2.trans ((congrArg (own_e e0 e1 e2 0) (show _ = (2 : Int32) from by decide +kernel)).trans (by first | rfl | simp [own_e])))
    have o2 : of 2 = e1 := (hof 2 (by decide)).trans ((own_st_rel Hf (by decide) R3 (3 - 1 - 2) (by decide) 0 (by decide)).2.trans ((congrArg (own_e e0 e1 e2 0) (show _ = (1 : Int32) from by decide +kernel)).trans (by first | rfl | simp [own_e])))
    exact ⟨(by rw [o0, z0]), (by rw [o1, z1]), (by rw [o2, z2])⟩
  · have Hf := own_fm (v0 := e1.toInt) (v1 := e0.toInt) (v2 := e2.toInt) (v3 := (e2.toInt + 1)) (by omega) (by omega) (by omega)
    have R0 := own_R0 (own_f e1.toInt e0.toInt e2.toInt (e2.toInt + 1)) (own_e e0 e1 e2 0)
    have R1 := own_ofA Hf (e := (own_e e0 e1 e2 0)) (n := 0) (a := 1) (b := 0) (k := e0.toInt) (j := e0) (by simp [own_f]) (by first | rfl | simp [own_e]) R0
    have R2 := own_ofA Hf (e := (own_e e0 e1 e2 0)) (n := 1) (a := 0) (b := 1) (k := e1.toInt) (j := e1) (by simp [own_f]) (by first | rfl | simp [own_e]) R1
    have R3 := own_ofA Hf (e := (own_e e0 e1 e2 0)) (n := 2) (a := 2) (b := 2) (k := e2.toInt) (j := e2) (by simp [own_f]) (by first | rfl | simp [own_e]) R2
    obtain ⟨z0, z1, z2, z3⟩ := own_net_1023 e0.toInt64 e1.toInt64 e2.toInt64 (9223372036854775807 : Int64) (by omega) (by omega) (by omega)
    have o0 : of 0 = e1 := (hof 0 (by decide)).trans ((own_st_rel Hf (by decide) R3 (3 - 1 - 0) (by decide) 0 (by decide)).2.trans ((congrArg (own_e e0 e1 e2 0) (show _ = (1 : Int32) from by decide +kernel)).trans (by first | rfl | simp [own_e])))
    have o1 : of 1 = e0 := (hof 1 (by decide)).trans ((own_st_rel Hf (by decide) R3 (3 - 1 - 1) (by decide) 0 (by decide)).2.trans ((congrArg (own_e e0 e1 e2 0) (show _ = (0 : Int32) from by decide +kernel)).trans (by first | rfl | simp [own_e])))
    have o2 : of 2 = e2 := (hof 2 (by decide)).trans ((own_st_rel Hf (by decide) R3 (3 - 1 - 2) (by decide) 0 (by decide)).2.trans ((congrArg (own_e e0 e1 e2 0) (show _ = (2 : Int32) from by decide +kernel)).trans (by first | rfl | simp [own_e])))
    exact ⟨(by rw [o0, z0]), (by rw [o1, z1]), (by rw [o2, z2])⟩
  · have Hf := own_fm (v0 := e1.toInt) (v1 := e2.toInt) (v2 := e0.toInt) (v3 := (e0.toInt + 1)) (by omega) (by omega) (by omega)
    have R0 := own_R0 (own_f e1.toInt e2.toInt e0.toInt (e0.toInt + 1)) (own_e e0 e1 e2 0)
    have R1 := own_ofA Hf (e := (own_e e0 e1 e2 0)) (n := 0) (a := 2) (b := 0) (k := e0.toInt) (j := e0) (by simp [own_f]) (by first | rfl | simp [own_e]) R0
    have R2 := own_ofA Hf (e := (own_e e0 e1 e2 0)) (n := 1) (a := 0) (b := 1) (k := e1.toInt) (j := e1) (by simp [own_f]) (by first | rfl | simp [own_e]) R1
    have R3 := own_ofA Hf (e := (own_e e0 e1 e2 0)) (n := 2) (a := 1) (b := 2) (k := e2.toInt) (j := e2) (by simp [own_f]) (by first | rfl | simp [own_e]) R2
    obtain ⟨z0, z1, z2, z3⟩ := own_net_1203 e0.toInt64 e1.toInt64 e2.toInt64 (9223372036854775807 : Int64) (by omega) (by omega) (by omega)
    have o0 : of 0 = e1 := (hof 0 (by decide)).trans ((own_st_rel Hf (by decide) R3 (3 - 1 - 0) (by decide) 0 (by decide)).2.trans ((congrArg (own_e e0 e1 e2 0) (show _ = (1 : Int32) from by decide +kernel)).trans (by first | rfl | simp [own_e])))
    have o1 : of 1 = e2 := (hof 1 (by decide)).trans ((own_st_rel Hf (by decide) R3 (3 - 1 - 1) (by decide) 0 (by decide)).2.trans ((congrArg (own_e e0 e1 e2 0) (show _ = (2 : Int32) from by decide +kernel)).trans (by first | rfl | simp [own_e])))
    have o2 : of 2 = e0 := (hof 2 (by decide)).trans ((own_st_rel Hf (by decide) R3 (3 - 1 - 2) (by decide) 0 (by decide)).2.trans ((congrArg (own_e e0 e1 e2 0) (show _ = (0 : Int32) from by decide +kernel)).trans (by first | rfl | simp [own_e])))
    exact ⟨(by rw [o0, z0]), (by rw [o1, z1]), (by rw [o2, z2])⟩
  · have Hf := own_fm (v0 := e2.toInt) (v1 := e0.toInt) (v2 := e1.toInt) (v3 := (e1.toInt + 1)) (by omega) (by omega) (by omega)
    have R0 := own_R0 (own_f e2.toInt e0.toInt e1.toInt (e1.toInt + 1)) (own_e e0 e1 e2 0)
    have R1 := own_ofA Hf (e := (own_e e0 e1 e2 0)) (n := 0) (a := 1) (b := 0) (k := e0.toInt) (j := e0) (by simp [own_f]) (by first | rfl | simp [own_e]) R0
    have R2 := own_ofA Hf (e := (own_e e0 e1 e2 0)) (n := 1) (a := 2) (b := 1) (k := e1.toInt) (j := e1) (by simp [own_f]) (by first | rfl | simp [own_e]) R1
    have R3 := own_ofA Hf (e := (own_e e0 e1 e2 0)) (n := 2) (a := 0) (b := 2) (k := e2.toInt) (j := e2) (by simp [own_f]) (by first | rfl | simp [own_e]) R2
    obtain ⟨z0, z1, z2, z3⟩ := own_net_2013 e0.toInt64 e1.toInt64 e2.toInt64 (9223372036854775807 : Int64) (by omega) (by omega) (by omega)
    have o0 : of 0 = e2 := (hof 0 (by decide)).trans ((own_st_rel Hf (by decide) R3 (3 - 1 - 0) (by decide) 0 (by decide)).2.trans ((congrArg (own_e e0 e1 e2 0) (show _ = (2 : Int32) from by decide +kernel)).trans (by first | rfl | simp [own_e])))
    have o1 : of 1 = e0 := (hof 1 (by decide)).trans ((own_st_rel Hf (by decide) R3 (3 - 1 - 1) (by decide) 0 (by decide)).2.trans ((congrArg (own_e e0 e1 e2 0) (show _ = (0 : Int32) from by decide +kernel)).trans (by first | rfl | simp [own_e])))
    have o2 : of 2 = e1 := (hof 2 (by decide)).trans ((own_st_rel Hf (by decide) R3 (3 - 1 - 2) (by decide) 0 (by decide)).2.trans ((congrArg (own_e e0 e1 e2 0) (show _ = (1 : Int32) from by decide +kernel)).trans (by first | rfl | simp [own_e])))
    exact ⟨(by rw [o0, z0]), (by rw [o1, z1]), (by rw [o2, z2])⟩
  · have Hf := own_fm (v0 := e2.toInt) (v1 := e1.toInt) (v2 := e0.toInt) (v3 := (e0.toInt + 1)) (by omega) (by omega) (by omega)
    have R0 := own_R0 (own_f e2.toInt e1.toInt e0.toInt (e0.toInt + 1)) (own_e e0 e1 e2 0)
    have R1 := own_ofA Hf (e := (own_e e0 e1 e2 0)) (n := 0) (a := 2) (b := 0) (k := e0.toInt) (j := e0) (by simp [own_f]) (by first | rfl | simp [own_e]) R0
    have R2 := own_ofA Hf (e := (own_e e0 e1 e2 0)) (n := 1) (a := 1) (b := 1) (k := e1.toInt) (j := e1) (by simp [own_f]) (by first | rfl | simp [own_e]) R1
    have R3 := own_ofA Hf (e := (own_e e0 e1 e2 0)) (n := 2) (a := 0) (b := 2) (k := e2.toInt) (j := e2) (by simp [own_f]) (by first | rfl | simp [own_e]) R2
    obtain ⟨z0, z1, z2, z3⟩ := own_net_2103 e0.toInt64 e1.toInt64 e2.toInt64 (9223372036854775807 : Int64) (by omega) (by omega) (by omega)
    have o0 : of 0 = e2 := (hof 0 (by decide)).trans ((own_st_rel Hf (by decide) R3 (3 - 1 - 0) (by decide) 0 (by decide)).2.trans ((congrArg (own_e e0 e1 e2 0) (show _ = (2 : Int32) from by decide +kernel)).trans (by first | rfl | simp [own_e])))
    have o1 : of 1 = e1 := (hof 1 (by decide)).trans ((own_st_rel Hf (by decide) R3 (3 - 1 - 1) (by decide) 0 (by decide)).2.trans ((congrArg (own_e e0 e1 e2 0) (show _ = (1 : Int32) from by decide +kernel)).trans (by first | rfl | simp [own_e])))
    have o2 : of 2 = e0 := (hof 2 (by decide)).trans ((own_st_rel Hf (by decide) R3 (3 - 1 - 2) (by decide) 0 (by decide)).2.trans ((congrArg (own_e e0 e1 e2 0) (show _ = (0 : Int32) from by decide +kernel)).trans (by first | rfl | simp [own_e])))
    exact ⟨(by rw [o0, z0]), (by rw [o1, z1]), (by rw [o2, z2])⟩
theorem own_fin_3_4 (e0 e1 e2 e3 : Int32) (d01 : e0.toInt ≠ e1.toInt) (d02 : e0.toInt ≠ e2.toInt) (d03 : e0.toInt ≠ e3.toInt) (d12 : e1.toInt ≠ e2.toInt) (d13 : e1.toInt ≠ e3.toInt) (d23 : e2.toInt ≠ e3.toInt) (K1 : Nat → Int) (J1 : Nat → Int32) (gK1 : (own_of 0 true (fun _ => (0 : Int)) (fun _ => (0 : Int32)) e0.toInt e0).1 = K1) (gJ1 : (own_of 0 true (fun _ => (0 : Int)) (fun _ => (0 : Int32)) e0.toInt e0).2 = J1) (K2 : Nat → Int) (J2 : Nat → Int32) (gK2 : (own_of 1 true K1 J1 e1.toInt e1).1 = K2) (gJ2 : (own_of 1 true K1 J1 e1.toInt e1).2 = J2) (K3 : Nat → Int) (J3 : Nat → Int32) (gK3 : (own_of 2 true K2 J2 e2.toInt e2).1 = K3) (gJ3 : (own_of 2 true K2 J2 e2.toInt e2).2 = J3) (K4 : Nat → Int) (J4 : Nat → Int32) (gK4 : (own_of 3 false K3 J3 e3.toInt e3).1 = K4) (gJ4 : (own_of 3 false K3 J3 e3.toInt e3).2 = J4) (of : Nat → Int32) (hof : ∀ d, d < 3 → of d = (own_st 3 K4 J4 (3 - 1 - d)).2 0) : (of 0).toInt64 = (own_mn (own_mn e0.toInt64 e1.toInt64) (own_mn e2.toInt64 e3.toInt64)) ∧ (of 1).toInt64 = (own_mn (own_mn (own_mx e0.toInt64 e1.toInt64) (own_mx e2.toInt64 e3.toInt64)) (own_mx (own_mn e0.toInt64 e1.toInt64) (own_mn e2.toInt64 e3.toInt64))) ∧ (of 2).toInt64 = (own_mx (own_mn (own_mx e0.toInt64 e1.toInt64) (own_mx e2.toInt64 e3.toInt64)) (own_mx (own_mn e0.toInt64 e1.toInt64) (own_mn e2.toInt64 e3.toInt64))) := by
  subst gK1 gJ1
  subst gK2 gJ2
  subst gK3 gJ3
  subst gK4 gJ4
  have q0 := c_i2l e0
  have r0 := rng32 e0
  have q1 := c_i2l e1
  have r1 := rng32 e1
  have q2 := c_i2l e2
  have r2 := rng32 e2
  have q3 := c_i2l e3
  have r3 := rng32 e3
  have qM : (9223372036854775807 : Int64).toInt = 9223372036854775807 := by decide
  rcases own_ord4 e0.toInt e1.toInt e2.toInt e3.toInt d01 d02 d03 d12 d13 d23 with h | h | h | h | h | h | h | h | h | h | h | h | h | h | h | h | h | h | h | h | h | h | h | h
  · have Hf := own_fm (v0 := e0.toInt) (v1 := e1.toInt) (v2 := e2.toInt) (v3 := e3.toInt) (by omega) (by omega) (by omega)
    have R0 := own_R0 (own_f e0.toInt e1.toInt e2.toInt e3.toInt) (own_e e0 e1 e2 e3)
    have R1 := own_ofA Hf (e := (own_e e0 e1 e2 e3)) (n := 0) (a := 0) (b := 0) (k := e0.toInt) (j := e0) (by simp [own_f]) (by first | rfl | simp [own_e]) R0
    have R2 := own_ofA Hf (e := (own_e e0 e1 e2 e3)) (n := 1) (a := 1) (b := 1) (k := e1.toInt) (j := e1) (by simp [own_f]) (by first | rfl | simp [own_e]) R1
    have R3 := own_ofA Hf (e := (own_e e0 e1 e2 e3)) (n := 2) (a := 2) (b := 2) (k := e2.toInt) (j := e2) (by simp [own_f]) (by first | rfl | simp [own_e]) R2
    have R4 := own_ofB Hf (e := (own_e e0 e1 e2 e3)) (n := 3) (a := 3) (b := 3) (k := e3.toInt) (j := e3) (by simp [own_f]) (by first | rfl | simp [own_e]) (by decide) R3
    obtain ⟨z0, z1, z2, z3⟩ := own_net_0123 e0.toInt64 e1.toInt64 e2.toInt64 e3.toInt64 (by omega) (by omega) (by omega)
    have o0 : of 0 = e0 := (hof 0 (by decide)).trans ((own_st_rel Hf (by decide) R4 (3 - 1 - 0) (by decide) 0 (by decide)).2.trans ((congrArg (own_e e0 e1 e2 e3) (show _ = (0 : Int32) from by decide +kernel)).trans (by first | rfl | simp [own_e])))
    have o1 : of 1 = e1 := (hof 1 (by decide)).trans ((own_st_rel Hf (by decide) R4 (3 - 1 - 1) (by decide) 0 (by decide)).2.trans ((congrArg (own_e e0 e1 e2 e3) (show _ = (1 : Int32) from by decide +kernel)).trans (by first | rfl | simp [own_e])))
    have o2 : of 2 = e2 := (hof 2 (by decide)).trans ((own_st_rel Hf (by decide) R4 (3 - 1 - 2) (by decide) 0 (by decide)).2.trans ((congrArg (own_e e0 e1 e2 e3) (show _ = (2 : Int32) from by decide +kernel)).trans (by first | rfl | simp [own_e])))
    exact ⟨(by rw [o0, z0]), (by rw [o1, z1]), (by rw [o2, z2])⟩
  · have Hf := own_fm (v0 := e0.toInt) (v1 := e1.toInt) (v2 := e3.toInt) (v3 := e2.toInt) (by omega) (by omega) (by omega)
    have R0 := own_R0 (own_f e0.toInt e1.toInt e3.toInt e2.toInt) (own_e e0 e1 e2 e3)
    have R1 := own_ofA Hf (e := (own_e e0 e1 e2 e3)) (n := 0) (a := 0) (b := 0) (k := e0.toInt) (j := e0) (by simp [own_f]) (by first | rfl | simp [own_e]) R0
    have R2 := own_ofA Hf (e := (own_e e0 e1 e2 e3)) (n := 1) (a := 1) (b := 1) (k := e1.toInt) (j := e1) (by simp [own_f]) (by first | rfl | simp [own_e]) R1
    have R3 := own_ofA Hf (e := (own_e e0 e1 e2 e3)) (n := 2) (a := 3) (b := 2) (k := e2.toInt) (j := e2) (by simp [own_f]) (by first | rfl | simp [own_e]) R2
    have R4 := own_ofB Hf (e := (own_e e0 e1 e2 e3)) (n := 3) (a := 2) (b := 3) (k := e3.toInt) (j := e3) (by simp [own_f]) (by first | rfl | simp [own_e]) (by decide) R3
    obtain ⟨z0, z1, z2, z3⟩ := own_net_0132 e0.toInt64 e1.toInt64 e2.toInt64 e3.toInt64 (by omega) (by omega) (by omega)
    have o0 : of 0 = e0 := (hof 0 (by decide)).trans ((own_st_rel Hf (by decide) R4 (3 - 1 - 0) (by decide) 0 (by decide)).2.trans ((congrArg (own_e e0 e1 e2 e3) (show _ = (0 : Int32) from by decide +kernel)).trans (by first | rfl | simp [own_e])))
    have o1 : of 1 = e1 := (hof 1 (by decide)).trans ((own_st_rel Hf (by decide) R4 (3 - 1 - 1) (by decide) 0 (by decide)).2.trans ((congrArg (own_e e0 e1 e2 e3) (show _ = (1 : Int32) from by decide +kernel)).trans (by first | rfl | simp [own_e])))
    have o2 : of 2 = e3 := (hof 2 (by decide)).trans ((own_st_rel Hf (by decide) R4 (3 - 1 - 2) (by decide) 0 (by decide)).2.trans ((congrArg (own_e e0 e1 e2 e3) (show _ = (3 : Int32) from by decide +kernel)).trans (by first | rfl | simp [own_e])))
    exact ⟨(by rw [o0, z0]), (by rw [o1, z1]), (by rw [o2, z2])⟩
  · have Hf := own_fm (v0 := e0.toInt) (v1 := e2.toInt) (v2 := e1.toInt) (v3 := e3.toInt) (by omega) (by omega) (by omega)
    have R0 := own_R0 (own_f e0.toInt e2.toInt e1.toInt e3.toInt) (own_e e0 e1 e2 e3)
    have R1 := own_ofA Hf (e := (own_e e0 e1 e2 e3)) (n := 0) (a := 0) (b := 0) (k := e0.toInt) (j := e0) (by simp [own_f]) (by first | rfl | simp [own_e]) R0
    have R2 := own_ofA Hf (e := (own_e e0 e1 e2 e3)) (n := 1) (a := 2) (b := 1) (k := e1.toInt) (j := e1) (by simp [own_f]) (by first | rfl | simp [own_e]) R1
    have R3 := own_ofA Hf (e := (own_e e0 e1 e2 e3)) (n := 2) (a := 1) (b := 2) (k := e2.toInt) (j := e2) (by simp [own_f]) (by first | rfl | simp [own_e]) R2
    have R4 := own_ofB Hf (e := (own_e e0 e1 e2 e3)) (n := 3) (a := 3) (b := 3) (k := e3.toInt) (j := e3) (by simp [own_f]) (by first | rfl | simp [own_e]) (by decide) R3
    obtain ⟨z0, z1, z2, z3⟩ := own_net_0213 e0.toInt64 e1.toInt64 e2.toInt64 e3.toInt64 (by omega) (by omega) (by omega)
    have o0 : of 0 = e0 := (hof 0 (by decide)).trans ((own_st_rel Hf (by decide) R4 (3 - 1 - 0) (by decide) 0 (by decide)).2.trans ((congrArg (own_e e0 e1 e2 e3) (show _ = (0 : Int32) from by decide +kernel)).trans (by first | rfl | simp [own_e])))
    have o1 : of 1 = e2 := (hof 1 (by decide)).trans ((own_st_rel Hf (by decide) R4 (3 - 1 - 1) (by decide) 0 (by decide)).2.trans ((congrArg (own_e e0 e1 e2 e3) (show _ = (2 : Int32) from by decide +kernel)).trans (by first | rfl | simp [own_e])))
    have o2 : of 2 = e1 := (hof 2 (by decide)).trans ((own_st_rel Hf (by decide) R4 (3 - 1 - 2) (by decide) 0 (by decide)).2.trans ((congrArg (own_e e0 e1 e2 e3) (show _ = (1 : Int32) from by decide +kernel)).trans (by first | rfl | simp [own_e])))
    exact ⟨(by rw [o0, z0]), (by rw [o1, z1]), (by rw [o2, z2])⟩
  · have Hf := own_fm (v0 := e0.toInt) (v1 := e2.toInt) (v2 := e3.toInt) (v3 := e1.toInt) (by omega) (by omega) (by omega)
    have R0 := own_R0 (own_f e0.toInt e2.toInt e3.toInt e1.toInt) (own_e e0 e1 e2 e3)
    have R1 := own_ofA Hf (e := (own_e e0 e1 e2 e3)) (n := 0) (a := 0) (b := 0) (k := e0.toInt) (j := e0) (by simp [own_f]) (by first | rfl | simp [own_e]) R0
    have R2 := own_ofA Hf (e := (own_e e0 e1 e2 e3)) (n := 1) (a := 3) (b := 1) (k := e1.toInt) (j := e1) (by simp [own_f]) (by first | rfl | simp [own_e]) R1
    have R3 := own_ofA Hf (e := (own_e e0 e1 e2 e3)) (n := 2) (a := 1) (b := 2) (k := e2.toInt) (j := e2) (by simp [own_f]) (by first | rfl | simp [own_e]) R2
    have R4 := own_ofB Hf (e := (own_e e0 e1 e2 e3)) (n := 3) (a := 2) (b := 3) (k := e3.toInt) (j := e3) (by simp [own_f]) (by first | rfl | simp [own_e]) (by decide) R3
    obtain ⟨z0, z1, z2, z3⟩ := own_net_0231 e0.toInt64 e1.toInt64 e2.toInt64 e3.toInt64 (by omega) (by omega) (by omega)
    have o0 : of 0 = e0 := (hof 0 (by decide)).trans ((own_st_rel Hf (by decide) R4 (3 - 1 - 0) (by decide) 0 (by decide)).2.trans ((congrArg (own_e e0 e1 e2 e3) (show _ = (0 : Int32) from by decide +kernel)).trans (by first | rfl | simp [own_e])))
    have o1 : of 1 = e2 := (hof 1 (by decide)).trans ((own_st_rel Hf (by decide) R4 (3 - 1 - 1) (by decide) 0 (by decide)).2.trans ((congrArg (own_e e0 e1 e2 e3) (show _ = (2 : Int32) from by decide +kernel)).trans (by first | rfl | simp [own_e])))
    have o2 : of 2 = e3 := (hof 2 (by decide)).trans ((own_st_rel Hf (by decide) R4 (3 - 1 - 2) (by decide) 0 (by decide)).2.trans ((congrArg (own_e e0 e1 e2 e3) (show _ = (3 : Int32) from by decide +kernel)).trans (by first | rfl | simp [own_e])))
    exact ⟨(by rw [o0, z0]), (by rw [o1, z1]), (by rw [o2, z2])⟩
  · have Hf := own_fm (v0 := e0.toInt) (v1 := e3.toInt) (v2 := e1.toInt) (v3 := e2.toInt) (by omega) (by omega) (by omega)
    have R0 := own_R0 (own_f e0.toInt e3.toInt e1.toInt e2.toInt) (own_e e0 e1 e2 e3)
    have R1 := own_ofA Hf (e := (own_e e0 e1 e2 e3)) (n := 0) (a := 0) (b := 0) (k := e0.toInt) (j := e0) (by simp [own_f]) (by first | rfl | simp [own_e]) R0
    have R2 := own_ofA Hf (e := (own_e e0 e1 e2 e3)) (n := 1) (a := 2) (b := 1) (k := e1.toInt) (j := e1) (by simp [own_f]) (by first | rfl | simp [own_e]) R1
    have R3 := own_ofA Hf (e := (own_e e0 e1 e2 e3)) (n := 2) (a := 3) (b := 2) (k := e2.toInt) (j := e2) (by simp [own_f]) (by first | rfl | simp [own_e]) R2
    have R4 := own_ofB Hf (e := (own_e e0 e1 e2 e3)) (n := 3) (a := 1) (b := 3) (k := e3.toInt) (j := e3) (by simp [own_f]) (by first | rfl | simp [own_e]) (by decide) R3
    obtain ⟨z0, z1, z2, z3⟩ := own_net_0312 e0.toInt64 e1.toInt64 e2.toInt64 e3.toInt64 (by omega) (by omega) (by omega)
    have o0 : of 0 = e0 := (hof 0 (by decide)).trans ((own_st_rel Hf (by decide) R4 (3 - 1 - 0) (by decide) 0 (by decide)).2.trans ((congrArg (own_e e0 e1 e2 e3) (show _ = (0 : Int32) from by decide +kernel)).trans (by first | rfl | simp [own_e])))
    have o1 : of 1 = e3 := (hof 1 (by decide)).trans ((own_st_rel Hf (by decide) R4 (3 - 1 - 1) (by decide) 0 (by decide)).2.trans ((congrArg (own_e e0 e1 e2 e3) (show _ = (3 : Int32) from by decide +kernel)).trans (by first | rfl | simp [own_e])))
    have o2 : of 2 = e1 := (hof 2 (by decide)).trans ((own_st_rel Hf (by decide) R4 (3 - 1 - 2) (by decide) 0 (by decide)).2.trans ((congrArg (own_e e0 e1 e2 e3) (show _ = (1 : Int32) from by decide +kernel)).trans (by first | rfl | simp [own_e])))
    exact ⟨(by rw [o0, z0]), (by rw [o1, z1]), (by rw [o2, z2])⟩
  · have Hf := own_fm (v0 := e0.toInt) (v1 := e3.toInt) (v2 := e2.toInt) (v3 := e1.toInt) (by omega) (by omega) (by omega)
    have R0 := own_R0 (own_f e0.toInt e3.toInt e2.toInt e1.toInt) (own_e e0 e1 e2 e3)
    have R1 := own_ofA Hf (e := (own_e e0 e1 e2 e3)) (n := 0) (a := 0) (b := 0) (k := e0.toInt) (j := e0) (by simp [own_f]) (by first | rfl | simp [own_e]) R0
    have R2 := own_ofA Hf (e := (own_e e0 e1 e2 e3)) (n := 1) (a := 3) (b := 1) (k := e1.toInt) (j := e1) (by simp [own_f]) (by first | rfl | simp [own_e]) R1
    have R3 := own_ofA Hf (e := (own_e e0 e1 e2 e3)) (n := 2) (a := 2) (b := 2) (k := e2.toInt) (j := e2) (by simp [own_f]) (by first | rfl | simp [own_e]) R2
    have R4 := own_ofB Hf (e := (own_e e0 e1 e2 e3)) (n := 3) (a := 1) (b := 3) (k := e3.toInt) (j := e3) (by simp [own_f]) (by first | rfl | simp [own_e]) (by decide) R3
    obtain ⟨z0, z1, z2, z3⟩ := own_net_0321 e0.toInt64 e1.toInt64 e2.toInt64 e3.toInt64 (by omega) (by omega) (by omega)
    have o0 : of 0 = e0 := (hof 0 (by decide)).trans ((own_st_rel Hf (by decide) R4 (3 - 1 - 0) (by decide) 0 (by decide)).2.trans ((congrArg (own_e e0 e1 e2 e3) (show _ = (0 : Int32) from by decide +kernel)).trans (by first | rfl | simp [own_e])))
    have o1 : of 1 = e3 := (hof 1 (by decide)).trans ((own_st_rel Hf (by decide) R4 (3 - 1 - 1) (by decide) 0 (by decide)).2.trans ((congrArg (own_e e0 e1 e2 e3) (show _ = (3 : Int32) from by decide +kernel)).trans (by first | rfl | simp [own_e])))
    have o2 : of 2 = e2 := (hof 2 (by decide)).trans ((own_st_rel Hf (by decide) R4 (3 - 1 - 2) (by decide) 0 (by decide)).2.trans ((congrArg (own_e e0 e1 e2 e3) (show _ = (2 : Int32) from by decide +kernel)).trans (by first | rfl | simp [own_e])))
    exact ⟨(by rw [o0, z0]), (by rw [o1, z1]), (by rw [o2, z2])⟩
  · have Hf := own_fm (v0 := e1.toInt) (v1 := e0.toInt) (v2 := e2.toInt) (v3 := e3.toInt) (by omega) (by omega) (by omega)
    have R0 := own_R0 (own_f e1.toInt e0.toInt e2.toInt e3.toInt) (own_e e0 e1 e2 e3)
    have R1 := own_ofA Hf (e := (own_e e0 e1 e2 e3)) (n := 0) (a := 1) (b := 0) (k := e0.toInt) (j := e0) (by simp [own_f]) (by first | rfl | simp [own_e]) R0
    have R2 := own_ofA Hf (e := (own_e e0 e1 e2 e3)) (n := 1) (a := 0) (b := 1) (k := e1.toInt) (j := e1) (by simp [own_f]) (by first | rfl | simp [own_e]) R1
    have R3 := own_ofA Hf (e := (own_e e0 e1 e2 e3)) (n := 2) (a := 2) (b := 2) (k := e2.toInt) (j := e2) (by simp [own_f]) (by first | rfl | simp [own_e]) R2
    have R4 := own_ofB Hf (e := (own_e e0 e1 e2 e3)) (n := 3) (a := 3) (b := 3) (k := e3.toInt) (j := e3) (by simp [own_f]) (by first | rfl | simp [own_e]) (by decide) R3
    obtain ⟨z0, z1, z2, z3⟩ := own_net_1023 e0.toInt64 e1.toInt64 e2.toInt64 e3.toInt64 (by omega) (by omega) (by omega)
    have o0 : of 0 = e1 := (hof 0 (by decide)).trans ((own_st_rel Hf (by decide) R4 (3 - 1 - 0) (by decide) 0 (by decide)).2.trans ((congrArg (own_e e0 e1 e2 e3) (show _ = (1 : Int32) from by decide +kernel)).trans (by first | rfl | simp [own_e])))
    have o1 : of 1 = e0 := (hof 1 (by decide)).trans ((own_st_rel Hf (by decide) R4 (3 - 1 - 1) (by decide) 0 (by decide)).2.trans ((congrArg (own_e e0 e1 e2 e3) (show _ = (0 : Int32) from by decide +kernel)).trans (by first | rfl | simp [own_e])))
    have o2 : of 2 = e2 := (hof 2 (by decide)).trans ((own_st_rel Hf (by decide) R4 (3 - 1 - 2) (by decide) 0 (by decide)).2.trans ((congrArg (own_e e0 e1 e2 e3) (show _ = (2 : Int32) from by decide +kernel)).trans (by first | rfl | simp [own_e])))
    exact ⟨(by rw [o0, z0]), (by rw [o1, z1]), (by rw [o2, z2])⟩
  · have Hf := own_fm (v0 := e1.toInt) (v1 := e0.toInt) (v2 := e3.toInt) (v3 := e2.toInt) (by omega) (by omega) (by omega)
    have R0 := own_R0 (own_f e1.toInt e0.toInt e3.toInt e2.toInt) (own_e e0 e1 e2 e3)
    have R1 := own_ofA Hf (e := (own_e e0 e1 e2 e3)) (n := 0) (a := 1) (b := 0) (k := e0.toInt) (j := e0) (by simp [own_f]) (by first | rfl | simp [own_e]) R0
    have R2 := own_ofA Hf (e := (own_e e0 e1 e2 e3)) (n := 1) (a := 0) (b := 1) (k := e1.toInt) (j := e1) (by simp [own_f]) (by first | rfl | simp [own_e]) R1
    have R3 := own_ofA Hf (e := (own_e e0 e1 e2 e3)) (n := 2) (a := 3) (b := 2) (k := e2.toInt) (j := e2) (by simp [own_f]) (by first | rfl | simp [own_e]) R2
    have R4 := own_ofB Hf (e := (own_e e0 e1 e2 e3)) (n := 3) (a := 2) (b := 3) (k := e3.toInt) (j := e3) (by simp [own_f]) (by first | rfl | simp [own_e]) (by decide) R3
    obtain ⟨z0, z1, z2, z3⟩ := own_net_1032 e0.toInt64 e1.toInt64 e2.toInt64 e3.toInt64 (by omega) (by omega) (by omega)
    have o0 : of 0 = e1 := (hof 0 (by decide)).trans ((own_st_rel Hf (by decide) R4 (3 - 1 - 0) (by decide) 0 (by decide)).2.trans ((congrArg (own_e e0 e1 e2 e3) (show _ = (1 : Int32) from by decide +kernel)).trans (by first | rfl | simp [own_e])))
    have o1 : of 1 = e0 := (hof 1 (by decide)).trans ((own_st_rel Hf (by decide) R4 (3 - 1 - 1) (by decide) 0 (by decide)).2.trans ((congrArg (own_e e0 e1 e2 e3) (show _ = (0 : Int32) from by decide +kernel)).trans (by first | rfl | simp [own_e])))
    have o2 : of 2 = e3 := (hof 2 (by decide)).trans ((own_st_rel Hf (by decide) R4 (3 - 1 - 2) (by decide) 0 (by decide)).2.trans ((congrArg (own_e e0 e1 e2 e3) (show _ = (3 : Int32) from by decide +kernel)).trans (by first | rfl | simp [own_e])))
    exact ⟨(by rw [o0, z0]), (by rw [o1, z1]), (by rw [o2, z2])⟩
  · have Hf := own_fm (v0 := e1.toInt) (v1 := e2.toInt) (v2 := e0.toInt) (v3 := e3.toInt) (by omega) (by omega) (by omega)
    have R0 := own_R0 (own_f e1.toInt e2.toInt e0.toInt e3.toInt) (own_e e0 e1 e2 e3)
    have R1 := own_ofA Hf (e := (own_e e0 e1 e2 e3)) (n := 0) (a := 2) (b := 0) (k := e0.toInt) (j := e0) (by simp [own_f]) (by first | rfl | simp [own_e]) R0
    have R2 := own_ofA Hf (e := (own_e e0 e1 e2 e3)) (n := 1) (a := 0) (b := 1) (k := e1.toInt) (j := e1) (by simp [own_f]) (by first | rfl | simp [own_e]) R1
    have R3 := own_ofA Hf (e := (own_e e0 e1 e2 e3)) (n := 2) (a := 1) (b := 2) (k := e2.toInt) (j := e2) (by simp [own_f]) (by first | rfl | simp [own_e]) R2
    have R4 := own_ofB Hf (e := (own_e e0 e1 e2 e3)) (n := 3) (a := 3) (b := 3) (k := e3.toInt) (j := e3) (by simp [own_f]) (by first | rfl | simp [own_e]) (by decide) R3
    obtain ⟨z0, z1, z2, z3⟩ := own_net_1203 e0.toInt64 e1.toInt64 e2.toInt64 e3.toInt64 (by omega) (by omega) (by omega)
    have o0 : of 0 = e1 := (hof 0 (by decide)).trans ((own_st_rel Hf (by decide) R4 (3 - 1 - 0) (by decide) 0 (by decide)).2.trans ((congrArg (own_e e0 e1 e2 e3) (show _ = (1 : Int32) from by decide +kernel)).trans (by first | rfl | simp [own_e])))
    have o1 : of 1 = e2 := (hof 1 (by decide)).trans ((own_st_rel Hf (by decide) R4 (3 - 1 - 1) (by decide) 0 (by decide)).2.trans ((congrArg (own_e e0 e1 e2 e3) (show _ = (2 : Int32) from by decide +kernel)).trans (by first | rfl | simp [own_e])))
    have o2 : of 2 = e0 := (hof 2 (by decide)).trans ((own_st_rel Hf (by decide) R4 (3 - 1 - 2) (by decide) 0 (by decide)).2.trans ((congrArg (own_e e0 e1 e2 e3) (show _ = (0 : Int32) from by decide +kernel)).trans (by first | rfl | simp [own_e])))
    exact ⟨(by rw [o0, z0]), (by rw [o1, z1]), (by rw [o2, z2])⟩
  · have Hf := own_fm (v0 := e1.toInt) (v1 := e2.toInt) (v2 := e3.toInt) (v3 := e0.toInt) (by omega) (by omega) (by omega)
    have R0 := own_R0 (own_f e1.toInt e2.toInt e3.toInt e0.toInt) (own_e e0 e1 e2 e3)
    have R1 := own_ofA Hf (e := (own_e e0 e1 e2 e3)) (n := 0) (a := 3) (b := 0) (k := e0.toInt) (j := e0) (by simp [own_f]) (by first | rfl | simp [own_e]) R0
    have R2 := own_ofA Hf (e := (own_e e0 e1 e2 e3)) (n := 1) (a := 0) (b := 1) (k := e1.toInt) (j := e1) (by simp [own_f]) (by first | rfl | simp [own_e]) R1
    have R3 := own_ofA Hf (e := (own_e e0 e1 e2 e3)) (n := 2) (a := 1) (b := 2) (k := e2.toInt) (j := e2) (by simp [own_f]) (by first | rfl | simp [own_e]) R2
    have R4 := own_ofB Hf (e := (own_e e0 e1 e2 e3)) (n := 3) (a := 2) (b := 3) (k := e3.toInt) (j := e3) (by simp [own_f]) (by first | rfl | simp [own_e]) (by decide) R3
    obtain ⟨z0, z1, z2, z3⟩ := own_net_1230 e0.toInt64 e1.toInt64 e2.toInt64 e3.toInt64 (by omega) (by omega) (by omega)
    have o0 : of 0 = e1 := (hof 0 (by decide)).trans ((own_st_rel Hf (by decide) R4 (3 - 1 - 0) (by decide) 0 (by decide)).2.trans ((congrArg (own_e e0 e1 e2 e3) (show _ = (1 : Int32) from by decide +kernel)).trans (by first | rfl | simp [own_e])))
    have o1 : of 1 = e2 := (hof 1 (by decide)).trans ((own_st_rel Hf (by decide) R4 (3 - 1 - 1) (by decide) 0 (by decide)).2.trans ((congrArg (own_e e0 e1 e2 e3) (show _ = (2 : Int32) from by decide +kernel)).trans (by first | rfl | simp [own_e])))
    have o2 : of 2 = e3 := (hof 2 (by decide)).trans ((own_st_rel Hf (by decide) R4 (3 - 1 - 2) (by decide) 0 (by decide)).2.trans ((congrArg (own_e e0 e1 e2 e3) (show _ = (3 : Int32) from by decide +kernel)).trans (by first | rfl | simp [own_e])))
    exact ⟨(by rw [o0, z0]), (by rw [o1, z1]), (by rw [o2, z2])⟩
  · have Hf := own_fm (v0 := e1.toInt) (v1 := e3.toInt) (v2 := e0.toInt) (v3 := e2.toInt) (by omega) (by omega) (by omega)
    have R0 := own_R0 (own_f e1.toInt e3.toInt e0.toInt e2.toInt) (own_e e0 e1 e2 e3)
    have R1 := own_ofA Hf (e := (own_e e0 e1 e2 e3)) (n := 0) (a := 2) (b := 0) (k := e0.toInt) (j := e0) (by simp [own_f]) (by first | rfl | simp [own_e]) R0
    have R2 := own_ofA Hf (e := (own_e e0 e1 e2 e3)) (n := 1) (a := 0) (b := 1) (k := e1.toInt) (j := e1) (by simp [own_f]) (by first | rfl | simp [own_e]) R1
    have R3 := own_ofA Hf (e := (own_e e0 e1 e2 e3)) (n := 2) (a := 3) (b := 2) (k := e2.toInt) (j := e2) (by simp [own_f]) (by first | rfl | simp [own_e]) R2
    have R4 := own_ofB Hf (e := (own_e e0 e1 e2 e3)) (n := 3) (a := 1) (b := 3) (k := e3.toInt) (j := e3) (by simp [own_f]) (by first | rfl | simp [own_e]) (by decide) R3
    obtain ⟨z0, z1, z2, z3⟩ := own_net_1302 e0.toInt64 e1.toInt64 e2.toInt64 e3.toInt64 (by omega) (by omega) (by omega)
    have o0 : of 0 = e1 := (hof 0 (by decide)).trans ((own_st_rel Hf (by decide) R4 (3 - 1 - 0) (by decide) 0 (by decide)).2.trans ((congrArg (own_e e0 e1 e2 e3) (show _ = (1 : Int32) from by decide +kernel)).trans (by first | rfl | simp [own_e])))
    have o1 : of 1 = e3 := (hof 1 (by decide)).trans ((own_st_rel Hf (by decide) R4 (3 - 1 - 1) (by decide) 0 (by decide)).2.trans ((congrArg (own_e e0 e1 e2 e3) (show _ = (3 : Int32) from by decide +kernel)).trans (by first | rfl | simp [own_e])))
    have o2 : of 2 = e0 := (hof 2 (by decide)).trans ((own_st_rel Hf (by decide) R4 (3 - 1 - 2) (by decide) 0 (by decide)).2.trans ((congrArg (own_e e0 e1 e2 e3) (show _ = (0 : Int32) from by decide +kernel)).trans (by first | rfl | simp [own_e])))
    exact ⟨(by rw [o0, z0]), (by rw [o1, z1]), (by rw [o2, z2])⟩
  · have Hf := own_fm (v0 := e1.toInt) (v1 := e3.toInt) (v2 := e2.toInt) (v3 := e0.toInt) (by omega) (by omega) (by omega)
    have R0 := own_R0 (own_f e1.toInt e3.toInt e2.toInt e0.toInt) (own_e e0 e1 e2 e3)
    have R1 := own_ofA Hf (e := (own_e e0 e1 e2 e3)) (n := 0) (a := 3) (b := 0) (k := e0.toInt) (j := e0) (by simp [own_f]) (by first | rfl | simp [own_e]) R0
    have R2 := own_ofA Hf (e := (own_e e0 e1 e2 e3)) (n := 1) (a := 0) (b := 1) (k := e1.toInt) (j := e1) (by simp [own_f]) (by first | rfl | simp [own_e]) R1
    have R3 := own_ofA Hf (e := (own_e e0 e1 e2 e3)) (n := 2) (a := 2) (b := 2) (k := e2.toInt) (j := e2) (by simp [own_f]) (by first | rfl | simp [own_e]) R2
    have R4 := own_ofB Hf (e := (own_e e0 e1 e2 e3)) (n := 3) (a := 1) (b := 3) (k := e3.toInt) (j := e3) (by simp [own_f]) (by first | rfl | simp [own_e]) (by decide) R3
    obtain ⟨z0, z1, z2, z3⟩ := own_net_1320 e0.toInt64 e1.toInt64 e2.toInt64 e3.toInt64 (by omega) (by omega) (by omega)
    have o0 : of 0 = e1 := (hof 0 (by decide)).trans ((own_st_rel Hf (by decide) R4 (3 - 1 - 0) (by decide) 0 (by decide)).2.trans ((congrArg (own_e e0 e1 e2 e3) (show _ = (1 : Int32) from by decide +kernel)).trans (by first | rfl | simp [own_e])))
    have o1 : of 1 = e3 := (hof 1 (by decide)).trans ((own_st_rel Hf (by decide) R4 (3 - 1 - 1) (by decide) 0 (by decide)).2.trans ((congrArg (own_e e0 e1 e2 e3) (show _ = (3 : Int32) from by decide +kernel)).trans (by first | rfl | simp [own_e])))
    have o2 : of 2 = e2 := (hof 2 (by decide)).trans ((own_st_rel Hf (by decide) R4 (3 - 1 - 2) (by decide) 0 (by decide)).2.trans ((congrArg (own_e e0 e1 e2 e3) (show _ = (2 : Int32) from by decide +kernel)).trans (by first | rfl | simp [own_e])))
    exact ⟨(by rw [o0, z0]), (by rw [o1, z1]), (by rw [o2, z2])⟩
  · have Hf := own_fm (v0 := e2.toInt) (v1 := e0.toInt) (v2 := e1.toInt) (v3 := e3.toInt) (by omega) (by omega) (by omega)
    have R0 := own_R0 (own_f e2.toInt e0.toInt e1.toInt e3.toInt) (own_e e0 e1 e2 e3)
    have R1 := own_ofA Hf (e := (own_e e0 e1 e2 e3)) (n := 0) (a := 1) (b := 0) (k := e0.toInt) (j := e0) (by simp [own_f]) (by first | rfl | simp [own_e]) R0
    have R2 := own_ofA Hf (e := (own_e e0 e1 e2 e3)) (n := 1) (a := 2) (b := 1) (k := e1.toInt) (j := e1) (by simp [own_f]) (by first | rfl | simp [own_e]) R1
    have R3 := own_ofA Hf (e := (own_e e0 e1 e2 e3)) (n := 2) (a := 0) (b := 2) (k := e2.toInt) (j := e2) (by simp [own_f]) (by first | rfl | simp [own_e]) R2
    have R4 := own_ofB Hf (e := (own_e e0 e1 e2 e3)) (n := 3) (a := 3) (b := 3) (k := e3.toInt) (j := e3) (by simp [own_f]) (by first | rfl | simp [own_e]) (by decide) R3
    obtain ⟨z0, z1, z2, z3⟩ := own_net_2013 e0.toInt64 e1.toInt64 e2.toInt64 e3.toInt64 (by omega) (by omega) (by omega)
    have o0 : of 0 = e2 := (hof 0 (by decide)).trans ((own_st_rel Hf (by decide) R4 (3 - 1 - 0) (by decide) 0 (by decide)).2.trans ((congrArg (own_e e0 e1 e2 e3) (show _ = (2 : Int32) from by decide +kernel)).trans (by first | rfl | simp [own_e])))
    have o1 : of 1 = e0 := (hof 1 (by decide)).trans ((own_st_rel Hf (by decide) R4 (3 - 1 - 1) (by decide) 0 (by decide)).2.trans ((congrArg (own_e e0 e1 e2 e3) (show _ = (0 : Int32) from by decide +kernel)).trans (by first | rfl | simp [own_e])))
    have o2 : of 2 = e1 := (hof 2 (by decide)).trans ((own_st_rel Hf (by decide) R4 (3 - 1 - 2) (by decide) 0 (by decide)).2.trans ((congrArg (own_e e0 e1 e2 e3) (show _ = (1 : Int32) from by decide +kernel)).trans (by first | rfl | simp [own_e])))
    exact ⟨(by rw [o0, z0]), (by rw [o1, z1]), (by rw [o2, z2])⟩
  · have Hf := own_fm (v0 := e2.toInt) (v1 := e0.toInt) (v2 := e3.toInt) (v3 := e1.toInt) (by omega) (by omega) (by omega)
    have R0 := own_R0 (own_f e2.toInt e0.toInt e3.toInt e1.toInt) (own_e e0 e1 e2 e3)
    have R1 := own_ofA Hf (e := (own_e e0 e1 e2 e3)) (n := 0) (a := 1) (b := 0) (k := e0.toInt) (j := e0) (by simp [own_f]) (by first | rfl | simp [own_e]) R0
    have R2 := own_ofA Hf (e := (own_e e0 e1 e2 e3)) (n := 1) (a := 3) (b := 1) (k := e1.toInt) (j := e1) (by simp [own_f]) (by first | rfl | simp [own_e]) R1
    have R3 := own_ofA Hf (e := (own_e e0 e1 e2 e3)) (n := 2) (a := 0) (b := 2) (k := e2.toInt) (j := e2) (by simp [own_f]) (by first | rfl | simp [own_e]) R2
    have R4 := own_ofB Hf (e := (own_e e0 e1 e2 e3)) (n := 3) (a := 2) (b := 3) (k := e3.toInt) (j := e3) (by simp [own_f]) (by first | rfl | simp [own_e]) (by decide) R3
    obtain ⟨z0, z1, z2, z3⟩ := own_net_2031 e0.toInt64 e1.toInt64 e2.toInt64 e3.toInt64 (by omega) (by omega) (by omega)
    have o0 : of 0 = e2 := (hof 0 (by decide)).trans ((own_st_rel Hf (by decide) R4 (3 - 1 - 0) (by decide) 0 (by decide)).2.trans ((congrArg (own_e e0 e1 e2 e3) (show _ = (2 : Int32) from by decide +kernel)).trans (by first | rfl | simp [own_e])))
    have o1 : of 1 = e0 := (hof 1 (by decide)).trans ((own_st_rel Hf (by decide) R4 (3 - 1 - 1) (by decide) 0 (by decide)).2.trans ((congrArg (own_e e0 e1 e2 e3) (show _ = (0 : Int32) from by decide +kernel)).trans (by first | rfl | simp [own_e])))
    have o2 : of 2 = e3 := (hof 2 (by decide)).trans ((own_st_rel Hf (by decide) R4 (3 - 1 - 2) (by decide) 0 (by decide)).2.trans ((congrArg (own_e e0 e1 e2 e3) (show _ = (3 : Int32) from by decide +kernel)).trans (by first | rfl | simp [own_e])))
    exact ⟨(by rw [o0, z0]), (by rw [o1, z1]), (by rw [o2, z2])⟩
  · have Hf := own_fm (v0 := e2.toInt) (v1 := e1.toInt) (v2 := e0.toInt) (v3 := e3.toInt) (by omega) (by omega) (by omega)
    have R0 := own_R0 (own_f e2.toInt e1.toInt e0.toInt e3.toInt) (own_e e0 e1 e2 e3)
    have R1 := own_ofA Hf (e := (own_e e0 e1 e2 e3)) (n := 0) (a := 2) (b := 0) (k := e0.toInt) (j := e0) (by simp [own_f]) (by first | rfl | simp [own_e]) R0
    have R2 := own_ofA Hf (e := (own_e e0 e1 e2 e3)) (n := 1) (a := 1) (b := 1) (k := e1.toInt) (j := e1) (by simp [own_f]) (by first | rfl | simp [own_e]) R1
    have R3 := own_ofA Hf (e := (own_e e0 e1 e2 e3)) (n := 2) (a := 0) (b := 2) (k := e2.toInt) (j := e2) (by simp [own_f]) (by first | rfl | simp [own_e]) R2
    have R4 := own_ofB Hf (e := (own_e e0 e1 e2 e3)) (n := 3) (a := 3) (b := 3) (k := e3.toInt) (j := e3) (by simp [own_f]) (by first | rfl | simp [own_e]) (by decide) R3
    obtain ⟨z0, z1, z2, z3⟩ := own_net_2103 e0.toInt64 e1.toInt64 e2.toInt64 e3.toInt64 (by omega) (by omega) (by omega)
    have o0 : of 0 = e2 := (hof 0 (by decide)).trans ((own_st_rel Hf (by decide) R4 (3 - 1 - 0) (by decide) 0 (by decide)).2.trans ((congrArg (own_e e0 e1 e2 e3) (show _ = (2 : Int32) from by decide +kernel)).trans (by first | rfl | simp [own_e])))
    have o1 : of 1 = e1 := (hof 1 (by decide)).trans ((own_st_rel Hf (by decide) R4 (3 - 1 - 1) (by decide) 0 (by decide)).2.trans ((congrArg (own_e e0 e1 e2 e3) (show _ = (1 : Int32) from by decide +kernel)).trans (by first | rfl | simp [own_e])))
    have o2 : of 2 = e0 := (hof 2 (by decide)).trans ((own_st_rel Hf (by decide) R4 (3 - 1 - 2) (by decide) 0 (by decide)).2.trans ((congrArg (own_e e0 e1 e2 e3) (show _ = (0 : Int32) from by decide +kernel)).trans (by first | rfl | simp [own_e])))
    exact ⟨(by rw [o0, z0]), (by rw [o1, z1]), (by rw [o2, z2])⟩
  · have Hf := own_fm (v0 := e2.toInt) (v1 := e1.toInt) (v2 := e3.toInt) (v3 := e0.toInt) (by omega) (by omega) (by omega)
    have R0 := own_R0 (own_f e2.toInt e1.toInt e3.toInt e0.toInt) (own_e e0 e1 e2 e3)
    have R1 := own_ofA Hf (e := (own_e e0 e1 e2 e3)) (n := 0) (a := 3) (b := 0) (k := e0.toInt) (j := e0) (by simp [own_f]) (by first | rfl | simp [own_e]) R0
    have R2 := own_ofA Hf (e := (own_e e0 e1 e2 e3)) (n := 1) (a := 1) (b := 1) (k := e1.toInt) (j := e1) (by simp [own_f]) (by first | rfl | simp [own_e]) R1
    have R3 := own_ofA Hf (e := (own_e e0 e1 e2 e3)) (n := 2) (a := 0) (b := 2) (k := e2.toInt) (j := e2) (by simp [own_f]) (by first | rfl | simp [own_e]) R2
    have R4 := own_ofB Hf (e := (own_e e0 e1 e2 e3)) (n := 3) (a := 2) (b := 3) (k := e3.toInt) (j := e3) (by simp [own_f]) (by first | rfl | simp [own_e]) (by decide) R3
    obtain ⟨z0, z1, z2, z3⟩ := own_net_2130 e0.toInt64 e1.toInt64 e2.toInt64 e3.toInt64 (by omega) (by omega) (by omega)
    have o0 : of 0 = e2 := (hof 0 (by decide)).trans ((own_st_rel Hf (by decide) R4 (3 - 1 - 0) (by decide) 0 (by decide)).2.trans ((congrArg (own_e e0 e1 e2 e3) (show _ = (2 : Int32) from by decide +kernel)).trans (by first | rfl | simp [own_e])))
    have o1 : of 1 = e1 := (hof 1 (by decide)).trans ((own_st_rel Hf (by decide) R4 (3 - 1 - 1) (by decide) 0 (by decide)).2.trans ((congrArg (own_e e0 e1 e2 e3) (show _ = (1 : Int32) from by decide +kernel)).trans (by first | rfl | simp [own_e])))
    have o2 : of 2 = e3 := (hof 2 (by decide)).trans ((own_st_rel Hf (by decide) R4 (3 - 1 - 2) (by decide) 0 (by decide)).2.trans ((congrArg (own_e e0 e1 e2 e3) (show _ = (3 : Int32) from by decide +kernel)).trans (by first | rfl | simp [own_e])))
    exact ⟨(by rw [o0, z0]), (by rw [o1, z1]), (by rw [o2, z2])⟩
  · have Hf := own_fm (v0 := e2.toInt) (v1 := e3.toInt) (v2 := e0.toInt) (v3 := e1.toInt) (by omega) (by omega) (by omega)
    have R0 := own_R0 (own_f e2.toInt e3.toInt e0.toInt e1.toInt) (own_e e0 e1 e2 e3)
    have R1 := own_ofA Hf (e := (own_e e0 e1 e2 e3)) (n := 0) (a := 2) (b := 0) (k := e0.toInt) (j := e0) (by simp [own_f]) (by first | rfl | simp [own_e]) R0
    have R2 := own_ofA Hf (e := (own_e e0 e1 e2 e3)) (n := 1) (a := 3) (b := 1) (k := e1.toInt) (j := e1) (by simp [own_f]) (by first | rfl | simp [own_e]) R1
    have R3 := own_ofA Hf (e := (own_e e0 e1 e2 e3)) (n := 2) (a := 0) (b := 2) (k := e2.toInt) (j := e2) (by simp [own_f]) (by first | rfl | simp [own_e]) R2
    have R4 := own_ofB Hf (e := (own_e e0 e1 e2 e3)) (n := 3) (a := 1) (b := 3) (k := e3.toInt) (j := e3) (by simp [own_f]) (by first | rfl | simp [own_e]) (by decide) R3
    obtain ⟨z0, z1, z2, z3⟩ := own_net_2301 e0.toInt64 e1.toInt64 e2.toInt64 e3.toInt64 (by omega) (by omega) (by omega)
    have o0 : of 0 = e2 := (hof 0 (by decide)).trans ((own_st_rel Hf (by decide) R4 (3 - 1 - 0) (by decide) 0 (by decide)).2.trans ((congrArg (own_e e0 e1 e2 e3) (show _ = (2 : Int32) from by decide +kernel)).trans (by first | rfl | simp [own_e])))
    have o1 : of 1 = e3 := (hof 1 (by decide)).trans ((own_st_rel Hf (by decide) R4 (3 - 1 - 1) (by decide) 0 (by decide)).2.trans ((congrArg (own_e e0 e1 e2 e3) (show _ = (3 : Int32) from by decide +kernel)).trans (by first | rfl | simp [own_e])))
    have o2 : of 2 = e0 := (hof 2 (by decide)).trans ((own_st_rel Hf (by decide) R4 (3 - 1 - 2) (by decide) 0 (by decide)).2.trans ((congrArg (own_e e0 e1 e2 e3) (show _ = (0 : Int32) from by decide +kernel)).trans (by first | rfl | simp [own_e])))
    exact ⟨(by rw [o0, z0]), (by rw [o1, z1]), (by rw [o2, z2])⟩
  · have Hf := own_fm (v0 := e2.toInt) (v1 := e3.toInt) (v2 := e1.toInt) (v3 := e0.toInt) (by omega) (by omega) (by omega)
    have R0 := own_R0 (own_f e2.toInt e3.toInt e1.toInt e0.toInt) (own_e e0 e1 e2 e3)
    have R1 := own_ofA Hf (e := (own_e e0 e1 e2 e3)) (n := 0) (a := 3) (b := 0) (k := e0.toInt) (j := e0) (by simp [own_f]) (by first | rfl | simp [own_e]) R0
    have R2 := own_ofA Hf (e := (own_e e0 e1 e2 e3)) (n := 1) (a := 2) (b := 1) (k := e1.toInt) (j := e1) (by simp [own_f]) (by first | rfl | simp [own_e]) R1
    have R3 := own_ofA Hf (e := (own_e e0 e1 e2 e3)) (n := 2) (a := 0) (b := 2) (k := e2.toInt) (j := e2) (by simp [own_f]) (by first | rfl | simp [own_e]) R2
    have R4 := own_ofB Hf (e := (own_e e0 e1 e2 e3)) (n := 3) (a := 1) (b := 3) (k := e3.toInt) (j := e3) (by simp [own_f]) (by first | rfl | simp [own_e]) (by decide) R3
    obtain ⟨z0, z1, z2, z3⟩ := own_net_2310 e0.toInt64 e1.toInt64 e2.toInt64 e3.toInt64 (by omega) (by omega) (by omega)
    have o0 : of 0 = e2 := (hof 0 (by decide)).trans ((own_st_rel Hf (by decide) R4 (3 - 1 - 0) (by decide) 0 (by decide)).2.trans ((congrArg (own_e e0 e1 e2 e3) (show _ = (2 : Int32) from by decide +kernel)).trans (by first | rfl | simp [own_e])))
    have o1 : of 1 = e3 := (hof 1 (by decide)).trans ((own_st_rel Hf (by decide) R4 (3 - 1 - 1) (by decide) 0 (by decide)).2.trans ((congrArg (own_e e0 e1 e2 e3) (show _ = (3 : Int32) from by decide +kernel)).trans (by first | rfl | simp [own_e])))
    have o2 : of 2 = e1 := (hof 2 (by decide)).trans ((own_st_rel Hf (by decide) R4 (3 - 1 - 2) (by decide) 0 (by decide)).2.trans ((congrArg (own_e e0 e1 e2 e3) (show _ = (1 : Int32) from by decide +kernel)).trans (by first | rfl | simp [own_e])))
    exact ⟨(by rw [o0, z0]), (by rw [o1, z1]), (by rw [o2, z2])⟩
  · have Hf := own_fm (v0 := e3.toInt) (v1 := e0.toInt) (v2 := e1.toInt) (v3 := e2.toInt) (by omega) (by omega) (by omega)
    have R0 := own_R0 (own_f e3.toInt e0.toInt e1.toInt e2.toInt) (own_e e0 e1 e2 e3)
    have R1 := own_ofA Hf (e := (own_e e0 e1 e2 e3)) (n := 0) (a := 1) (b := 0) (k := e0.toInt) (j := e0) (by simp [own_f]) (by first | rfl | simp [own_e]) R0
    have R2 := own_ofA Hf (e := (own_e e0 e1 e2 e3)) (n := 1) (a := 2) (b := 1) (k := e1.toInt) (j := e1) (by simp [own_f]) (by first | rfl | simp [own_e]) R1
    have R3 := own_ofA Hf (e := (own_e e0 e1 e2 e3)) (n := 2) (a := 3) (b := 2) (k := e2.toInt) (j := e2) (by simp [own_f]) (by first | rfl | simp [own_e]) R2
    have R4 := own_ofB Hf (e := (own_e e0 e1 e2 e3)) (n := 3) (a := 0) (b := 3) (k := e3.toInt) (j := e3) (by simp [own_f]) (by first | rfl | simp [own_e]) (by decide) R3
    obtain ⟨z0, z1, z2, z3⟩ := own_net_3012 e0.toInt64 e1.toInt64 e2.toInt64 e3.toInt64 (by omega) (by omega) (by omega)
    have o0 : of 0 = e3 := (hof 0 (by decide)).trans ((own_st_rel Hf (by decide) R4 (3 - 1 - 0) (by decide) 0 (by decide)).2.trans ((congrArg (own_e e0 e1 e2 e3) (show _ = (3 : Int32) from by decide +kernel)).trans (by first | rfl | simp [own_e])))
    have o1 : of 1 = e0 := (hof 1 (by decide)).trans ((own_st_rel Hf (by decide) R4 (3 - 1 - 1) (by decide) 0 (by decide)).2.trans ((congrArg (own_e e0 e1 e2 e3) (show _ = (0 : Int32) from by decide +kernel)).trans (by first | rfl | simp [own_e])))
    have o2 : of 2 = e1 := (hof 2 (by decide)).trans ((own_st_rel Hf (by decide) R4 (3 - 1 - 2) (by decide) 0 (by decide)).2.trans ((congrArg (own_e e0 e1 e2 e3) (show _ = (1 : Int32) from by decide +kernel)).trans (by first | rfl | simp [own_e])))
    exact ⟨(by rw [o0, z0]), (by rw [o1, z1]), (by rw [o2, z2])⟩
  · have Hf := own_fm (v0 := e3.toInt) (v1 := e0.toInt) (v2 := e2.toInt) (v3 := e1.toInt) (by omega) (by omega) (by omega)
    have R0 := own_R0 (own_f e3.toInt e0.toInt e2.toInt e1.toInt) (own_e e0 e1 e2 e3)
    have R1 := own_ofA Hf (e := (own_e e0 e1 e2 e3)) (n := 0) (a := 1) (b := 0) (k := e0.toInt) (j := e0) (by simp [own_f]) (by first | rfl | simp [own_e]) R0
    have R2 := own_ofA Hf (e := (own_e e0 e1 e2 e3)) (n := 1) (a := 3) (b := 1) (k := e1.toInt) (j := e1) (by simp [own_f]) (by first | rfl | simp [own_e]) R1
    have R3 := own_ofA Hf (e := (own_e e0 e1 e2 e3)) (n := 2) (a := 2) (b := 2) (k := e2.toInt) (j := e2) (by simp [own_f]) (by first | rfl | simp [own_e]) R2
    have R4 := own_ofB Hf (e := (own_e e0 e1 e2 e3)) (n := 3) (a := 0) (b := 3) (k := e3.toInt) (j := e3) (by simp [own_f]) (by first | rfl | simp [own_e]) (by decide) R3
    obtain ⟨z0, z1, z2, z3⟩ := own_net_3021 e0.toInt64 e1.toInt64 e2.toInt64 e3.toInt64 (by omega) (by omega) (by omega)
    have o0 : of 0 = e3 := (hof 0 (by decide)).trans ((own_st_rel Hf (by decide) R4 (3 - 1 - 0) (by decide) 0 (by decide)).2.trans ((congrArg (own_e e0 e1 e2 e3) (show _ = (3 : Int32) from by decide +kernel)).trans (by first | rfl | simp [own_e])))
    have o1 : of 1 = e0 := (hof 1 (by decide)).trans ((own_st_rel Hf (by decide) R4 (3 - 1 - 1) (by decide) 0 (by decide)).2.trans ((congrArg (own_e e0 e1 e2 e3) (show _ = (0 : Int32) from by decide +kernel)).trans (by first | rfl | simp [own_e])))
    have o2 : of 2 = e2 := (hof 2 (by decide)).trans ((own_st_rel Hf (by decide) R4 (3 - 1 - 2) (by decide) 0 (by decide)).2.trans ((congrArg (own_e e0 e1 e2 e3) (show _ = (2 : Int32) from by decide +kernel)).trans (by first | rfl | simp [own_e])))
    exact ⟨(by rw [o0, z0]), (by rw [o1, z1]), (by rw [o2, z2])⟩
  · have Hf := own_fm (v0 := e3.toInt) (v1 := e1.toInt) (v2 := e0.toInt) (v3 := e2.toInt) (by omega) (by omega) (by omega)
    have R0 := own_R0 (own_f e3.toInt e1.toInt e0.toInt e2.toInt) (own_e e0 e1 e2 e3)
    have R1 := own_ofA Hf (e := (own_e e0 e1 e2 e3)) (n := 0) (a := 2) (b := 0) (k := e0.toInt) (j := e0) (by simp [own_f]) (by first | rfl | simp [own_e]) R0
    have R2 := own_ofA Hf (e := (own_e e0 e1 e2 e3)) (n := 1) (a := 1) (b := 1) (k := e1.toInt) (j := e1) (by simp [own_f]) (by first | rfl | simp [own_e]) R1
    have R3 := own_ofA Hf (e := (own_e e0 e1 e2 e3)) (n := 2) (a := 3) (b := 2) (k := e2.toInt) (j := e2) (by simp [own_f]) (by first | rfl | simp [own_e]) R2
    have R4 := own_ofB Hf (e := (own_e e0 e1 e2 e3)) (n := 3) (a := 0) (b := 3) (k := e3.toInt) (j := e3) (by simp [own_f]) (by first | rfl | simp [own_e]) (by decide) R3
    obtain ⟨z0, z1, z2, z3⟩ := own_net_3102 e0.toInt64 e1.toInt64 e2.toInt64 e3.toInt64 (by omega) (by omega) (by omega)
    have o0 : of 0 = e3 := (hof 0 (by decide)).trans ((own_st_rel Hf (by decide) R4 (3 - 1 - 0) (by decide) 0 (by decide)).2.trans ((congrArg (own_e e0 e1 e2 e3) (show _ = (3 : Int32) from by decide +kernel)).trans (by first | rfl | simp [own_e])))
    have o1 : of 1 = e1 := (hof 1 (by decide)).trans ((own_st_rel Hf (by decide) R4 (3 - 1 - 1) (by decide) 0 (by decide)).2.trans ((congrArg (own_e e0 e1 e2 e3) (show _ = (1 : Int32) from by decide +kernel)).trans (by first | rfl | simp [own_e])))
    have o2 : of 2 = e0 := (hof 2 (by decide)).trans ((own_st_rel Hf (by decide) R4 (3 - 1 - 2) (by decide) 0 (by decide)).2.trans ((congrArg (own_e e0 e1 e2 e3) (show _ = (0 : Int32) from by decide +kernel)).trans (by first | rfl | simp [own_e])))
    exact ⟨(by rw [o0, z0]), (by rw [o1, z1]), (by rw [o2, z2])⟩
  · have Hf := own_fm (v0 := e3.toInt) (v1 := e1.toInt) (v2 := e2.toInt) (v3 := e0.toInt) (by omega) (by omega) (by omega)
    have R0 := own_R0 (own_f e3.toInt e1.toInt e2.toInt e0.toInt) (own_e e0 e1 e2 e3)
    have R1 := own_ofA Hf (e := (own_e e0 e1 e2 e3)) (n := 0) (a := 3) (b := 0) (k := e0.toInt) (j := e0) (by simp [own_f]) (by first | rfl | simp [own_e]) R0
    have R2 := own_ofA Hf (e := (own_e e0 e1 e2 e3)) (n := 1) (a := 1) (b := 1) (k := e1.toInt) (j := e1) (by simp [own_f]) (by first | rfl | simp [own_e]) R1
    have R3 := own_ofA Hf (e := (own_e e0 e1 e2 e3)) (n := 2) (a := 2) (b := 2) (k := e2.toInt) (j := e2) (by simp [own_f]) (by first | rfl | simp [own_e]) R2
    have R4 := own_ofB Hf (e := (own_e e0 e1 e2 e3)) (n := 3) (a := 0) (b := 3) (k := e3.toInt) (j := e3) (by simp [own_f]) (by first | rfl | simp [own_e]) (by decide) R3
    obtain ⟨z0, z1, z2, z3⟩ := own_net_3120 e0.toInt64 e1.toInt64 e2.toInt64 e3.toInt64 (by omega) (by omega) (by omega)
    have o0 : of 0 = e3 := (hof 0 (by decide)).trans ((own_st_rel Hf (by decide) R4 (3 - 1 - 0) (by decide) 0 (by decide)).2.trans ((congrArg (own_e e0 e1 e2 e3) (show _ = (3 : Int32) from by decide +kernel)).trans (by first | rfl | simp [own_e])))
    have o1 : of 1 = e1 := (hof 1 (by decide)).trans ((own_st_rel Hf (by decide) R4 (3 - 1 - 1) (by decide) 0 (by decide)).2.trans ((congrArg (own_e e0 e1 e2 e3) (show _ = (1 : Int32) from by decide +kernel)).trans (by first | rfl | simp [own_e])))
    have o2 : of 2 = e2 := (hof 2 (by decide)).trans ((own_st_rel Hf (by decide) R4 (3 - 1 - 2) (by decide) 0 (by decide)).2.trans ((congrArg (own_e e0 e1 e2 e3) (show _ = (2 : Int32) from by decide +kernel)).trans (by first | rfl | simp [own_e])))
    exact ⟨(by rw [o0, z0]), (by rw [o1, z1]), (by rw [o2, z2])⟩
  · have Hf := own_fm (v0 := e3.toInt) (v1 := e2.toInt) (v2 := e0.toInt) (v3 := e1.toInt) (by omega) (by omega) (by omega)
    have R0 := own_R0 (own_f e3.toInt e2.toInt e0.toInt e1.toInt) (own_e e0 e1 e2 e3)
    have R1 := own_ofA Hf (e := (own_e e0 e1 e2 e3)) (n := 0) (a := 2) (b := 0) (k := e0.toInt) (j := e0) (by simp [own_f]) (by first | rfl | simp [own_e]) R0
    have R2 := own_ofA Hf (e := (own_e e0 e1 e2 e3)) (n := 1) (a := 3) (b := 1) (k := e1.toInt) (j := e1) (by simp [own_f]) (by first | rfl | simp [own_e]) R1
    have R3 := own_ofA Hf (e := (own_e e0 e1 e2 e3)) (n := 2) (a := 1) (b := 2) (k := e2.toInt) (j := e2) (by simp [own_f]) (by first | rfl | simp [own_e]) R2
    have R4 := own_ofB Hf (e := (own_e e0 e1 e2 e3)) (n := 3) (a := 0) (b := 3) (k := e3.toInt) (j := e3) (by simp [own_f]) (by first | rfl | simp [own_e]) (by decide) R3
    obtain ⟨z0, z1, z2, z3⟩ := own_net_3201 e0.toInt64 e1.toInt64 e2.toInt64 e3.toInt64 (by omega) (by omega) (by omega)
    have o0 : of 0 = e3 := (hof 0 (by decide)).trans ((own_st_rel Hf (by decide) R4 (3 - 1 - 0) (by decide) 0 (by decide)).2.trans ((congrArg (own_e e0 e1 e2 e3) (show _ = (3 : Int32) from by decide +kernel)).trans (by first | rfl | simp [own_e])))
    have o1 : of 1 = e2 := (hof 1 (by decide)).trans ((own_st_rel Hf (by decide) R4 (3 - 1 - 1) (by decide) 0 (by decide)).2.trans ((congrArg (own_e e0 e1 e2 e3) (show _ = (2 : Int32) from by decide +kernel)).trans (by first | rfl | simp [own_e])))
    have o2 : of 2 = e0 := (hof 2 (by decide)).trans ((own_st_rel Hf (by decide) R4 (3 - 1 - 2) (by decide) 0 (by decide)).2.trans ((congrArg (own_e e0 e1 e2 e3) (show _ = (0 : Int32) from by decide +kernel)).trans (by first | rfl | simp [own_e])))
    exact ⟨(by rw [o0, z0]), (by rw [o1, z1]), (by rw [o2, z2])⟩
  · have Hf := own_fm (v0 := e3.toInt) (v1 := e2.toInt) (v2 := e1.toInt) (v3 := e0.toInt) (by omega) (by omega) (by omega)
    have R0 := own_R0 (own_f e3.toInt e2.toInt e1.toInt e0.toInt) (own_e e0 e1 e2 e3)
    have R1 := own_ofA Hf (e := (own_e e0 e1 e2 e3)) (n := 0) (a := 3) (b := 0) (k := e0.toInt) (j := e0) (by simp [own_f]) (by first | rfl | simp [own_e]) R0
    have R2 := own_ofA Hf (e := (own_e e0 e1 e2 e3)) (n := 1) (a := 2) (b := 1) (k := e1.toInt) (j := e1) (by simp [own_f]) (by first | rfl | simp [own_e]) R1
    have R3 := own_ofA Hf (e := (own_e e0 e1 e2 e3)) (n := 2) (a := 1) (b := 2) (k := e2.toInt) (j := e2) (by simp [own_f]) (by first | rfl | simp [own_e]) R2
    have R4 := own_ofB Hf (e := (own_e e0 e1 e2 e3)) (n := 3) (a := 0) (b := 3) (k := e3.toInt) (j := e3) (by simp [own_f]) (by first | rfl | simp [own_e]) (by decide) R3
    obtain ⟨z0, z1, z2, z3⟩ := own_net_3210 e0.toInt64 e1.toInt64 e2.toInt64 e3.toInt64 (by omega) (by omega) (by omega)
    have o0 : of 0 = e3 := (hof 0 (by decide)).trans ((own_st_rel Hf (by decide) R4 (3 - 1 - 0) (by decide) 0 (by decide)).2.trans ((congrArg (own_e e0 e1 e2 e3) (show _ = (3 : Int32) from by decide +kernel)).trans (by first | rfl | simp [own_e])))
    have o1 : of 1 = e2 := (hof 1 (by decide)).trans ((own_st_rel Hf (by decide) R4 (3 - 1 - 1) (by decide) 0 (by decide)).2.trans ((congrArg (own_e e0 e1 e2 e3) (show _ = (2 : Int32) from by decide +kernel)).trans (by first | rfl | simp [own_e])))
    have o2 : of 2 = e1 := (hof 2 (by decide)).trans ((own_st_rel Hf (by decide) R4 (3 - 1 - 2) (by decide) 0 (by decide)).2.trans ((congrArg (own_e e0 e1 e2 e3) (show _ = (1 : Int32) from by decide +kernel)).trans (by first | rfl | simp [own_e])))
    exact ⟨(by rw [o0, z0]), (by rw [o1, z1]), (by rw [o2, z2])⟩
theorem own_fin_4_1 (e0 : Int32)  (K1 : Nat → Int) (J1 : Nat → Int32) (gK1 : (own_of 0 true (fun _ => (0 : Int)) (fun _ => (0 : Int32)) e0.toInt e0).1 = K1) (gJ1 : (own_of 0 true (fun _ => (0 : Int)) (fun _ => (0 : Int32)) e0.toInt e0).2 = J1) (of : Nat → Int32) (hof : ∀ d, d < 1 → of d = (own_st 1 K1 J1 (1 - 1 - d)).2 0) : (of 0).toInt64 = (own_mn (own_mn e0.toInt64 (9223372036854775807 : Int64)) (own_mn (9223372036854775807 : Int64) (9223372036854775807 : Int64))) := by
  subst gK1 gJ1
  have q0 := c_i2l e0
  have r0 := rng32 e0
  have qM : (9223372036854775807 : Int64).toInt = 9223372036854775807 := by decide
  have Hf := own_fm (v0 := e0.toInt) (v1 := (e0.toInt + 1)) (v2 := ((e0.toInt + 1) + 1)) (v3 := (((e0.toInt + 1) + 1) + 1)) (by omega) (by omega) (by omega)
  have R0 := own_R0 (own_f e0.toInt (e0.toInt + 1) ((e0.toInt + 1) + 1) (((e0.toInt + 1) + 1) + 1)) (own_e e0 0 0 0)
  have R1 := own_ofA Hf (e := (own_e e0 0 0 0)) (n := 0) (a := 0) (b := 0) (k := e0.toInt) (j := e0) (by simp [own_f]) (by first | rfl | simp [own_e]) R0
  obtain ⟨z0, z1, z2, z3⟩ := own_net_0123 e0.toInt64 (9223372036854775807 : Int64) (9223372036854775807 : Int64) (9223372036854775807 : Int64) (by omega) (by omega) (by omega)
  have o0 : of 0 = e0 := (hof 0 (by decide)).trans ((own_st_rel Hf (by decide) R1 (1 - 1 - 0) (by decide) 0 (by decide)).2.trans ((congrArg (own_e e0 0 0 0) (show _ = (0 : Int32) from by decide +kernel)).trans (by first | rfl | simp [own_e])))
  rw [o0, z0]
theorem own_fin_4_2 (e0 e1 : Int32) (d01 : e0.toInt ≠ e1.toInt) (K1 : Nat → Int) (J1 : Nat → Int32) (gK1 : (own_of 0 true (fun _ => (0 : Int)) (fun _ => (0 : Int32)) e0.toInt e0).1 = K1) (gJ1 : (own_of 0 true (fun _ => (0 : Int)) (fun _ => (0 : Int32)) e0.toInt e0).2 = J1) (K2 : Nat → Int) (J2 : Nat → Int32) (gK2 : (own_of 1 true K1 J1 e1.toInt e1).1 = K2) (gJ2 : (own_of 1 true K1 J1 e1.toInt e1).2 = J2) (of : Nat → Int32) (hof : ∀ d, d < 2 → of d = (own_st 2 K2 J2 (2 - 1 - d)).2 0) : (of 0).toInt64 = (own_mn (own_mn e0.toInt64 e1.toInt64) (own_mn (9223372036854775807 : Int64) (9223372036854775807 : Int64))) ∧ (of 1).toInt64 = (own_mn (own_mn (own_mx e0.toInt64 e1.toInt64) (own_mx (9223372036854775807 : Int64) (9223372036854775807 : Int64))) (own_mx (own_mn e0.toInt64 e1.toInt64) (own_mn (9223372036854775807 : Int64) (9223372036854775807 : Int64)))) := by
  subst gK1 gJ1
  subst gK2 gJ2
  have q0 := c_i2l e0
  have r0 := rng32 e0
  have q1 := c_i2l e1
  have r1 := rng32 e1
  have qM : (9223372036854775807 : Int64).toInt = 9223372036854775807 := by decide
  rcases own_ord2 e0.toInt e1.toInt d01 with h | h
  · have Hf := own_fm (v0 := e0.toInt) (v1 := e1.toInt) (v2 := (e1.toInt + 1)) (v3 := ((e1.toInt + 1) + 1)) (by omega) (by omega) (by omega)
    have R0 := own_R0 (own_f e0.toInt e1.toInt (e1.toInt + 1) ((e1.toInt + 1) + 1)) (own_e e0 e1 0 0)
    have R1 := own_ofA Hf (e := (own_e e0 e1 0 0)) (n := 0) (a := 0) (b := 0) (k := e0.toInt) (j := e0) (by simp [own_f]) (by first | rfl | simp [own_e]) R0
    have R2 := own_ofA Hf (e := (own_e e0 e1 0 0)) (n := 1) (a := 1) (b := 1) (k := e1.toInt) (j := e1) (by simp [own_f]) (by first | rfl | simp [own_e]) R1
    obtain ⟨z0, z1, z2, z3⟩ := own_net_0123 e0.toInt64 e1.toInt64 (9223372036854775807 : Int64) (9223372036854775807 : Int64) (by omega) (by omega) (by omega)
    have o0 : of 0 = e0 := (hof 0 (by decide)).trans ((own_st_rel Hf (by decide) R2 (2 - 1 - 0) (by decide) 0 (by decide)).2.trans ((congrArg (own_e e0 e1 0 0) (show _ = (0 : Int32) from by decide +kernel)).trans (by first | rfl | simp [own_e])))
    have o1 : of 1 = e1 := (hof 1 (by decide)).trans ((own_st_rel Hf (by decide) R2 (2 - 1 - 1) (by decide) 0 (by decide)).2.trans ((congrArg (own_e e0 e1 0 0) (show _ = (1 : Int32) from by decide +kernel)).trans (by first | rfl | simp [own_e])))
    exact ⟨(by rw [o0, z0]), (by rw [o1, z1])⟩
  · have Hf := own_fm (v0 := e1.toInt) (v1 := e0.toInt) (v2 := (e0.toInt + 1)) (v3 := ((e0.toInt + 1) + 1)) (by omega) (by omega) (by omega)
    have R0 := own_R0 (own_f e1.toInt e0.toInt (e0.toInt + 1) ((e0.toInt + 1) + 1)) (own_e e0 e1 0 0)
    have R1 := own_ofA Hf (e := (own_e e0 e1 0 0)) (n := 0) (a := 1) (b := 0) (k := e0.toInt) (j := e0) (by simp [own_f]) (by first | rfl | simp [own_e]) R0
    have R2 := own_ofA Hf (e := (own_e e0 e1 0 0)) (n := 1) (a := 0) (b := 1) (k := e1.toInt) (j := e1) (by simp [own_f]) (by first | rfl | simp [own_e]) R1
    obtain ⟨z0, z1, z2, z3⟩ := own_net_1023 e0.toInt64 e1.toInt64 (9223372036854775807 : Int64) (9223372036854775807 : Int64) (by omega) (by omega) (by omega)
    have o0 : of 0 = e1 := (hof 0 (by decide)).trans ((own_st_rel Hf (by decide) R2 (2 - 1 - 0) (by decide) 0 (by decide)).2.trans ((congrArg (own_e e0 e1 0 0) (show _ = (1 : Int32) from by decide +kernel)).trans (by first | rfl | simp [own_e])))
    have o1 : of 1 = e0 := (hof 1 (by decide)).trans ((own_st_rel Hf (by decide) R2 (2 - 1 - 1) (by decide) 0 (by decide)).2.trans ((congrArg (own_e e0 e1 0 0) (show _ = (0 : Int32) from by decide +kernel)).trans (by first | rfl | simp [own_e])))
    exact ⟨(by rw [o0, z0]), (by rw [o1, z1])⟩
theorem own_fin_4_3 (e0 e1 e2 : Int32) (d01 : e0.toInt ≠ e1.toInt) (d02 : e0.toInt ≠ e2.toInt) (d12 : e1.toInt ≠ e2.toInt) (K1 : Nat → Int) (J1 : Nat → Int32) (gK1 : (own_of 0 true (fun _ => (0 : Int)) (fun _ => (0 : Int32)) e0.toInt e0).1 = K1) (gJ1 : (own_of 0 true (fun _ => (0 : Int)) (fun _ => (0 : Int32)) e0.toInt e0).2 = J1) (K2 : Nat → Int) (J2 : Nat → Int32) (gK2 : (own_of 1 true K1 J1 e1.toInt e1).1 = K2) (gJ2 : (own_of 1 true K1 J1 e1.toInt e1).2 = J2) (K3 : Nat → Int) (J3 : Nat → Int32) (gK3 : (own_of 2 true K2 J2 e2.toInt e2).1 = K3) (gJ3 : (own_of 2 true K2 J2 e2.toInt e2).2 = J3) (of : Nat → Int32) (hof : ∀ d, d < 3 → of d = (own_st 3 K3 J3 (3 - 1 - d)).2 0) : (of 0).toInt64 = (own_mn (own_mn e0.toInt64 e1.toInt64) (own_mn e2.toInt64 (9223372036854775807 : Int64))) ∧ (of 1).toInt64 = (own_mn (own_mn (own_mx e0.toInt64 e1.toInt64) (own_mx e2.toInt64 (9223372036854775807 : Int64))) (own_mx (own_mn e0.toInt64 e1.toInt64) (own_mn e2.toInt64 (9223372036854775807 : Int64)))) ∧ (of 2).toInt64 = (own_mx (own_mn (own_mx e0.toInt64 e1.toInt64) (own_mx e2.toInt64 (9223372036854775807 : Int64))) (own_mx (own_mn e0.toInt64 e1.toInt64) (own_mn e2.toInt64 (9223372036854775807 : Int64)))) := by
  subst gK1 gJ1
  subst gK2 gJ2
  subst gK3 gJ3
  have q0 := c_i2l e0
  have r0 := rng32 e0
  have q1 := c_i2l e1
  have r1 := rng32 e1
  have q2 := c_i2l e2
  have r2 := rng32 e2
  have qM : (9223372036854775807 : Int64).toInt = 9223372036854775807 := by decide
  rcases own_ord3 e0.toInt e1.toInt e2.toInt d01 d02 d12 with h | h | h | h | h | h
  · have Hf := own_fm (v0 := e0.toInt) (v1 := e1.toInt) (v2 := e2.toInt) (v3 := (e2.toInt + 1)) (by omega) (by omega) (by omega)
    have R0 := own_R0 (own_f e0.toInt e1.toInt e2.toInt (e2.toInt + 1)) (own_e e0 e1 e2 0)
    have R1 := own_ofA Hf (e := (own_e e0 e1 e2 0)) (n := 0) (a := 0) (b := 0) (k := e0.toInt) (j := e0) (by simp [own_f]) (by first | rfl | simp [own_e]) R0
    have R2 := own_ofA Hf (e := (own_e e0 e1 e2 0)) (n := 1) (a := 1) (b := 1) (k := e1.toInt) (j := e1) (by simp [own_f]) (by first | rfl | simp [own_e]) R1
    have R3 := own_ofA Hf (e := (own_e e0 e1 e2 0)) (n := 2) (a := 2) (b := 2) (k := e2.toInt) (j := e2) (by simp [own_f]) (by first | rfl | simp [own_e]) R2
    obtain ⟨z0, z1, z2, z3⟩ := own_net_0123 e0.toInt64 e1.toInt64 e2.toInt64 (9223372036854775807 : Int64) (by omega) (by omega) (by omega)
    have o0 : of 0 = e0 := (hof 0 (by decide)).trans ((own_st_rel Hf (by decide) R3 (3 - 1 - 0) (by decide) 0 (by decide)).2.trans ((congrArg (own_e e0 e1 e2 0) (show _ = (0 : Int32) from by decide +kernel)).trans (by first | rfl | simp [own_e])))
    have o1 : of 1 = e1 := (hof 1 (by decide)).trans ((own_st_rel Hf (by decide) R3 (3 - 1 - 1) (by decide) 0 (by decide)).2.trans ((congrArg (own_e e0 e1 e2 0) (show _ = (1 : Int32) from by decide +kernel)).trans (by first | rfl | simp [own_e])))
    have o2 : of 2 = e2 := (hof 2 (by decide)).trans ((own_st_rel Hf (by decide) R3 (3 - 1 - 2) (by decide) 0 (by decide)).2.trans ((congrArg (own_e e0 e1 e2 0) (show _ = (2 : Int32) from by decide +kernel)).trans (by first | rfl | simp [own_e])))
    exact ⟨(by rw [o0, z0]), (by rw [o1, z1]), (by rw [o2, z2])⟩
  · have Hf := own_fm (v0 := e0.toInt) (v1 := e2.toInt) (v2 := e1.toInt) (v3 := (e1.toInt + 1)) (by omega) (by omega) (by omega)
    have R0 := own_R0 (own_f e0.toInt e2.toInt e1.toInt (e1.toInt + 1)) (own_e e0 e1 e2 0)
    have R1 := own_ofA Hf (e := (own_e e0 e1 e2 0)) (n := 0) (a := 0) (b := 0) (k := e0.toInt) (j := e0) (by simp [own_f]) (by first | rfl | simp [own_e]) R0
    have R2 := own_ofA Hf (e := (own_e e0 e1 e2 0)) (n := 1) (a := 2) (b := 1) (k := e1.toInt) (j := e1) (by simp [own_f]) (by first | rfl | simp [own_e]) R1
    have R3 := own_ofA Hf (e := (own_e e0 e1 e2 0)) (n := 2) (a := 1) (b := 2) (k := e2.toInt) (j := e2) (by simp [own_f]) (by first | rfl | simp [own_e]) R2
    obtain ⟨z0, z1, z2, z3⟩ := own_net_0213 e0.toInt64 e1.toInt64 e2.toInt64 (9223372036854775807 : Int64) (by omega) (by omega) (by omega)
    have o0 : of 0 = e0 := (hof 0 (by decide)).trans ((own_st_rel Hf (by decide) R3 (3 - 1 - 0) (by decide) 0 (by decide)).2.trans ((congrArg (own_e e0 e1 e2 0) (show _ = (0 : Int32) from by decide +kernel)).trans (by first | rfl | simp [own_e])))
    have o1 : of 1 = e2 := (hof 1 (by decide)).trans ((own_st_rel Hf (by decide) R3 (3 - 1 - 1) (by decide) 0 (by decide)).2.trans ((congrArg (own_e e0 e1 e2 0) (show _ = (2 : Int32) from by decide +kernel)).trans (by first | rfl | simp [own_e])))
    have o2 : of 2 = e1 := (hof 2 (by decide)).trans ((own_st_rel Hf (by decide) R3 (3 - 1 - 2) (by decide) 0 (by decide)).2.trans ((congrArg (own_e e0 e1 e2 0) (show _ = (1 : Int32) from by decide +kernel)).trans (by first | rfl | simp [own_e])))
    exact ⟨(by rw [o0, z0]), (by rw [o1, z1]), (by rw [o2, z2])⟩
  · have Hf := own_fm (v0 := e1.toInt) (v1 := e0.toInt) (v2 := e2.toInt) (v3 := (e2.toInt + 1)) (by omega) (by omega) (by omega)
    have R0 := own_R0 (own_f e1.toInt e0.toInt e2.toInt (e2.toInt + 1)) (own_e e0 e1 e2 0)
    have R1 := own_ofA Hf (e := (own_e e0 e1 e2 0)) (n := 0) (a := 1) (b := 0) (k := e0.toInt) (j := e0) (by simp [own_f]) (by first | rfl | simp [own_e]) R0
    have R2 := own_ofA Hf (e := (own_e e0 e1 e2 0)) (n := 1) (a := 0) (b := 1) (k := e1.toInt) (j := e1) (by simp [own_f]) (by first | rfl | simp [own_e]) R1
    have R3 := own_ofA Hf (e := (own_e e0 e1 e2 0)) (n := 2) (a := 2) (b := 2) (k := e2.toInt) (j := e2) (by simp [own_f]) (by first | rfl | simp [own_e]) R2
    obtain ⟨z0, z1, z2, z3⟩ := own_net_1023 e0.toInt64 e1.toInt64 e2.toInt64 (9223372036854775807 : Int64) (by omega) (by omega) (by omega)
    have o0 : of 0 = e1 := (hof 0 (by decide)).trans ((own_st_rel Hf (by decide) R3 (3 - 1 - 0) (by decide) 0 (by decide)).2.trans ((congrArg (own_e e0 e1 e2 0) (show _ = (1 : Int32) from by decide +kernel)).trans (by first | rfl | simp [own_e])))
    have o1 : of 1 = e0 := (hof 1 (by decide)).trans ((own_st_rel Hf (by decide) R3 (3 - 1 - 1) (by decide) 0 (by decide)).2.trans ((congrArg (own_e e0 e1 e2 0) (show _ = (0 : Int32) from by decide +kernel)).trans (by first | rfl | simp [own_e])))
    have o2 : of 2 = e2 := (hof 2 (by decide)).trans ((own_st_rel Hf (by decide) R3 (3 - 1 - 2) (by decide) 0 (by decide)).2.trans ((congrArg (own_e e0 e1 e2 0) (show _ = (2 : Int32) from by decide +kernel)).trans (by first | rfl | simp [own_e])))
    exact ⟨(by rw [o0, z0]), (by rw [o1, z1]), (by rw [o2, z2])⟩
  · have Hf := own_fm (v0 := e1.toInt) (v1 := e2.toInt) (v2 := e0.toInt) (v3 := (e0.toInt + 1)) (by omega) (by omega) (by omega)
    have R0 := own_R0 (own_f e1.toInt e2.toInt e0.toInt (e0.toInt + 1)) (own_e e0 e1 e2 0)
    have R1 := own_ofA Hf (e := (own_e e0 e1 e2 0)) (n := 0) (a := 2) (b := 0) (k := e0.toInt) (j := e0) (by simp [own_f]) (by first | rfl | simp [own_e]) R0
    have R2 := own_ofA Hf (e := (own_e e0 e1 e2 0)) (n := 1) (a := 0) (b := 1) (k := e1.toInt) (j := e1) (by simp [own_f]) (by first | rfl | simp [own_e]) R1
    have R3 := own_ofA Hf (e := (own_e e0 e1 e2 0)) (n := 2) (a := 1) (b := 2) (k := e2.toInt) (j := e2) (by simp [own_f]) (by first | rfl | simp [own_e]) R2
    obtain ⟨z0, z1, z2, z3⟩ := own_net_1203 e0.toInt64 e1.toInt64 e2.toInt64 (9223372036854775807 : Int64) (by omega) (by omega) (by omega)
    have o0 : of 0 = e1 := (hof 0 (by decide)).trans ((own_st_rel Hf (by decide) R3 (3 - 1 - 0) (by decide) 0 (by decide)).2.trans ((congrArg (own_e e0 e1 e2 0) (show _ = (1 : Int32) from by decide +kernel)).trans (by first | rfl | simp [own_e])))
    have o1 : of 1 = e2 := (hof 1 (by decide)).trans ((own_st_rel Hf (by decide) R3 (3 - 1 - 1) (by decide) 0 (by decide)).2.trans ((congrArg (own_e e0 e1 e2 0) (show _ = (2 : Int32) from by decide +kernel)).trans (by first | rfl | simp [own_e])))
    have o2 : of 2 = e0 := (hof 2 (by decide)).trans ((own_st_rel Hf (by decide) R3 (3 - 1 - 2) (by decide) 0 (by decide)).2.trans ((congrArg (own_e e0 e1 e2 0) (show _ = (0 : Int32) from by decide +kernel)).trans (by first | rfl | simp [own_e])))
    exact ⟨(by rw [o0, z0]), (by rw [o1, z1]), (by rw [o2, z2])⟩
  · have Hf := own_fm (v0 := e2.toInt) (v1 := e0.toInt) (v2 := e1.toInt) (v3 := (e1.toInt + 1)) (by omega) (by omega) (by omega)
    have R0 := own_R0 (own_f e2.toInt e0.toInt e1.toInt (e1.toInt + 1)) (own_e e0 e1 e2 0)
    have R1 := own_ofA Hf (e := (own_e e0 e1 e2 0)) (n := 0) (a := 1) (b := 0) (k := e0.toInt) (j := e0) (by simp [own_f]) (by first | rfl | simp [own_e]) R0
    have R2 := own_ofA Hf (e := (own_e e0 e1 e2 0)) (n := 1) (a := 2) (b := 1) (k := e1.toInt) (j := e1) (by simp [own_f]) (by first | rfl | simp [own_e]) R1
    have R3 := own_ofA Hf (e := (own_e e0 e1 e2 0)) (n := 2) (a := 0) (b := 2) (k := e2.toInt) (j := e2) (by simp [own_f]) (by first | rfl | simp [own_e]) R2
    obtain ⟨z0, z1, z2, z3⟩ := own_net_2013 e0.toInt64 e1.toInt64 e2.toInt64 (9223372036854775807 : Int64) (by omega) (by omega) (by omega)
    have o0 : of 0 = e2 := (hof 0 (by decide)).trans ((own_st_rel Hf (by decide) R3 (3 - 1 - 0) (by decide) 0 (by decide)).2.trans ((congrArg (own_e e0 e1 e2 0) (show _ = (2 : Int32) from by decide +kernel)).trans (by first | rfl | simp [own_e])))
    have o1 : of 1 = e0 := (hof 1 (by decide)).trans ((own_st_rel Hf (by decide) R3 (3 - 1 - 1) (by decide) 0 (by decide)).2.trans ((congrArg (own_e e0 e1 e2 0) (show _ = (0 : Int32) from by decide +kernel)).trans (by first | rfl | simp [own_e])))
    have o2 : of 2 = e1 := (hof 2 (by decide)).trans ((own_st_rel Hf (by decide) R3 (3 - 1 - 2) (by decide) 0 (by decide)).2.trans ((congrArg (own_e e0 e1 e2 0) (show _ = (1 : Int32) from by decide +kernel)).trans (by first | rfl | simp [own_e])))
    exact ⟨(by rw [o0, z0]), (by rw [o1, z1]), (by rw [o2, z2])⟩
  · have Hf := own_fm (v0 := e2.toInt) (v1 := e1.toInt) (v2 := e0.toInt) (v3 := (e0.toInt + 1)) (by omega) (by omega) (by omega)
    have R0 := own_R0 (own_f e2.toInt e1.toInt e0.toInt (e0.toInt + 1)) (own_e e0 e1 e2 0)
    have R1 := own_ofA Hf (e := (own_e e0 e1 e2 0)) (n := 0) (a := 2) (b := 0) (k := e0.toInt) (j := e0) (by simp [own_f]) (by first | rfl | simp [own_e]) R0
    have R2 := own_ofA Hf (e := (own_e e0 e1 e2 0)) (n := 1) (a := 1) (b := 1) (k := e1.toInt) (j := e1) (by simp [own_f]) (by first | rfl | simp [own_e]) R1
    have R3 := own_ofA Hf (e := (own_e e0 e1 e2 0)) (n := 2) (a := 0) (b := 2) (k := e2.toInt) (j := e2) (by simp [own_f]) (by first | rfl | simp [own_e]) R2
    obtain ⟨z0, z1, z2, z3⟩ := own_net_2103 e0.toInt64 e1.toInt64 e2.toInt64 (9223372036854775807 : Int64) (by omega) (by omega) (by omega)
    have o0 : of 0 = e2 := (hof 0 (by decide)).trans ((own_st_rel Hf (by decide) R3 (3 - 1 - 0) (by decide) 0 (by decide)).2.trans ((congrArg (own_e e0 e1 e2 0) (show _ = (2 : Int32) from by decide +kernel)).trans (by first | rfl | simp [own_e])))
    have o1 : of 1 = e1 := (hof 1 (by decide)).trans ((own_st_rel Hf (by decide) R3 (3 - 1 - 1) (by decide) 0 (by decide)).2.trans ((congrArg (own_e e0 e1 e2 0) (show _ = (1 : Int32) from by decide +kernel)).trans (by first | rfl | simp [own_e])))
    have o2 : of 2 = e0 := (hof 2 (by decide)).trans ((own_st_rel Hf (by decide) R3 (3 - 1 - 2) (by decide) 0 (by decide)).2.trans ((congrArg (own_e e0 e1 e2 0) (show _ = (0 : Int32) from by decide +kernel)).trans (by first | rfl | simp [own_e])))
    exact ⟨(by rw [o0, z0]), (by rw [o1, z1]), (by rw [o2, z2])⟩
theorem own_fin_4_4 (e0 e1 e2 e3 : Int32) (d01 : e0.toInt ≠ e1.toInt) (d02 : e0.toInt ≠ e2.toInt) (d03 : e0.toInt ≠ e3.toInt) (d12 : e1.toInt ≠ e2.toInt) (d13 : e1.toInt ≠ e3.toInt) (d23 : e2.toInt ≠ e3.toInt) (K1 : Nat → Int) (J1 : Nat → Int32) (gK1 : (own_of 0 true (fun _ => (0 : Int)) (fun _ => (0 : Int32)) e0.toInt e0).1 = K1) (gJ1 : (own_of 0 true (fun _ => (0 : Int)) (fun _ => (0 : Int32)) e0.toInt e0).2 = J1) (K2 : Nat → Int) (J2 : Nat → Int32) (gK2 : (own_of 1 true K1 J1 e1.toInt e1).1 = K2) (gJ2 : (own_of 1 true K1 J1 e1.toInt e1).2 = J2) (K3 : Nat → Int) (J3 : Nat → Int32) (gK3 : (own_of 2 true K2 J2 e2.toInt e2).1 = K3) (gJ3 : (own_of 2 true K2 J2 e2.toInt e2).2 = J3) (K4 : Nat → Int) (J4 : Nat → Int32) (gK4 : (own_of 3 true K3 J3 e3.toInt e3).1 = K4) (gJ4 : (own_of 3 true K3 J3 e3.toInt e3).2 = J4) (of : Nat → Int32) (hof : ∀ d, d < 4 → of d = (own_st 4 K4 J4 (4 - 1 - d)).2 0) : (of 0).toInt64 = (own_mn (own_mn e0.toInt64 e1.toInt64) (own_mn e2.toInt64 e3.toInt64)) ∧ (of 1).toInt64 = (own_mn (own_mn (own_mx e0.toInt64 e1.toInt64) (own_mx e2.toInt64 e3.toInt64)) (own_mx (own_mn e0.toInt64 e1.toInt64) (own_mn e2.toInt64 e3.toInt64))) ∧ (of 2).toInt64 = (own_mx (own_mn (own_mx e0.toInt64 e1.toInt64) (own_mx e2.toInt64 e3.toInt64)) (own_mx (own_mn e0.toInt64 e1.toInt64) (own_mn e2.toInt64 e3.toInt64))) ∧ (of 3).toInt64 = (own_mx (own_mx e0.toInt64 e1.toInt64) (own_mx e2.toInt64 e3.toInt64)) := by
  subst gK1 gJ1
  subst gK2 gJ2
  subst gK3 gJ3
  subst gK4 gJ4
  have q0 := c_i2l e0
  have r0 := rng32 e0
  have q1 := c_i2l e1
  have r1 := rng32 e1
  have q2 := c_i2l e2
  have r2 := rng32 e2
  have q3 := c_i2l e3
  have r3 := rng32 e3
  have qM : (9223372036854775807 : Int64).toInt = 9223372036854775807 := by decide
  rcases own_ord4 e0.toInt e1.toInt e2.toInt e3.toInt d01 d02 d03 d12 d13 d23 with h | h | h | h | h | h | h | h | h | h | h | h | h | h | h | h | h | h | h | h | h | h | h | h
  · have Hf := own_fm (v0 := e0.toInt) (v1 := e1.toInt) (v2 := e2.toInt) (v3 := e3.toInt) (by omega) (by omega) (by omega)
    have R0 := own_R0 (own_f e0.toInt e1.toInt e2.toInt e3.toInt) (own_e e0 e1 e2 e3)
    have R1 := own_ofA Hf (e := (own_e e0 e1 e2 e3)) (n := 0) (a := 0) (b := 0) (k := e0.toInt) (j := e0) (by simp [own_f]) (by first | rfl | simp [own_e]) R0
    have R2 := own_ofA Hf (e := (own_e e0 e1 e2 e3)) (n := 1) (a := 1) (b := 1) (k := e1.toInt) (j := e1) (by simp [own_f]) (by first | rfl | simp [own_e]) R1
    have R3 := own_ofA Hf (e := (own_e e0 e1 e2 e3)) (n := 2) (a := 2) (b := 2) (k := e2.toInt) (j := e2) (by simp [own_f]) (by first | rfl | simp [own_e]) R2
    have R4 := own_ofA Hf (e := (own_e e0 e1 e2 e3)) (n := 3) (a := 3) (b := 3) (k := e3.toInt) (j := e3) (by simp [own_f]) (by first | rfl | simp [own_e]) R3
    obtain ⟨z0, z1, z2, z3⟩ := own_net_0123 e0.toInt64 e1.toInt64 e2.toInt64 e3.toInt64 (by omega) (by omega) (by omega)
    have o0 : of 0 = e0 := (hof 0 (by decide)).trans ((own_st_rel Hf (by decide) R4 (4 - 1 - 0) (by decide) 0 (by decide)).2.trans ((congrArg (own_e e0 e1 e2 e3) (show _ = (0 : Int32) from by decide +kernel)).trans (by first | rfl | simp [own_e])))
    have o1 : of 1 = e1 := (hof 1 (by decide)).trans ((own_st_rel Hf (by decide) R4 (4 - 1 - 1) (by decide) 0 (by decide)).2.trans ((congrArg (own_e e0 e1 e2 e3) (show _ = (1 : Int32) from by decide +kernel)).trans (by first | rfl | simp [own_e])))
    have o2 : of 2 = e2 := (hof 2 (by decide)).trans ((own_st_rel Hf (by decide) R4 (4 - 1 - 2) (by decide) 0 (by decide)).2.trans ((congrArg (own_e e0 e1 e2 e3) (show _ = (2 : Int32) from by decide +kernel)).trans (by first | rfl | simp [own_e])))
    have o3 : of 3 = e3 := (hof 3 (by decide)).trans ((own_st_rel Hf (by decide) R4 (4 - 1 - 3) (by decide) 0 (by decide)).2.trans ((congrArg (own_e e0 e1 e2 e3) (show _ = (3 : Int32) from by decide +kernel)).trans (by first | rfl | simp [own_e])))
    exact ⟨(by rw [o0, z0]), (by rw [o1, z1]), (by rw [o2, z2]), (by rw [o3, z3])⟩
  · have Hf := own_fm (v0 := e0.toInt) (v1 := e1.toInt) (v2 := e3.toInt) (v3 := e2.toInt) (by omega) (by omega) (by omega)
    have R0 := own_R0 (own_f e0.toInt e1.toInt e3.toInt e2.toInt) (own_e e0 e1 e2 e3)
    have R1 := own_ofA Hf (e := (own_e e0 e1 e2 e3)) (n := 0) (a := 0) (b := 0) (k := e0.toInt) (j := e0) (by simp [own_f]) (by first | rfl | simp [own_e]) R0
    have R2 := own_ofA Hf (e := (own_e e0 e1 e2 e3)) (n := 1) (a := 1) (b := 1) (k := e1.toInt) (j := e1) (by simp [own_f]) (by first | rfl | simp [own_e]) R1
    have R3 := own_ofA Hf (e := (own_e e0 e1 e2 e3)) (n := 2) (a := 3) (b := 2) (k := e2.toInt) (j := e2) (by simp [own_f]) (by first | rfl | simp [own_e]) R2
    have R4 := own_ofA Hf (e := (own_e e0 e1 e2 e3)) (n := 3) (a := 2) (b := 3) (k := e3.toInt) (j := e3) (by simp [own_f]) (by first | rfl | simp [own_e]) R3
    obtain ⟨z0, z1, z2, z3⟩ := own_net_0132 e0.toInt64 e1.toInt64 e2.toInt64 e3.toInt64 (by omega) (by omega) (by omega)
    have o0 : of 0 = e0 := (hof 0 (by decide)).trans ((own_st_rel Hf (by decide) R4 (4 - 1 - 0) (by decide) 0 (by decide)).2.trans ((congrArg (own_e e0 e1 e2 e3) (show _ = (0 : Int32) from by decide +kernel)).trans (by first | rfl | simp [own_e])))
    have o1 : of 1 = e1 := (hof 1 (by decide)).trans ((own_st_rel Hf (by decide) R4 (4 - 1 - 1) (by decide) 0 (by decide)).2.trans ((congrArg (own_e e0 e1 e2 e3) (show _ = (1 : Int32) from by decide +kernel)).trans (by first | rfl | simp [own_e])))
    have o2 : of 2 = e3 := (hof 2 (by decide)).trans ((own_st_rel Hf (by decide) R4 (4 - 1 - 2) (by decide) 0 (by decide)).2.trans ((congrArg (own_e e0 e1 e2 e3) (show _ = (3 : Int32) from by decide +kernel)).trans (by first | rfl | simp [own_e])))
    have o3 : of 3 = e2 := (hof 3 (by decide)).trans ((own_st_rel Hf (by decide) R4 (4 - 1 - 3) (by decide) 0 (by decide)).2.trans ((congrArg (own_e e0 e1 e2 e3) (show _ = (2 : Int32) from by decide +kernel)).trans (by first | rfl | simp [own_e])))
    exact ⟨(by rw [o0, z0]), (by rw [o1, z1]), (by rw [o2, z2]), (by rw [o3, z3])⟩
  · have Hf := own_fm (v0 := e0.toInt) (v1 := e2.toInt) (v2 := e1.toInt) (v3 := e3.toInt) (by omega) (by omega) (by omega)
    have R0 := own_R0 (own_f e0.toInt e2.toInt e1.toInt e3.toInt) (own_e e0 e1 e2 e3)
    have R1 := own_ofA Hf (e := (own_e e0 e1 e2 e3)) (n := 0) (a := 0) (b := 0) (k := e0.toInt) (j := e0) (by simp [own_f]) (by first | rfl | simp [own_e]) R0
    have R2 := own_ofA Hf (e := (own_e e0 e1 e2 e3)) (n := 1) (a := 2) (b := 1) (k := e1.toInt) (j := e1) (by simp [own_f]) (by first | rfl | simp [own_e]) R1
    have R3 := own_ofA Hf (e := (own_e e0 e1 e2 e3)) (n := 2) (a := 1) (b := 2) (k := e2.toInt) (j := e2) (by simp [own_f]) (by first | rfl | simp [own_e]) R2
    have R4 := own_ofA Hf (e := (own_e e0 e1 e2 e3)) (n := 3) (a := 3) (b := 3) (k := e3.toInt) (j := e3) (by simp [own_f]) (by first | rfl | simp [own_e]) R3
    obtain ⟨z0, z1, z2, z3⟩ := own_net_0213 e0.toInt64 e1.toInt64 e2.toInt64 e3.toInt64 (by omega) (by omega) (by omega)
    have o0 : of 0 = e0 := (hof 0 (by decide)).trans ((own_st_rel Hf (by decide) R4 (4 - 1 - 0) (by decide) 0 (by decide)).2.trans ((congrArg (own_e e0 e1 e2 e3) (show _ = (0 : Int32) from by decide +kernel)).trans (by first | rfl | simp [own_e])))
    have o1 : of 1 = e2 := (hof 1 (by decide)).trans ((own_st_rel Hf (by decide) R4 (4 - 1 - 1) (by decide) 0 (by decide)).2.trans ((congrArg (own_e e0 e1 e2 e3) (show _ = (2 : Int32) from by decide +kernel)).trans (by first | rfl | simp [own_e])))
    have o2 : of 2 = e1 := (hof 2 (by decide)).trans ((own_st_rel Hf (by decide) R4 (4 - 1 - 2) (by decide) 0 (by decide)).2.trans ((congrArg (own_e e0 e1 e2 e3) (show _ = (1 : Int32) from by decide +kernel)).trans (by first | rfl | simp [own_e])))
    have o3 : of 3 = e3 := (hof 3 (by decide)).trans ((own_st_rel Hf (by decide) R4 (4 - 1 - 3) (by decide) 0 (by decide)).2.trans ((congrArg (own_e e0 e1 e2 e3) (show _ = (3 : Int32) from by decide +kernel)).trans (by first | rfl | simp [own_e])))
    exact ⟨(by rw [o0, z0]), (by rw [o1, z1]), (by rw [o2, z2]), (by rw [o3, z3])⟩
  · have Hf := own_fm (v0 := e0.toInt) (v1 := e2.toInt) (v2 := e3.toInt) (v3 := e1.toInt) (by omega) (by omega) (by omega)
    have R0 := own_R0 (own_f e0.toInt e2.toInt e3.toInt e1.toInt) (own_e e0 e1 e2 e3)
    have R1 := own_ofA Hf (e := (own_e e0 e1 e2 e3)) (n := 0) (a := 0) (b := 0) (k := e0.toInt) (j := e0) (by simp [own_f]) (by first | rfl | simp [own_e]) R0
    have R2 := own_ofA Hf (e := (own_e e0 e1 e2 e3)) (n := 1) (a := 3) (b := 1) (k := e1.toInt) (j := e1) (by simp [own_f]) (by first | rfl | simp [own_e]) R1
    have R3 := own_ofA Hf (e := (own_e e0 e1 e2 e3)) (n := 2) (a := 1) (b := 2) (k := e2.toInt) (j := e2) (by simp [own_f]) (by first | rfl | simp [own_e]) R2
    have R4 := own_ofA Hf (e := (own_e e0 e1 e2 e3)) (n := 3) (a := 2) (b := 3) (k := e3.toInt) (j := e3) (by simp [own_f]) (by first | rfl | simp [own_e]) R3
    obtain ⟨z0, z1, z2, z3⟩ := own_net_0231 e0.toInt64 e1.toInt64 e2.toInt64 e3.toInt64 (by omega) (by omega) (by omega)
    have o0 : of 0 = e0 := (hof 0 (by decide)).trans ((own_st_rel Hf (by decide) R4 (4 - 1 - 0) (by decide) 0 (by decide)).2.trans ((congrArg (own_e e0 e1 e2 e3) (show _ = (0 : Int32) from by decide +kernel)).trans (by first | rfl | simp [own_e])))
    have o1 : of 1 = e2 := (hof 1 (by decide)).trans ((own_st_rel Hf (by decide) R4 (4 - 1 - 1) (by decide) 0 (by decide)).2.trans ((congrArg (own_e e0 e1 e2 e3) (show _ = (2 : Int32) from by decide +kernel)).trans (by first | rfl | simp [own_e])))
    have o2 : of 2 = e3 := (hof 2 (by decide)).trans ((own_st_rel Hf (by decide) R4 (4 - 1 - 2) (by decide) 0 (by decide)).2.trans ((congrArg (own_e e0 e1 e2 e3) (show _ = (3 : Int32) from by decide +kernel)).trans (by first | rfl | simp [own_e])))
    have o3 : of 3 = e1 := (hof 3 (by decide)).trans ((own_st_rel Hf (by decide) R4 (4 - 1 - 3) (by decide) 0 (by decide)).2.trans ((congrArg (own_e e0 e1 e2 e3) (show _ = (1 : Int32) from by decide +kernel)).trans (by first | rfl | simp [own_e])))
    exact ⟨(by rw [o0, z0]), (by rw [o1, z1]), (by rw [o2, z2]), (by rw [o3, z3])⟩
  · have Hf := own_fm (v0 := e0.toInt) (v1 := e3.toInt) (v2 := e1.toInt) (v3 := e2.toInt) (by omega) (by omega) (by omega)
    have R0 := own_R0 (own_f e0.toInt e3.toInt e1.toInt e2.toInt) (own_e e0 e1 e2 e3)
    have R1 := own_ofA Hf (e := (own_e e0 e1 e2 e3)) (n := 0) (a := 0) (b := 0) (k := e0.toInt) (j := e0) (by simp [own_f]) (by first | rfl | simp [own_e]) R0
    have R2 := own_ofA Hf (e := (own_e e0 e1 e2 e3)) (n := 1) (a := 2) (b := 1) (k := e1.toInt) (j := e1) (by simp [own_f]) (by first | rfl | simp [own_e]) R1
    have R3 := own_ofA Hf (e := (own_e e0 e1 e2 e3)) (n := 2) (a := 3) (b := 2) (k := e2.toInt) (j := e2) (by simp [own_f]) (by first | rfl | simp [own_e]) R2
    have R4 := own_ofA Hf (e := (own_e e0 e1 e2 e3)) (n := 3) (a := 1) (b := 3) (k := e3.toInt) (j := e3) (by simp [own_f]) (by first | rfl | simp [own_e]) R3
    obtain ⟨z0, z1, z2, z3⟩ := own_net_0312 e0.toInt64 e1.toInt64 e2.toInt64 e3.toInt64 (by omega) (by omega) (by omega)
    have o0 : of 0 = e0 := (hof 0 (by decide)).trans ((own_st_rel Hf (by decide) R4 (4 - 1 - 0) (by decide) 0 (by decide)).2.trans ((congrArg (own_e e0 e1 e2 e3) (show _ = (0 : Int32) from by decide +kernel)).trans (by first | rfl | simp [own_e])))
    have o1 : of 1 = e3 := (hof 1 (by decide)).trans ((own_st_rel Hf (by decide) R4 (4 - 1 - 1) (by decide) 0 (by decide)).2.trans ((congrArg (own_e e0 e1 e2 e3) (show _ = (3 : Int32) from by decide +kernel)).trans (by first | rfl | simp [own_e])))
    have o2 : of 2 = e1 := (hof 2 (by decide)).trans ((own_st_rel Hf (by decide) R4 (4 - 1 - 2) (by decide) 0 (by decide)).2.trans ((congrArg (own_e e0 e1 e2 e3) (show _ = (1 : Int32) from by decide +kernel)).trans (by first | rfl | simp [own_e])))
    have o3 : of 3 = e2 := (hof 3 (by decide)).trans ((own_st_rel Hf (by decide) R4 (4 - 1 - 3) (by decide) 0 (by decide)).2.trans ((congrArg (own_e e0 e1 e2 e3) (show _ = (2 : Int32) from by decide +kernel)).trans (by first | rfl | simp [own_e])))
    exact ⟨(by rw [o0, z0]), (by rw [o1, z1]), (by rw [o2, z2]), (by rw [o3, z3])⟩
  · have Hf := own_fm (v0 := e0.toInt) (v1 := e3.toInt) (v2 := e2.toInt) (v3 := e1.toInt) (by omega) (by omega) (by omega)
    have R0 := own_R0 (own_f e0.toInt e3.toInt e2.toInt e1.toInt) (own_e e0 e1 e2 e3)
    have R1 := own_ofA Hf (e := (own_e e0 e1 e2 e3)) (n := 0) (a := 0) (b := 0) (k := e0.toInt) (j := e0) (by simp [own_f]) (by first | rfl | simp [own_e]) R0
    have R2 := own_ofA Hf (e := (own_e e0 e1 e2 e3)) (n := 1) (a := 3) (b := 1) (k := e1.toInt) (j := e1) (by simp [own_f]) (by first | rfl | simp [own_e]) R1
    have R3 := own_ofA Hf (e := (own_e e0 e1 e2 e3)) (n := 2) (a := 2) (b := 2) (k := e2.toInt) (j := e2) (by simp [own_f]) (by first | rfl | simp [own_e]) R2
    have R4 := own_ofA Hf (e := (own_e e0 e1 e2 e3)) (n := 3) (a := 1) (b := 3) (k := e3.toInt) (j := e3) (by simp [own_f]) (by first | rfl | simp [own_e]) R3
    obtain ⟨z0, z1, z2, z3⟩ := own_net_0321 e0.toInt64 e1.toInt64 e2.toInt64 e3.toInt64 (by omega) (by omega) (by omega)
    have o0 : of 0 = e0 := (hof 0 (by decide)).trans ((own_st_rel Hf (by decide) R4 (4 - 1 - 0) (by decide) 0 (by decide)).2.trans ((congrArg (own_e e0 e1 e2 e3) (show _ = (0 : Int32) from by decide +kernel)).trans (by first | rfl | simp [own_e])))
    have o1 : of 1 = e3 := (hof 1 (by decide)).trans ((own_st_rel Hf (by decide) R4 (4 - 1 - 1) (by decide) 0 (by decide)).2.trans ((congrArg (own_e e0 e1 e2 e3) (show _ = (3 : Int32) from by decide +kernel)).trans (by first | rfl | simp [own_e])))
    have o2 : of 2 = e2 := (hof 2 (by decide)).trans ((own_st_rel Hf (by decide) R4 (4 - 1 - 2) (by decide) 0 (by decide)).2.trans ((congrArg (own_e e0 e1 e2 e3) (show _ = (2 : Int32) from by decide +kernel)).trans (by first | rfl | simp [own_e])))
    have o3 : of 3 = e1 := (hof 3 (by decide)).trans ((own_st_rel Hf (by decide) R4 (4 - 1 - 3) (by decide) 0 (by decide)).2.trans ((congrArg (own_e e0 e1 e2 e3) (show _ = (1 : Int32) from by decide +kernel)).trans (by first | rfl | simp [own_e])))
    exact ⟨(by rw [o0, z0]), (by rw [o1, z1]), (by rw [o2, z2]), (by rw [o3, z3])⟩
  · have Hf := own_fm (v0 := e1.toInt) (v1 := e0.toInt) (v2 := e2.toInt) (v3 := e3.toInt) (by omega) (by omega) (by omega)
    have R0 := own_R0 (own_f e1.toInt e0.toInt e2.toInt e3.toInt) (own_e e0 e1 e2 e3)
    have R1 := own_ofA Hf (e := (own_e e0 e1 e2 e3)) (n := 0) (a := 1) (b := 0) (k := e0.toInt) (j := e0) (by simp [own_f]) (by first | rfl | simp [own_e]) R0
    have R2 := own_ofA Hf (e := (own_e e0 e1 e2 e3)) (n := 1) (a := 0) (b := 1) (k := e1.toInt) (j := e1) (by simp [own_f]) (by first | rfl | simp [own_e]) R1
    have R3 := own_ofA Hf (e := (own_e e0 e1 e2 e3)) (n := 2) (a := 2) (b := 2) (k := e2.toInt) (j := e2) (by simp [own_f]) (by first | rfl | simp [own_e]) R2
    have R4 := own_ofA Hf (e := (own_e e0 e1 e2 e3)) (n := 3) (a := 3) (b := 3) (k := e3.toInt) (j := e3) (by simp [own_f]) (by first | rfl | simp [own_e]) R3
    obtain ⟨z0, z1, z2, z3⟩ := own_net_1023 e0.toInt64 e1.toInt64 e2.toInt64 e3.toInt64 (by omega) (by omega) (by omega)
    have o0 : of 0 = e1 := (hof 0 (by decide)).trans ((own_st_rel Hf (by decide) R4 (4 - 1 - 0) (by decide) 0 (by decide)).2.trans ((congrArg (own_e e0 e1 e2 e3) (show _ = (1 : Int32) from by decide +kernel)).trans (by first | rfl | simp [own_e])))
    have o1 : of 1 = e0 := (hof 1 (by decide)).trans ((own_st_rel Hf (by decide) R4 (4 - 1 - 1) (by decide) 0 (by decide)).2.trans ((congrArg (own_e e0 e1 e2 e3) (show _ = (0 : Int32) from by decide +kernel)).trans (by first | rfl | simp [own_e])))
    have o2 : of 2 = e2 := (hof 2 (by decide)).trans ((own_st_rel Hf (by decide) R4 (4 - 1 - 2) (by decide) 0 (by decide)).2.trans ((congrArg (own_e e0 e1 e2 e3) (show _ = (2 : Int32) from by decide +kernel)).trans (by first | rfl | simp [own_e])))
    have o3 : of 3 = e3 := (hof 3 (by decide)).trans ((own_st_rel Hf (by decide) R4 (4 - 1 - 3) (by decide) 0 (by decide)).2.trans ((congrArg (own_e e0 e1 e2 e3) (show _ = (3 : Int32) from by decide +kernel)).trans (by first | rfl | simp [own_e])))
    exact ⟨(by rw [o0, z0]), (by rw [o1, z1]), (by rw [o2, z2]), (by rw [o3, z3])⟩
  · have Hf := own_fm (v0 := e1.toInt) (v1 := e0.toInt) (v2 := e3.toInt) (v3 := e2.toInt) (by omega) (by omega) (by omega)
    have R0 := own_R0 (own_f e1.toInt e0.toInt e3.toInt e2.toInt) (own_e e0 e1 e2 e3)
    have R1 := own_ofA Hf (e := (own_e e0 e1 e2 e3)) (n := 0) (a := 1) (b := 0) (k := e0.toInt) (j := e0) (by simp [own_f]) (by first | rfl | simp [own_e]) R0
    have R2 := own_ofA Hf (e := (own_e e0 e1 e2 e3)) (n := 1) (a := 0) (b := 1) (k := e1.toInt) (j := e1) (by simp [own_f]) (by first | rfl | simp [own_e]) R1
    have R3 := own_ofA Hf (e := (own_e e0 e1 e2 e3)) (n := 2) (a := 3) (b := 2) (k := e2.toInt) (j := e2) (by simp [own_f]) (by first | rfl | simp [own_e]) R2
    have R4 := own_ofA Hf (e := (own_e e0 e1 e2 e3)) (n := 3) (a := 2) (b := 3) (k := e3.toInt) (j := e3) (by simp [own_f]) (by first | rfl | simp [own_e]) R3
    obtain ⟨z0, z1, z2, z3⟩ := own_net_1032 e0.toInt64 e1.toInt64 e2.toInt64 e3.toInt64 (by omega) (by omega) (by omega)
    have o0 : of 0 = e1 := (hof 0 (by decide)).trans ((own_st_rel Hf (by decide) R4 (4 - 1 - 0) (by decide) 0 (by decide)).2.trans ((congrArg (own_e e0 e1 e2 e3) (show _ = (1 : Int32) from by decide +kernel)).trans (by first | rfl | simp [own_e])))
    have o1 : of 1 = e0 := (hof 1 (by decide)).trans ((own_st_rel Hf (by decide) R4 (4 - 1 - 1) (by decide) 0 (by decide)).2.trans ((congrArg (own_e e0 e1 e2 e3) (show _ = (0 : Int32) from by decide +kernel)).trans (by first | rfl | simp [own_e])))
    have o2 : of 2 = e3 := (hof 2 (by decide)).trans ((own_st_rel Hf (by decide) R4 (4 - 1 - 2) (by decide) 0 (by decide)).2.trans ((congrArg (own_e e0 e1 e2 e3) (show _ = (3 : Int32) from by decide +kernel)).trans (by first | rfl | simp [own_e])))
    have o3 : of 3 = e2 := (hof 3 (by decide)).trans ((own_st_rel Hf (by decide) R4 (4 - 1 - 3) (by decide) 0 (by decide)).2.trans ((congrArg (own_e e0 e1 e2 e3) (show _ = (2 : Int32) from by decide +kernel)).trans (by first | rfl | simp [own_e])))
    exact ⟨(by rw [o0, z0]), (by rw [o1, z1]), (by rw [o2, z2]), (by rw [o3, z3])⟩
  · have Hf := own_fm (v0 := e1.toInt) (v1 := e2.toInt) (v2 := e0.toInt) (v3 := e3.toInt) (by omega) (by omega) (by omega)
    have R0 := own_R0 (own_f e1.toInt e2.toInt e0.toInt e3.toInt) (own_e e0 e1 e2 e3)
    have R1 := own_ofA Hf (e := (own_e e0 e1 e2 e3)) (n := 0) (a := 2) (b := 0) (k := e0.toInt) (j := e0) (by simp [own_f]) (by first | rfl | simp [own_e]) R0
    have R2 := own_ofA Hf (e := (own_e e0 e1 e2 e3)) (n := 1) (a := 0) (b := 1) (k := e1.toInt) (j := e1) (by simp [own_f]) (by first | rfl | simp [own_e]) R1
    have R3 := own_ofA Hf (e := (own_e e0 e1 e2 e3)) (n := 2) (a := 1) (b := 2) (k := e2.toInt) (j := e2) (by simp [own_f]) (by first | rfl | simp [own_e]) R2
    have R4 := own_ofA Hf (e := (own_e e0 e1 e2 e3)) (n := 3) (a := 3) (b := 3) (k := e3.toInt) (j := e3) (by simp [own_f]) (by first | rfl | simp [own_e]) R3
    obtain ⟨z0, z1, z2, z3⟩ := own_net_1203 e0.toInt64 e1.toInt64 e2.toInt64 e3.toInt64 (by omega) (by omega) (by omega)
    have o0 : of 0 = e1 := (hof 0 (by decide)).trans ((own_st_rel Hf (by decide) R4 (4 - 1 - 0) (by decide) 0 (by decide)).2.trans ((congrArg (own_e e0 e1 e2 e3) (show _ = (1 : Int32) from by decide +kernel)).trans (by first | rfl | simp [own_e])))
    have o1 : of 1 = e2 := (hof 1 (by decide)).trans ((own_st_rel Hf (by decide) R4 (4 - 1 - 1) (by decide) 0 (by decide)).2.trans ((congrArg (own_e e0 e1 e2 e3) (show _ = (2 : Int32) from by decide +kernel)).trans (by first | rfl | simp [own_e])))
    have o2 : of 2 = e0 := (hof 2 (by decide)).trans ((own_st_rel Hf (by decide) R4 (4 - 1 - 2) (by decide) 0 (by decide)).2.trans ((congrArg (own_e e0 e1 e2 e3) (show _ = (0 : Int32) from by decide +kernel)).trans (by first | rfl | simp [own_e])))
    have o3 : of 3 = e3 := (hof 3 (by decide)).trans ((own_st_rel Hf (by decide) R4 (4 - 1 - 3) (by decide) 0 (by decide)).2.trans ((congrArg (own_e e0 e1 e2 e3) (show _ = (3 : Int32) from by decide +kernel)).trans (by first | rfl | simp [own_e])))
    exact ⟨(by rw [o0, z0]), (by rw [o1, z1]), (by rw [o2, z2]), (by rw [o3, z3])⟩
  · have Hf := own_fm (v0 := e1.toInt) (v1 := e2.toInt) (v2 := e3.toInt) (v3 := e0.toInt) (by omega) (by omega) (by omega)
    have R0 := own_R0 (own_f e1.toInt e2.toInt e3.toInt e0.toInt) (own_e e0 e1 e2 e3)
    have R1 := own_ofA Hf (e := (own_e e0 e1 e2 e3)) (n := 0) (a := 3) (b := 0) (k := e0.toInt) (j := e0) (by simp [own_f]) (by first | rfl | simp [own_e]) R0
    have R2 := own_ofA Hf (e := (own_e e0 e1 e2 e3)) (n := 1) (a := 0) (b := 1) (k := e1.toInt) (j := e1) (by simp [own_f]) (by first | rfl | simp [own_e]) R1
    have R3 := own_ofA Hf (e := (own_e e0 e1 e2 e3)) (n := 2) (a := 1) (b := 2) (k := e2.toInt) (j := e2) (by simp [own_f]) (by first | rfl | simp [own_e]) R2
    have R4 := own_ofA Hf (e := (own_e e0 e1 e2 e3)) (n := 3) (a := 2) (b := 3) (k := e3.toInt) (j := e3) (by simp [own_f]) (by first | rfl | simp [own_e]) R3
    obtain ⟨z0, z1, z2, z3⟩ := own_net_1230 e0.toInt64 e1.toInt64 e2.toInt64 e3.toInt64 (by omega) (by omega) (by omega)
    have o0 : of 0 = e1 := (hof 0 (by decide)).trans ((own_st_rel Hf (by decide) R4 (4 - 1 - 0) (by decide) 0 (by decide)).2.trans ((congrArg (own_e e0 e1 e2 e3) (show _ = (1 : Int32) from by decide +kernel)).trans (by first | rfl | simp [own_e])))
    have o1 : of 1 = e2 := (hof 1 (by decide)).trans ((own_st_rel Hf (by decide) R4 (4 - 1 - 1) (by decide) 0 (by decide)).2.trans ((congrArg (own_e e0 e1 e2 e3) (show _ = (2 : Int32) from by decide +kernel)).trans (by first | rfl | simp [own_e])))
    have o2 : of 2 = e3 := (hof 2 (by decide)).trans ((own_st_rel Hf (by decide) R4 (4 - 1 - 2) (by decide) 0 (by decide)).2.trans ((congrArg (own_e e0 e1 e2 e3) (show _ = (3 : Int32) from by decide +kernel)).trans (by first | rfl | simp [own_e])))
    have o3 : of 3 = e0 := (hof 3 (by decide)).trans ((own_st_rel Hf (by decide) R4 (4 - 1 - 3) (by decide) 0 (by decide)).2.trans ((congrArg (own_e e0 e1 e2 e3) (show _ = (0 : Int32) from by decide +kernel)).trans (by first | rfl | simp [own_e])))
    exact ⟨(by rw [o0, z0]), (by rw [o1, z1]), (by rw [o2, z2]), (by rw [o3, z3])⟩
  · have Hf := own_fm (v0 := e1.toInt) (v1 := e3.toInt) (v2 := e0.toInt) (v3 := e2.toInt) (by omega) (by omega) (by omega)
    have R0 := own_R0 (own_f e1.toInt e3.toInt e0.toInt e2.toInt) (own_e e0 e1 e2 e3)
    have R1 := own_ofA Hf (e := (own_e e0 e1 e2 e3)) (n := 0) (a := 2) (b := 0) (k := e0.toInt) (j := e0) (by simp [own_f]) (by first | rfl | simp [own_e]) R0
    have R2 := own_ofA Hf (e := (own_e e0 e1 e2 e3)) (n := 1) (a := 0) (b := 1) (k := e1.toInt) (j := e1) (by simp [own_f]) (by first | rfl | simp [own_e]) R1
    have R3 := own_ofA Hf (e := (own_e e0 e1 e2 e3)) (n := 2) (a := 3) (b := 2) (k := e2.toInt) (j := e2) (by simp [own_f]) (by first | rfl | simp [own_e]) R2
    have R4 := own_ofA Hf (e := (own_e e0 e1 e2 e3)) (n := 3) (a := 1) (b := 3) (k := e3.toInt) (j := e3) (by simp [own_f]) (by first | rfl | simp [own_e]) R3
    obtain ⟨z0, z1, z2, z3⟩ := own_net_1302 e0.toInt64 e1.toInt64 e2.toInt64 e3.toInt64 (by omega) (by omega) (by omega)
    have o0 : of 0 = e1 := (hof 0 (by decide)).trans ((own_st_rel Hf (by decide) R4 (4 - 1 - 0) (by decide) 0 (by decide)).2.trans ((congrArg (own_e e0 e1 e2 e3) (show _ = (1 : Int32) from by decide +kernel)).trans (by first | rfl | simp [own_e])))
    have o1 : of 1 = e3 := (hof 1 (by decide)).trans ((own_st_rel Hf (by decide) R4 (4 - 1 - 1) (by decide) 0 (by decide)).2.trans ((congrArg (own_e e0 e1 e2 e3) (show _ = (3 : Int32) from by decide +kernel)).trans (by first | rfl | simp [own_e])))
    have o2 : of 2 = e0 := (hof 2 (by decide)).trans ((own_st_rel Hf (by decide) R4 (4 - 1 - 2) (by decide) 0 (by decide)).2.trans ((congrArg (own_e e0 e1 e2 e3) (show _ = (0 : Int32) from by decide +kernel)).trans (by first | rfl | simp [own_e])))
    have o3 : of 3 = e2 := (hof 3 (by decide)).trans ((own_st_rel Hf (by decide) R4 (4 - 1 - 3) (by decide) 0 (by decide)).2.trans ((congrArg (own_e e0 e1 e2 e3) (show _ = (2 : Int32) from by decide +kernel)).trans (by first | rfl | simp [own_e])))
    exact ⟨(by rw [o0, z0]), (by rw [o1, z1]), (by rw [o2, z2]), (by rw [o3, z3])⟩
  · have Hf := own_fm (v0 := e1.toInt) (v1 := e3.toInt) (v2 := e2.toInt) (v3 := e0.toInt) (by omega) (by omega) (by omega)
    have R0 := own_R0 (own_f e1.toInt e3.toInt e2.toInt e0.toInt) (own_e e0 e1 e2 e3)
    have R1 := own_ofA Hf (e := (own_e e0 e1 e2 e3)) (n := 0) (a := 3) (b := 0) (k := e0.toInt) (j := e0) (by simp [own_f]) (by first | rfl | simp [own_e]) R0
    have R2 := own_ofA Hf (e := (own_e e0 e1 e2 e3)) (n := 1) (a := 0) (b := 1) (k := e1.toInt) (j := e1) (by simp [own_f]) (by first | rfl | simp [own_e]) R1
    have R3 := own_ofA Hf (e := (own_e e0 e1 e2 e3)) (n := 2) (a := 2) (b := 2) (k := e2.toInt) (j := e2) (by simp [own_f]) (by first | rfl | simp [own_e]) R2
    have R4 := own_ofA Hf (e := (own_e e0 e1 e2 e3)) (n := 3) (a := 1) (b := 3) (k := e3.toInt) (j := e3) (by simp [own_f]) (by first | rfl | simp [own_e]) R3
    obtain ⟨z0, z1, z2, z3⟩ := own_net_1320 e0.toInt64 e1.toInt64 e2.toInt64 e3.toInt64 (by omega) (by omega) (by omega)
    have o0 : of 0 = e1 := (hof 0 (by decide)).trans ((own_st_rel Hf (by decide) R4 (4 - 1 - 0) (by decide) 0 (by decide)).2.trans ((congrArg (own_e e0 e1 e2 e3) (show _ = (1 : Int32) from by decide +kernel)).trans (by first | rfl | simp [own_e])))
    have o1 : of 1 = e3 := (hof 1 (by decide)).trans ((own_st_rel Hf (by decide) R4 (4 - 1 - 1) (by decide) 0 (by decide)).2.trans ((congrArg (own_e e0 e1 e2 e3) (show _ = (3 : Int32) from by decide +kernel)).trans (by first | rfl | simp [own_e])))
    have o2 : of 2 = e2 := (hof 2 (by decide)).trans ((own_st_rel Hf (by decide) R4 (4 - 1 - 2) (by decide) 0 (by decide)).2.trans ((congrArg (own_e e0 e1 e2 e3) (show _ = (2 : Int32) from by decide +kernel)).trans (by first | rfl | simp [own_e])))
    have o3 : of 3 = e0 := (hof 3 (by decide)).trans ((own_st_rel Hf (by decide) R4 (4 - 1 - 3) (by decide) 0 (by decide)).2.trans ((congrArg (own_e e0 e1 e2 e3) (show _ = (0 : Int32) from by decide +kernel)).trans (by first | rfl | simp [own_e])))
    exact ⟨(by rw [o0, z0]), (by rw [o1, z1]), (by rw [o2, z2]), (by rw [o3, z3])⟩
  · have Hf := own_fm (v0 := e2.toInt) (v1 := e0.toInt) (v2 := e1.toInt) (v3 := e3.toInt) (by omega) (by omega) (by omega)
    have R0 := own_R0 (own_f e2.toInt e0.toInt e1.toInt e3.toInt) (own_e e0 e1 e2 e3)
    have R1 := own_ofA Hf (e := (own_e e0 e1 e2 e3)) (n := 0) (a := 1) (b := 0) (k := e0.toInt) (j := e0) (by simp [own_f]) (by first | rfl | simp [own_e]) R0
    have R2 := own_ofA Hf (e := (own_e e0 e1 e2 e3)) (n := 1) (a := 2) (b := 1) (k := e1.toInt) (j := e1) (by simp [own_f]) (by first | rfl | simp [own_e]) R1
    have R3 := own_ofA Hf (e := (own_e e0 e1 e2 e3)) (n := 2) (a := 0) (b := 2) (k := e2.toInt) (j := e2) (by simp [own_f]) (by first | rfl | simp [own_e]) R2
    have R4 := own_ofA Hf (e := (own_e e0 e1 e2 e3)) (n := 3) (a := 3) (b := 3) (k := e3.toInt) (j := e3) (by simp [own_f]) (by first | rfl | simp [own_e]) R3
    obtain ⟨z0, z1, z2, z3⟩ := own_net_2013 e0.toInt64 e1.toInt64 e2.toInt64 e3.toInt64 (by omega) (by omega) (by omega)
    have o0 : of 0 = e2 := (hof 0 (by decide)).trans ((own_st_rel Hf (by decide) R4 (4 - 1 - 0) (by decide) 0 (by decide)).2.trans ((congrArg (own_e e0 e1 e2 e3) (show _ = (2 : Int32) from by decide +kernel)).trans (by first | rfl | simp [own_e])))
    have o1 : of 1 = e0 := (hof 1 (by decide)).trans ((own_st_rel Hf (by decide) R4 (4 - 1 - 1) (by decide) 0 (by decide)).2.trans ((congrArg (own_e e0 e1 e2 e3) (show _ = (0 : Int32) from by decide +kernel)).trans (by first | rfl | simp [own_e])))
    have o2 : of 2 = e1 := (hof 2 (by decide)).trans ((own_st_rel Hf (by decide) R4 (4 - 1 - 2) (by decide) 0 (by decide)).2.trans ((congrArg (own_e e0 e1 e2 e3) (show _ = (1 : Int32) from by decide +kernel)).trans (by first | rfl | simp [own_e])))
    have o3 : of 3 = e3 := (hof 3 (by decide)).trans ((own_st_rel Hf (by decide) R4 (4 - 1 - 3) (by decide) 0 (by decide)).2.trans ((congrArg (own_e e0 e1 e2 e3) (show _ = (3 : Int32) from by decide +kernel)).trans (by first | rfl | simp [own_e])))
    exact ⟨(by rw [o0, z0]), (by rw [o1, z1]), (by rw [o2, z2]), (by rw [o3, z3])⟩
  · have Hf := own_fm (v0 := e2.toInt) (v1 := e0.toInt) (v2 := e3.toInt) (v3 := e1.toInt) (by omega) (by omega) (by omega)
    have R0 := own_R0 (own_f e2.toInt e0.toInt e3.toInt e1.toInt) (own_e e0 e1 e2 e3)
    have R1 := own_ofA Hf (e := (own_e e0 e1 e2 e3)) (n := 0) (a := 1) (b := 0) (k := e0.toInt) (j := e0) (by simp [own_f]) (by first | rfl | simp [own_e]) R0
    have R2 := own_ofA Hf (e := (own_e e0 e1 e2 e3)) (n := 1) (a := 3) (b := 1) (k := e1.toInt) (j := e1) (by simp [own_f]) (by first | rfl | simp [own_e]) R1
    have R3 := own_ofA Hf (e := (own_e e0 e1 e2 e3)) (n := 2) (a := 0) (b := 2) (k := e2.toInt) (j := e2) (by simp [own_f]) (by first | rfl | simp [own_e]) R2
    have R4 := own_ofA Hf (e := (own_e e0 e1 e2 e3)) (n := 3) (a := 2) (b := 3) (k := e3.toInt) (j := e3) (by simp [own_f]) (by first | rfl | simp [own_e]) R3
    obtain ⟨z0, z1, z2, z3⟩ := own_net_2031 e0.toInt64 e1.toInt64 e2.toInt64 e3.toInt64 (by omega) (by omega) (by omega)
    have o0 : of 0 = e2 := (hof 0 (by decide)).trans ((own_st_rel Hf (by decide) R4 (4 - 1 - 0) (by decide) 0 (by decide)).2.trans ((congrArg (own_e e0 e1 e2 e3) (show _ = (2 : Int32) from by decide +kernel)).trans (by first | rfl | simp [own_e])))
    have o1 : of 1 = e0 := (hof 1 (by decide)).trans ((own_st_rel Hf (by decide) R4 (4 - 1 - 1) (by decide) 0 (by decide)).2.trans ((congrArg (own_e e0 e1 e2 e3) (show _ = (0 : Int32) from by decide +kernel)).trans (by first | rfl | simp [own_e])))
    have o2 : of 2 = e3 := (hof 2 (by decide)).trans ((own_st_rel Hf (by decide) R4 (4 - 1 - 2) (by decide) 0 (by decide)).2.trans ((congrArg (own_e e0 e1 e2 e3) (show _ = (3 : Int32) from by decide +kernel)).trans (by first | rfl | simp [own_e])))
    have o3 : of 3 = e1 := (hof 3 (by decide)).trans ((own_st_rel Hf (by decide) R4 (4 - 1 - 3) (by decide) 0 (by decide)).2.trans ((congrArg (own_e e0 e1 e2 e3) (show _ = (1 : Int32) from by decide +kernel)).trans (by first | rfl | simp [own_e])))
    exact ⟨(by rw [o0, z0]), (by rw [o1, z1]), (by rw [o2, z2]), (by rw [o3, z3])⟩
  · have Hf := own_fm (v0 := e2.toInt) (v1 := e1.toInt) (v2 := e0.toInt) (v3 := e3.toInt) (by omega) (by omega) (by omega)
    have R0 := own_R0 (own_f e2.toInt e1.toInt e0.toInt e3.toInt) (own_e e0 e1 e2 e3)
    have R1 := own_ofA Hf (e := (own_e e0 e1 e2 e3)) (n := 0) (a := 2) (b := 0) (k := e0.toInt) (j := e0) (by simp [own_f]) (by first | rfl | simp [own_e]) R0
    have R2 := own_ofA Hf (e := (own_e e0 e1 e2 e3)) (n := 1) (a := 1) (b := 1) (k := e1.toInt) (j := e1) (by simp [own_f]) (by first | rfl | simp [own_e]) R1
    have R3 := own_ofA Hf (e := (own_e e0 e1 e2 e3)) (n := 2) (a := 0) (b := 2) (k := e2.toInt) (j := e2) (by simp [own_f]) (by first | rfl | simp [own_e]) R2
    have R4 := own_ofA Hf (e := (own_e e0 e1 e2 e3)) (n := 3) (a := 3) (b := 3) (k := e3.toInt) (j := e3) (by simp [own_f]) (by first | rfl | simp [own_e]) R3
    obtain ⟨z0, z1, z2, z3⟩ := own_net_2103 e0.toInt64 e1.toInt64 e2.toInt64 e3.toInt64 (by omega) (by omega) (by omega)
    have o0 : of 0 = e2 := (hof 0 (by decide)).trans ((own_st_rel Hf (by decide) R4 (4 - 1 - 0) (by decide) 0 (by decide)).2.trans ((congrArg (own_e e0 e1 e2 e3) (show _ = (2 : Int32) from by decide +kernel)).trans (by first | rfl | simp [own_e])))
    have o1 : of 1 = e1 := (hof 1 (by decide)).trans ((own_st_rel Hf (by decide) R4 (4 - 1 - 1) (by decide) 0 (by decide)).2.trans ((congrArg (own_e e0 e1 e2 e3) (show _ = (1 : Int32) from by decide +kernel)).trans (by first | rfl | simp [own_e])))
    have o2 : of 2 = e0 := (hof 2 (by decide)).trans ((own_st_rel Hf (by decide) R4 (4 - 1 - 2) (by decide) 0 (by decide)).2.trans ((congrArg (own_e e0 e1 e2 e3) (show _ = (0 : Int32) from by decide +kernel)).trans (by first | rfl | simp [own_e])))
    have o3 : of 3 = e3 := (hof 3 (by decide)).trans ((own_st_rel Hf (by decide) R4 (4 - 1 - 3) (by decide) 0 (by decide)).2.trans ((congrArg (own_e e0 e1 e2 e3) (show _ = (3 : Int32) from by decide +kernel)).trans (by first | rfl | simp [own_e])))
    exact ⟨(by rw [o0, z0]), (by rw [o1, z1]), (by rw [o2, z2]), (by rw [o3, z3])⟩
  · have Hf := own_fm (v0 := e2.toInt) (v1 := e1.toInt) (v2 := e3.toInt) (v3 := e0.toInt) (by omega) (by omega) (by omega)
    have R0 := own_R0 (own_f e2.toInt e1.toInt e3.toInt e0.toInt) (own_e e0 e1 e2 e3)
    have R1 := own_ofA Hf (e := (own_e e0 e1 e2 e3)) (n := 0) (a := 3) (b := 0) (k := e0.toInt) (j := e0) (by simp [own_f]) (by first | rfl | simp [own_e]) R0
    have R2 := own_ofA Hf (e := (own_e e0 e1 e2 e3)) (n := 1) (a := 1) (b := 1) (k := e1.toInt) (j := e1) (by simp [own_f]) (by first | rfl | simp [own_e]) R1
    have R3 := own_ofA Hf (e := (own_e e0 e1 e2 e3)) (n := 2) (a := 0) (b := 2) (k := e2.toInt) (j := e2) (by simp [own_f]) (by first | rfl | simp [own_e]) R2
    have R4 := own_ofA Hf (e := (own_e e0 e1 e2 e3)) (n := 3) (a := 2) (b := 3) (k := e3.toInt) (j := e3) (by simp [own_f]) (by first | rfl | simp [own_e]) R3
    obtain ⟨z0, z1, z2, z3⟩ := own_net_2130 e0.toInt64 e1.toInt64 e2.toInt64 e3.toInt64 (by omega) (by omega) (by omega)
    have o0 : of 0 = e2 := (hof 0 (by decide)).trans ((own_st_rel Hf (by decide) R4 (4 - 1 - 0) (by decide) 0 (by decide)).2.trans ((congrArg (own_e e0 e1 e2 e3) (show _ = (2 : Int32) from by decide +kernel)).trans (by first | rfl | simp [own_e])))
    have o1 : of 1 = e1 := (hof 1 (by decide)).trans ((own_st_rel Hf (by decide) R4 (4 - 1 - 1) (by decide) 0 (by decide)).2.trans ((congrArg (own_e e0 e1 e2 e3) (show _ = (1 : Int32) from by decide +kernel)).trans (by first | rfl | simp [own_e])))
    have o2 : of 2 = e3 := (hof 2 (by decide)).trans ((own_st_rel Hf (by decide) R4 (4 - 1 - 2) (by decide) 0 (by decide)).2.trans ((congrArg (own_e e0 e1 e2 e3) (show _ = (3 : Int32) from by decide +kernel)).trans (by first | rfl | simp [own_e])))
    have o3 : of 3 = e0 := (hof 3 (by decide)).trans ((own_st_rel Hf (by decide) R4 (4 - 1 - 3) (by decide) 0 (by decide)).2.trans ((congrArg (own_e e0 e1 e2 e3) (show _ = (0 : Int32) from by decide +kernel)).trans (by first | rfl | simp [own_e])))
    exact ⟨(by rw [o0, z0]), (by rw [o1, z1]), (by rw [o2, z2]), (by rw [o3, z3])⟩
  · have Hf := own_fm (v0 := e2.toInt) (v1 := e3.toInt) (v2 := e0.toInt) (v3 := e1.toInt) (by omega) (by omega) (by omega)
    have R0 := own_R0 (own_f e2.toInt e3.toInt e0.toInt e1.toInt) (own_e e0 e1 e2 e3)
    have R1 := own_ofA Hf (e := (own_e e0 e1 e2 e3)) (n := 0) (a := 2) (b := 0) (k := e0.toInt) (j := e0) (by simp [own_f]) (by first | rfl | simp [own_e]) R0
    have R2 := own_ofA Hf (e := (own_e e0 e1 e2 e3)) (n := 1) (a := 3) (b := 1) (k := e1.toInt) (j := e1) (by simp [own_f]) (by first | rfl | simp [own_e]) R1
    have R3 := own_ofA Hf (e := (own_e e0 e1 e2 e3)) (n := 2) (a := 0) (b := 2) (k := e2.toInt) (j := e2) (by simp [own_f]) (by first | rfl | simp [own_e]) R2
    have R4 := own_ofA Hf (e := (own_e e0 e1 e2 e3)) (n := 3) (a := 1) (b := 3) (k := e3.toInt) (j := e3) (by simp [own_f]) (by first | rfl | simp [own_e]) R3
    obtain ⟨z0, z1, z2, z3⟩ := own_net_2301 e0.toInt64 e1.toInt64 e2.toInt64 e3.toInt64 (by omega) (by omega) (by omega)
    have o0 : of 0 = e2 := (hof 0 (by decide)).trans ((own_st_rel Hf (by decide) R4 (4 - 1 - 0) (by decide) 0 (by decide)).2.trans ((congrArg (own_e e0 e1 e2 e3) (show _ = (2 : Int32) from by decide +kernel)).trans (by first | rfl | simp [own_e])))
    have o1 : of 1 = e3 := (hof 1 (by decide)).trans ((own_st_rel Hf (by decide) R4 (4 - 1 - 1) (by decide) 0 (by decide)).2.trans ((congrArg (own_e e0 e1 e2 e3) (show _ = (3 : Int32) from by decide +kernel)).trans (by first | rfl | simp [own_e])))
    have o2 : of 2 = e0 := (hof 2 (by decide)).trans ((own_st_rel Hf (by decide) R4 (4 - 1 - 2) (by decide) 0 (by decide)).2.trans ((congrArg (own_e e0 e1 e2 e3) (show _ = (0 : Int32) from by decide +kernel)).trans (by first | rfl | simp [own_e])))
    have o3 : of 3 = e1 := (hof 3 (by decide)).trans ((own_st_rel Hf (by decide) R4 (4 - 1 - 3) (by decide) 0 (by decide)).2.trans ((congrArg (own_e e0 e1 e2 e3) (show _ = (1 : Int32) from by decide +kernel)).trans (by first | rfl | simp [own_e])))
    exact ⟨(by rw [o0, z0]), (by rw [o1, z1]), (by rw [o2, z2]), (by rw [o3, z3])⟩
  · have Hf := own_fm (v0 := e2.toInt) (v1 := e3.toInt) (v2 := e1.toInt) (v3 := e0.toInt) (by omega) (by omega) (by omega)
    have R0 := own_R0 (own_f e2.toInt e3.toInt e1.toInt e0.toInt) (own_e e0 e1 e2 e3)
    have R1 := own_ofA Hf (e := (own_e e0 e1 e2 e3)) (n := 0) (a := 3) (b := 0) (k := e0.toInt) (j := e0) (by simp [own_f]) (by first | rfl | simp [own_e]) R0
    have R2 := own_ofA Hf (e := (own_e e0 e1 e2 e3)) (n := 1) (a := 2) (b := 1) (k := e1.toInt) (j := e1) (by simp [own_f]) (by first | rfl | simp [own_e]) R1
    have R3 := own_ofA Hf (e := (own_e e0 e1 e2 e3)) (n := 2) (a := 0) (b := 2) (k := e2.toInt) (j := e2) (by simp [own_f]) (by first | rfl | simp [own_e]) R2
    have R4 := own_ofA Hf (e := (own_e e0 e1 e2 e3)) (n := 3) (a := 1) (b := 3) (k := e3.toInt) (j := e3) (by simp [own_f]) (by first | rfl | simp [own_e]) R3
    obtain ⟨z0, z1, z2, z3⟩ := own_net_2310 e0.toInt64 e1.toInt64 e2.toInt64 e3.toInt64 (by omega) (by omega) (by omega)
    have o0 : of 0 = e2 := (hof 0 (by decide)).trans ((own_st_rel Hf (by decide) R4 (4 - 1 - 0) (by decide) 0 (by decide)).2.trans ((congrArg (own_e e0 e1 e2 e3) (show _ = (2 : Int32) from by decide +kernel)).trans (by first | rfl | simp [own_e])))
    have o1 : of 1 = e3 := (hof 1 (by decide)).trans ((own_st_rel Hf (by decide) R4 (4 - 1 - 1) (by decide) 0 (by decide)).2.trans ((congrArg (own_e e0 e1 e2 e3) (show _ = (3 : Int32) from by decide +kernel)).trans (by first | rfl | simp [own_e])))
    have o2 : of 2 = e1 := (hof 2 (by decide)).trans ((own_st_rel Hf (by decide) R4 (4 - 1 - 2) (by decide) 0 (by decide)).2.trans ((congrArg (own_e e0 e1 e2 e3) (show _ = (1 : Int32) from by decide +kernel)).trans (by first | rfl | simp [own_e])))
    have o3 : of 3 = e0 := (hof 3 (by decide)).trans ((own_st_rel Hf (by decide) R4 (4 - 1 - 3) (by decide) 0 (by decide)).2.trans ((congrArg (own_e e0 e1 e2 e3) (show _ = (0 : Int32) from by decide +kernel)).trans (by first | rfl | simp [own_e])))
    exact ⟨(by rw [o0, z0]), (by rw [o1, z1]), (by rw [o2, z2]), (by rw [o3, z3])⟩
  · have Hf := own_fm (v0 := e3.toInt) (v1 := e0.toInt) (v2 := e1.toInt) (v3 := e2.toInt) (by omega) (by omega) (by omega)
    have R0 := own_R0 (own_f e3.toInt e0.toInt e1.toInt e2.toInt) (own_e e0 e1 e2 e3)
    have R1 := own_ofA Hf (e := (own_e e0 e1 e2 e3)) (n := 0) (a := 1) (b := 0) (k := e0.toInt) (j := e0) (by simp [own_f]) (by first | rfl | simp [own_e]) R0
    have R2 := own_ofA Hf (e := (own_e e0 e1 e2 e3)) (n := 1) (a := 2) (b := 1) (k := e1.toInt) (j := e1) (by simp [own_f]) (by first | rfl | simp [own_e]) R1
    have R3 := own_ofA Hf (e := (own_e e0 e1 e2 e3)) (n := 2) (a := 3) (b := 2) (k := e2.toInt) (j := e2) (by simp [own_f]) (by first | rfl | simp [own_e]) R2
    have R4 := own_ofA Hf (e := (own_e e0 e1 e2 e3)) (n := 3) (a := 0) (b := 3) (k := e3.toInt) (j := e3) (by simp [own_f]) (by first | rfl | simp [own_e]) R3
    obtain ⟨z0, z1, z2, z3⟩ := own_net_3012 e0.toInt64 e1.toInt64 e2.toInt64 e3.toInt64 (by omega) (by omega) (by omega)
    have o0 : of 0 = e3 := (hof 0 (by decide)).trans ((own_st_rel Hf (by decide) R4 (4 - 1 - 0) (by decide) 0 (by decide)).2.trans ((congrArg (own_e e0 e1 e2 e3) (show _ = (3 : Int32) from by decide +kernel)).trans (by first | rfl | simp [own_e])))
    have o1 : of 1 = e0 := (hof 1 (by decide)).trans ((own_st_rel Hf (by decide) R4 (4 - 1 - 1) (by decide) 0 (by decide)).2.trans ((congrArg (own_e e0 e1 e2 e3) (show _ = (0 : Int32) from by decide +kernel)).trans (by first | rfl | simp [own_e])))
    have o2 : of 2 = e1 := (hof 2 (by decide)).trans ((own_st_rel Hf (by decide) R4 (4 - 1 - 2) (by decide) 0 (by decide)).2.trans ((congrArg (own_e e0 e1 e2 e3) (show _ = (1 : Int32) from by decide +kernel)).trans (by first | rfl | simp [own_e])))
    have o3 : of 3 = e2 := (hof 3 (by decide)).trans ((own_st_rel Hf (by decide) R4 (4 - 1 - 3) (by decide) 0 (by decide)).2.trans ((congrArg (own_e e0 e1 e2 e3) (show _ = (2 : Int32) from by decide +kernel)).trans (by first | rfl | simp [own_e])))
    exact ⟨(by rw [o0, z0]), (by rw [o1, z1]), (by rw [o2, z2]), (by rw [o3, z3])⟩
  · have Hf := own_fm (v0 := e3.toInt) (v1 := e0.toInt) (v2 := e2.toInt) (v3 := e1.toInt) (by omega) (by omega) (by omega)
    have R0 := own_R0 (own_f e3.toInt e0.toInt e2.toInt e1.toInt) (own_e e0 e1 e2 e3)
    have R1 := own_ofA Hf (e := (own_e e0 e1 e2 e3)) (n := 0) (a := 1) (b := 0) (k := e0.toInt) (j := e0) (by simp [own_f]) (by first | rfl | simp [own_e]) R0
    have R2 := own_ofA Hf (e := (own_e e0 e1 e2 e3)) (n := 1) (a := 3) (b := 1) (k := e1.toInt) (j := e1) (by simp [own_f]) (by first | rfl | simp [own_e]) R1
    have R3 := own_ofA Hf (e := (own_e e0 e1 e2 e3)) (n := 2) (a := 2) (b := 2) (k := e2.toInt) (j := e2) (by simp [own_f]) (by first | rfl | simp [own_e]) R2
    have R4 := own_ofA Hf (e := (own_e e0 e1 e2 e3)) (n := 3) (a := 0) (b := 3) (k := e3.toInt) (j := e3) (by simp [own_f]) (by first | rfl | simp [own_e]) R3
    obtain ⟨z0, z1, z2, z3⟩ := own_net_3021 e0.toInt64 e1.toInt64 e2.toInt64 e3.toInt64 (by omega) (by omega) (by omega)
    have o0 : of 0 = e3 := (hof 0 (by decide)).trans ((own_st_rel Hf (by decide) R4 (4 - 1 - 0) (by decide) 0 (by decide)).2.trans ((congrArg (own_e e0 e1 e2 e3) (show _ = (3 : Int32) from by decide +kernel)).trans (by first | rfl | simp [own_e])))
    have o1 : of 1 = e0 := (hof 1 (by decide)).trans ((own_st_rel Hf (by decide) R4 (4 - 1 - 1) (by decide) 0 (by decide)).2.trans ((congrArg (own_e e0 e1 e2 e3) (show _ = (0 : Int32) from by decide +kernel)).trans (by first | rfl | simp [own_e])))
    have o2 : of 2 = e2 := (hof 2 (by decide)).trans ((own_st_rel Hf (by decide) R4 (4 - 1 - 2) (by decide) 0 (by decide)).2.trans ((congrArg (own_e e0 e1 e2 e3) (show _ = (2 : Int32) from by decide +kernel)).trans (by first | rfl | simp [own_e])))
    have o3 : of 3 = e1 := (hof 3 (by decide)).trans ((own_st_rel Hf (by decide) R4 (4 - 1 - 3) (by decide) 0 (by decide)).2.trans ((congrArg (own_e e0 e1 e2 e3) (show _ = (1 : Int32) from by decide +kernel)).trans (by first | rfl | simp [own_e])))
    exact ⟨(by rw [o0, z0]), (by rw [o1, z1]), (by rw [o2, z2]), (by rw [o3, z3])⟩
  · have Hf := own_fm (v0 := e3.toInt) (v1 := e1.toInt) (v2 := e0.toInt) (v3 := e2.toInt) (by omega) (by omega) (by omega)
    have R0 := own_R0 (own_f e3.toInt e1.toInt e0.toInt e2.toInt) (own_e e0 e1 e2 e3)
    have R1 := own_ofA Hf (e := (own_e e0 e1 e2 e3)) (n := 0) (a := 2) (b := 0) (k := e0.toInt) (j := e0) (by simp [own_f]) (by first | rfl | simp [own_e]) R0
    have R2 := own_ofA Hf (e := (own_e e0 e1 e2 e3)) (n := 1) (a := 1) (b := 1) (k := e1.toInt) (j := e1) (by simp [own_f]) (by first | rfl | simp [own_e]) R1
    have R3 := own_ofA Hf (e := (own_e e0 e1 e2 e3)) (n := 2) (a := 3) (b := 2) (k := e2.toInt) (j := e2) (by simp [own_f]) (by first | rfl | simp [own_e]) R2
    have R4 := own_ofA Hf (e := (own_e e0 e1 e2 e3)) (n := 3) (a := 0) (b := 3) (k := e3.toInt) (j := e3) (by simp [own_f]) (by first | rfl | simp [own_e]) R3
    obtain ⟨z0, z1, z2, z3⟩ := own_net_3102 e0.toInt64 e1.toInt64 e2.toInt64 e3.toInt64 (by omega) (by omega) (by omega)
    have o0 : of 0 = e3 := (hof 0 (by decide)).trans ((own_st_rel Hf (by decide) R4 (4 - 1 - 0) (by decide) 0 (by decide)).2.trans ((congrArg (own_e e0 e1 e2 e3) (show _ = (3 : Int32) from by decide +kernel)).trans (by first | rfl | simp [own_e])))
    have o1 : of 1 = e1 := (hof 1 (by decide)).trans ((own_st_rel Hf (by decide) R4 (4 - 1 - 1) (by decide) 0 (by decide)).2.trans ((congrArg (own_e e0 e1 e2 e3) (show _ = (1 : Int32) from by decide +kernel)).trans (by first | rfl | simp [own_e])))
    have o2 : of 2 = e0 := (hof 2 (by decide)).trans ((own_st_rel Hf (by decide) R4 (4 - 1 - 2) (by decide) 0 (by decide)).2.trans ((congrArg (own_e e0 e1 e2 e3) (show _ = (0 : Int32) from by decide +kernel)).trans (by first | rfl | simp [own_e])))
    have o3 : of 3 = e2 := (hof 3 (by decide)).trans ((own_st_rel Hf (by decide) R4 (4 - 1 - 3) (by decide) 0 (by decide)).2.trans ((congrArg (own_e e0 e1 e2 e3) (show _ = (2 : Int32) from by decide +kernel)).trans (by first | rfl | simp [own_e])))
    exact ⟨(by rw [o0, z0]), (by rw [o1, z1]), (by rw [o2, z2]), (by rw [o3, z3])⟩
  · have Hf := own_fm (v0 := e3.toInt) (v1 := e1.toInt) (v2 := e2.toInt) (v3 := e0.toInt) (by omega) (by omega) (by omega)
    have R0 := own_R0 (own_f e3.toInt e1.toInt e2.toInt e0.toInt) (own_e e0 e1 e2 e3)
    have R1 := own_ofA Hf (e := (own_e e0 e1 e2 e3)) (n := 0) (a := 3) (b := 0) (k := e0.toInt) (j := e0) (by simp [own_f]) (by first | rfl | simp [own_e]) R0
    have R2 := own_ofA Hf (e := (own_e e0 e1 e2 e3)) (n := 1) (a := 1) (b := 1) (k := e1.toInt) (j := e1) (by simp [own_f]) (by first | rfl | simp [own_e]) R1
    have R3 := own_ofA Hf (e := (own_e e0 e1 e2 e3)) (n := 2) (a := 2) (b := 2) (k := e2.toInt) (j := e2) (by simp [own_f]) (by first | rfl | simp [own_e]) R2
    have R4 := own_ofA Hf (e := (own_e e0 e1 e2 e3)) (n := 3) (a := 0) (b := 3) (k := e3.toInt) (j := e3) (by simp [own_f]) (by first | rfl | simp [own_e]) R3
    obtain ⟨z0, z1, z2, z3⟩ := own_net_3120 e0.toInt64 e1.toInt64 e2.toInt64 e3.toInt64 (by omega) (by omega) (by omega)
    have o0 : of 0 = e3 := (hof 0 (by decide)).trans ((own_st_rel Hf (by decide) R4 (4 - 1 - 0) (by decide) 0 (by decide)).2.trans ((congrArg (own_e e0 e1 e2 e3) (show _ = (3 : Int32) from by decide +kernel)).trans (by first | rfl | simp [own_e])))
    have o1 : of 1 = e1 := (hof 1 (by decide)).trans ((own_st_rel Hf (by decide) R4 (4 - 1 - 1) (by decide) 0 (by decide)).2.trans ((congrArg (own_e e0 e1 e2 e3) (show _ = (1 : Int32) from by decide +kernel)).trans (by first | rfl | simp [own_e])))
    have o2 : of 2 = e2 := (hof 2 (by decide)).trans ((own_st_rel Hf (by decide) R4 (4 - 1 - 2) (by decide) 0 (by decide)).2.trans ((congrArg (own_e e0 e1 e2 e3) (show _ = (2 : Int32) from by decide +kernel)).trans (by first | rfl | simp [own_e])))
    have o3 : of 3 = e0 := (hof 3 (by decide)).trans ((own_st_rel Hf (by decide) R4 (4 - 1 - 3) (by decide) 0 (by decide)).2.trans ((congrArg (own_e e0 e1 e2 e3) (show _ = (0 : Int32) from by decide +kernel)).trans (by first | rfl | simp [own_e])))
    exact ⟨(by rw [o0, z0]), (by rw [o1, z1]), (by rw [o2, z2]), (by rw [o3, z3])⟩
  · have Hf := own_fm (v0 := e3.toInt) (v1 := e2.toInt) (v2 := e0.toInt) (v3 := e1.toInt) (by omega) (by omega) (by omega)
    have R0 := own_R0 (own_f e3.toInt e2.toInt e0.toInt e1.toInt) (own_e e0 e1 e2 e3)
    have R1 := own_ofA Hf (e := (own_e e0 e1 e2 e3)) (n := 0) (a := 2) (b := 0) (k := e0.toInt) (j := e0) (by simp [own_f]) (by first | rfl | simp [own_e]) R0
    have R2 := own_ofA Hf (e := (own_e e0 e1 e2 e3)) (n := 1) (a := 3) (b := 1) (k := e1.toInt) (j := e1) (by simp [own_f]) (by first | rfl | simp [own_e]) R1
    have R3 := own_ofA Hf (e := (own_e e0 e1 e2 e3)) (n := 2) (a := 1) (b := 2) (k := e2.toInt) (j := e2) (by simp [own_f]) (by first | rfl | simp [own_e]) R2
    have R4 := own_ofA Hf (e := (own_e e0 e1 e2 e3)) (n := 3) (a := 0) (b := 3) (k := e3.toInt) (j := e3) (by simp [own_f]) (by first | rfl | simp [own_e]) R3
    obtain ⟨z0, z1, z2, z3⟩ := own_net_3201 e0.toInt64 e1.toInt64 e2.toInt64 e3.toInt64 (by omega) (by omega) (by omega)
    have o0 : of 0 = e3 := (hof 0 (by decide)).trans ((own_st_rel Hf (by decide) R4 (4 - 1 - 0) (by decide) 0 (by decide)).2.trans ((congrArg (own_e e0 e1 e2 e3) (show _ = (3 : Int32) from by decide +kernel)).trans (by first | rfl | simp [own_e])))
    have o1 : of 1 = e2 := (hof 1 (by decide)).trans ((own_st_rel Hf (by decide) R4 (4 - 1 - 1) (by decide) 0 (by decide)).2.trans ((congrArg (own_e e0 e1 e2 e3) (show _ = (2 : Int32) from by decide +kernel)).trans (by first | rfl | simp [own_e])))
    have o2 : of 2 = e0 := (hof 2 (by decide)).trans ((own_st_rel Hf (by decide) R4 (4 - 1 - 2) (by decide) 0 (by decide)).2.trans ((congrArg (own_e e0 e1 e2 e3) (show _ = (0 : Int32) from by decide +kernel)).trans (by first | rfl | simp [own_e])))
    have o3 : of 3 = e1 := (hof 3 (by decide)).trans ((own_st_rel Hf (by decide) R4 (4 - 1 - 3) (by decide) 0 (by decide)).2.trans ((congrArg (own_e e0 e1 e2 e3) (show _ = (1 : Int32) from by decide +kernel)).trans (by first | rfl | simp [own_e])))
    exact ⟨(by rw [o0, z0]), (by rw [o1, z1]), (by rw [o2, z2]), (by rw [o3, z3])⟩
  · have Hf := own_fm (v0 := e3.toInt) (v1 := e2.toInt) (v2 := e1.toInt) (v3 := e0.toInt) (by omega) (by omega) (by omega)
    have R0 := own_R0 (own_f e3.toInt e2.toInt e1.toInt e0.toInt) (own_e e0 e1 e2 e3)
    have R1 := own_ofA Hf (e := (own_e e0 e1 e2 e3)) (n := 0) (a := 3) (b := 0) (k := e0.toInt) (j := e0) (by simp [own_f]) (by first | rfl | simp [own_e]) R0
    have R2 := own_ofA Hf (e := (own_e e0 e1 e2 e3)) (n := 1) (a := 2) (b := 1) (k := e1.toInt) (j := e1) (by simp [own_f]) (by first | rfl | simp [own_e]) R1
    have R3 := own_ofA Hf (e := (own_e e0 e1 e2 e3)) (n := 2) (a := 1) (b := 2) (k := e2.toInt) (j := e2) (by simp [own_f]) (by first | rfl | simp [own_e]) R2
    have R4 := own_ofA Hf (e := (own_e e0 e1 e2 e3)) (n := 3) (a := 0) (b := 3) (k := e3.toInt) (j := e3) (by simp [own_f]) (by first | rfl | simp [own_e]) R3
    obtain ⟨z0, z1, z2, z3⟩ := own_net_3210 e0.toInt64 e1.toInt64 e2.toInt64 e3.toInt64 (by omega) (by omega) (by omega)
    have o0 : of 0 = e3 := (hof 0 (by decide)).trans ((own_st_rel Hf (by decide) R4 (4 - 1 - 0) (by decide) 0 (by decide)).2.trans ((congrArg (own_e e0 e1 e2 e3) (show _ = (3 : Int32) from by decide +kernel)).trans (by first | rfl | simp [own_e])))
    have o1 : of 1 = e2 := (hof 1 (by decide)).trans ((own_st_rel Hf (by decide) R4 (4 - 1 - 1) (by decide) 0 (by decide)).2.trans ((congrArg (own_e e0 e1 e2 e3) (show _ = (2 : Int32) from by decide +kernel)).trans (by first | rfl | simp [own_e])))
    have o2 : of 2 = e1 := (hof 2 (by decide)).trans ((own_st_rel Hf (by decide) R4 (4 - 1 - 2) (by decide) 0 (by decide)).2.trans ((congrArg (own_e e0 e1 e2 e3) (show _ = (1 : Int32) from by decide +kernel)).trans (by first | rfl | simp [own_e])))
    have o3 : of 3 = e0 := (hof 3 (by decide)).trans ((own_st_rel Hf (by decide) R4 (4 - 1 - 3) (by decide) 0 (by decide)).2.trans ((congrArg (own_e e0 e1 e2 e3) (show _ = (0 : Int32) from by decide +kernel)).trans (by first | rfl | simp [own_e])))
    exact ⟨(by rw [o0, z0]), (by rw [o1, z1]), (by rw [o2, z2]), (by rw [o3, z3])⟩
theorem tw0 {a0 : Array Value} {Z : State} (hw : ∀ d ∈ tables_1, d.before a0 Z = true) : (Jvm.Cond.classLink "com/example/urnwise/urnwise/sampler/SmallestKeysRemoveAllPinLaw" (7 : Nat) "com/example/urnwise/urnwise/sampler/SmallestKeys").before a0 Z = true := hw _ (List.mem_of_getElem? (i := 0) rfl)
theorem tw1 {a0 : Array Value} {Z : State} (hw : ∀ d ∈ tables_1, d.before a0 Z = true) : (Jvm.Cond.instantiable "com/example/urnwise/urnwise/sampler/SmallestKeys" (4 : Nat)).before a0 Z = true := hw _ (List.mem_of_getElem? (i := 1) rfl)
theorem tw2 {a0 : Array Value} {Z : State} (hw : ∀ d ∈ tables_1, d.before a0 Z = true) : (Jvm.Cond.initialized "com/example/urnwise/urnwise/sampler/SmallestKeys").before a0 Z = true := hw _ (List.mem_of_getElem? (i := 2) rfl)
theorem tw3 {a0 : Array Value} {Z : State} (hw : ∀ d ∈ tables_1, d.before a0 Z = true) : (Jvm.Cond.methodLink "com/example/urnwise/urnwise/sampler/SmallestKeysRemoveAllPinLaw" (9 : Nat) ({ cls := "com/example/urnwise/urnwise/sampler/SmallestKeys", name := "<init>", desc := "(I)V" } : Jvm.MethodName)).before a0 Z = true := hw _ (List.mem_of_getElem? (i := 3) rfl)
theorem tw4 {a0 : Array Value} {Z : State} (hw : ∀ d ∈ tables_1, d.before a0 Z = true) : (Jvm.Cond.instanceMethod ({ cls := "com/example/urnwise/urnwise/sampler/SmallestKeys", name := "<init>", desc := "(I)V" } : Jvm.MethodName)).before a0 Z = true := hw _ (List.mem_of_getElem? (i := 4) rfl)
theorem tw5 {a0 : Array Value} {Z : State} (hw : ∀ d ∈ tables_1, d.before a0 Z = true) : (Jvm.Cond.code ({ cls := "com/example/urnwise/urnwise/sampler/SmallestKeys", name := "<init>", desc := "(I)V" } : Jvm.MethodName) prog_15_method_1_code (2 : Nat) (Option.none : Option Jvm.ClassFile.FieldType)).before a0 Z = true := hw _ (List.mem_of_getElem? (i := 5) rfl)
theorem tw6 {a0 : Array Value} {Z : State} (hw : ∀ d ∈ tables_1, d.before a0 Z = true) : (Jvm.Cond.methodLink "com/example/urnwise/urnwise/sampler/SmallestKeys" (1 : Nat) ({ cls := "java/lang/Object", name := "<init>", desc := "()V" } : Jvm.MethodName)).before a0 Z = true := hw _ (List.mem_of_getElem? (i := 6) rfl)
theorem tw7 {a0 : Array Value} {Z : State} (hw : ∀ d ∈ tables_1, d.before a0 Z = true) : (Jvm.Cond.instanceMethod ({ cls := "java/lang/Object", name := "<init>", desc := "()V" } : Jvm.MethodName)).before a0 Z = true := hw _ (List.mem_of_getElem? (i := 7) rfl)
theorem tw8 {a0 : Array Value} {Z : State} (hw : ∀ d ∈ tables_1, d.before a0 Z = true) : (Jvm.Cond.code ({ cls := "java/lang/Object", name := "<init>", desc := "()V" } : Jvm.MethodName) object_method_1_code (1 : Nat) (Option.none : Option Jvm.ClassFile.FieldType)).before a0 Z = true := hw _ (List.mem_of_getElem? (i := 8) rfl)
theorem tw9 {a0 : Array Value} {Z : State} (hw : ∀ d ∈ tables_1, d.before a0 Z = true) : (Jvm.Cond.fieldLink "com/example/urnwise/urnwise/sampler/SmallestKeys" (7 : Nat) "com/example/urnwise/urnwise/sampler/SmallestKeys" "capacity" "I").before a0 Z = true := hw _ (List.mem_of_getElem? (i := 9) rfl)
theorem tw10 {a0 : Array Value} {Z : State} (hw : ∀ d ∈ tables_1, d.before a0 Z = true) : (Jvm.Cond.laysFinal "com/example/urnwise/urnwise/sampler/SmallestKeys" "com/example/urnwise/urnwise/sampler/SmallestKeys" "capacity" "I").before a0 Z = true := hw _ (List.mem_of_getElem? (i := 10) rfl)
theorem tw11 {a0 : Array Value} {Z : State} (hw : ∀ d ∈ tables_1, d.before a0 Z = true) : (Jvm.Cond.methodLink "com/example/urnwise/urnwise/sampler/SmallestKeys" (13 : Nat) ({ cls := "java/lang/Math", name := "min", desc := "(II)I" } : Jvm.MethodName)).before a0 Z = true := hw _ (List.mem_of_getElem? (i := 11) rfl)
theorem tw12 {a0 : Array Value} {Z : State} (hw : ∀ d ∈ tables_1, d.before a0 Z = true) : (Jvm.Cond.static ({ cls := "java/lang/Math", name := "min", desc := "(II)I" } : Jvm.MethodName)).before a0 Z = true := hw _ (List.mem_of_getElem? (i := 12) rfl)
theorem tw13 {a0 : Array Value} {Z : State} (hw : ∀ d ∈ tables_1, d.before a0 Z = true) : (Jvm.Cond.initialized "java/lang/Math").before a0 Z = true := hw _ (List.mem_of_getElem? (i := 13) rfl)
theorem tw14 {a0 : Array Value} {Z : State} (hw : ∀ d ∈ tables_1, d.before a0 Z = true) : (Jvm.Cond.code ({ cls := "java/lang/Math", name := "min", desc := "(II)I" } : Jvm.MethodName) jdk_29_method_69_code (2 : Nat) (Option.some Jvm.ClassFile.FieldType.int)).before a0 Z = true := hw _ (List.mem_of_getElem? (i := 14) rfl)
theorem tw15 {a0 : Array Value} {Z : State} (hw : ∀ d ∈ tables_1, d.before a0 Z = true) : (Jvm.Cond.arrayClass Jvm.ClassFile.FieldType.double).before a0 Z = true := hw _ (List.mem_of_getElem? (i := 15) rfl)
theorem tw16 {a0 : Array Value} {Z : State} (hw : ∀ d ∈ tables_1, d.before a0 Z = true) : (Jvm.Cond.fieldLink "com/example/urnwise/urnwise/sampler/SmallestKeys" (19 : Nat) "com/example/urnwise/urnwise/sampler/SmallestKeys" "keys" "[D").before a0 Z = true := hw _ (List.mem_of_getElem? (i := 16) rfl)
theorem tw17 {a0 : Array Value} {Z : State} (hw : ∀ d ∈ tables_1, d.before a0 Z = true) : (Jvm.Cond.lays "com/example/urnwise/urnwise/sampler/SmallestKeys" "com/example/urnwise/urnwise/sampler/SmallestKeys" "keys" "[D").before a0 Z = true := hw _ (List.mem_of_getElem? (i := 17) rfl)
theorem tw18 {a0 : Array Value} {Z : State} (hw : ∀ d ∈ tables_1, d.before a0 Z = true) : (Jvm.Cond.arrayClass Jvm.ClassFile.FieldType.int).before a0 Z = true := hw _ (List.mem_of_getElem? (i := 18) rfl)
theorem tw19 {a0 : Array Value} {Z : State} (hw : ∀ d ∈ tables_1, d.before a0 Z = true) : (Jvm.Cond.fieldLink "com/example/urnwise/urnwise/sampler/SmallestKeys" (23 : Nat) "com/example/urnwise/urnwise/sampler/SmallestKeys" "indices" "[I").before a0 Z = true := hw _ (List.mem_of_getElem? (i := 19) rfl)
theorem tw20 {a0 : Array Value} {Z : State} (hw : ∀ d ∈ tables_1, d.before a0 Z = true) : (Jvm.Cond.lays "com/example/urnwise/urnwise/sampler/SmallestKeys" "com/example/urnwise/urnwise/sampler/SmallestKeys" "indices" "[I").before a0 Z = true := hw _ (List.mem_of_getElem? (i := 20) rfl)
theorem tw21 {a0 : Array Value} {Z : State} (hw : ∀ d ∈ tables_1, d.before a0 Z = true) : (Jvm.Cond.methodLink "com/example/urnwise/urnwise/sampler/SmallestKeysRemoveAllPinLaw" (16 : Nat) ({ cls := "com/example/urnwise/urnwise/sampler/SmallestKeys", name := "removeAll", desc := "()[I" } : Jvm.MethodName)).before a0 Z = true := hw _ (List.mem_of_getElem? (i := 21) rfl)
theorem tw22 {a0 : Array Value} {Z : State} (hw : ∀ d ∈ tables_1, d.before a0 Z = true) : (Jvm.Cond.declares ({ cls := "com/example/urnwise/urnwise/sampler/SmallestKeys", name := "removeAll", desc := "()[I" } : Jvm.MethodName)).before a0 Z = true := hw _ (List.mem_of_getElem? (i := 22) rfl)
theorem tw23 {a0 : Array Value} {Z : State} (hw : ∀ d ∈ tables_1, d.before a0 Z = true) : (Jvm.Cond.instanceMethod ({ cls := "com/example/urnwise/urnwise/sampler/SmallestKeys", name := "removeAll", desc := "()[I" } : Jvm.MethodName)).before a0 Z = true := hw _ (List.mem_of_getElem? (i := 23) rfl)
theorem tw24 {a0 : Array Value} {Z : State} (hw : ∀ d ∈ tables_1, d.before a0 Z = true) : (Jvm.Cond.selects "com/example/urnwise/urnwise/sampler/SmallestKeys" ({ cls := "com/example/urnwise/urnwise/sampler/SmallestKeys", name := "removeAll", desc := "()[I" } : Jvm.MethodName) ({ cls := "com/example/urnwise/urnwise/sampler/SmallestKeys", name := "removeAll", desc := "()[I" } : Jvm.MethodName)).before a0 Z = true := hw _ (List.mem_of_getElem? (i := 24) rfl)
theorem tw25 {a0 : Array Value} {Z : State} (hw : ∀ d ∈ tables_1, d.before a0 Z = true) : (Jvm.Cond.code ({ cls := "com/example/urnwise/urnwise/sampler/SmallestKeys", name := "removeAll", desc := "()[I" } : Jvm.MethodName) prog_15_method_7_code (3 : Nat) (Option.some (Jvm.ClassFile.FieldType.array Jvm.ClassFile.FieldType.int))).before a0 Z = true := hw _ (List.mem_of_getElem? (i := 25) rfl)
theorem tw26 {a0 : Array Value} {Z : State} (hw : ∀ d ∈ tables_1, d.before a0 Z = true) : (Jvm.Cond.fieldLink "com/example/urnwise/urnwise/sampler/SmallestKeys" (27 : Nat) "com/example/urnwise/urnwise/sampler/SmallestKeys" "size" "I").before a0 Z = true := hw _ (List.mem_of_getElem? (i := 26) rfl)
theorem tw27 {a0 : Array Value} {Z : State} (hw : ∀ d ∈ tables_1, d.before a0 Z = true) : (Jvm.Cond.lays "com/example/urnwise/urnwise/sampler/SmallestKeys" "com/example/urnwise/urnwise/sampler/SmallestKeys" "size" "I").before a0 Z = true := hw _ (List.mem_of_getElem? (i := 27) rfl)
theorem tw28 {a0 : Array Value} {Z : State} (hw : ∀ d ∈ tables_1, d.before a0 Z = true) : (Jvm.Cond.constantLong "com/example/urnwise/urnwise/sampler/SmallestKeysRemoveAllPinLaw" (22 : Nat) (9223372036854775807 : Int64)).before a0 Z = true := hw _ (List.mem_of_getElem? (i := 28) rfl)
theorem tw29 {a0 : Array Value} {Z : State} (hw : ∀ d ∈ tables_1, d.before a0 Z = true) : (Jvm.Cond.methodLink "com/example/urnwise/urnwise/sampler/SmallestKeysRemoveAllPinLaw" (24 : Nat) ({ cls := "java/lang/Math", name := "min", desc := "(JJ)J" } : Jvm.MethodName)).before a0 Z = true := hw _ (List.mem_of_getElem? (i := 29) rfl)
theorem tw30 {a0 : Array Value} {Z : State} (hw : ∀ d ∈ tables_1, d.before a0 Z = true) : (Jvm.Cond.static ({ cls := "java/lang/Math", name := "min", desc := "(JJ)J" } : Jvm.MethodName)).before a0 Z = true := hw _ (List.mem_of_getElem? (i := 30) rfl)
theorem tw31 {a0 : Array Value} {Z : State} (hw : ∀ d ∈ tables_1, d.before a0 Z = true) : (Jvm.Cond.code ({ cls := "java/lang/Math", name := "min", desc := "(JJ)J" } : Jvm.MethodName) jdk_29_method_70_code (4 : Nat) (Option.some Jvm.ClassFile.FieldType.long)).before a0 Z = true := hw _ (List.mem_of_getElem? (i := 31) rfl)
theorem tw32 {a0 : Array Value} {Z : State} (hw : ∀ d ∈ tables_1, d.before a0 Z = true) : (Jvm.Cond.methodLink "com/example/urnwise/urnwise/sampler/SmallestKeysRemoveAllPinLaw" (30 : Nat) ({ cls := "java/lang/Math", name := "max", desc := "(JJ)J" } : Jvm.MethodName)).before a0 Z = true := hw _ (List.mem_of_getElem? (i := 32) rfl)
theorem tw33 {a0 : Array Value} {Z : State} (hw : ∀ d ∈ tables_1, d.before a0 Z = true) : (Jvm.Cond.static ({ cls := "java/lang/Math", name := "max", desc := "(JJ)J" } : Jvm.MethodName)).before a0 Z = true := hw _ (List.mem_of_getElem? (i := 33) rfl)
theorem tw34 {a0 : Array Value} {Z : State} (hw : ∀ d ∈ tables_1, d.before a0 Z = true) : (Jvm.Cond.code ({ cls := "java/lang/Math", name := "max", desc := "(JJ)J" } : Jvm.MethodName) jdk_29_method_66_code (4 : Nat) (Option.some Jvm.ClassFile.FieldType.long)).before a0 Z = true := hw _ (List.mem_of_getElem? (i := 34) rfl)
theorem tw35 {a0 : Array Value} {Z : State} (hw : ∀ d ∈ tables_1, d.before a0 Z = true) : (Jvm.Cond.methodLink "com/example/urnwise/urnwise/sampler/SmallestKeysRemoveAllPinLaw" (33 : Nat) ({ cls := "java/lang/Math", name := "min", desc := "(II)I" } : Jvm.MethodName)).before a0 Z = true := hw _ (List.mem_of_getElem? (i := 35) rfl)
theorem tw36 {a0 : Array Value} {Z : State} (hw : ∀ d ∈ tables_1, d.before a0 Z = true) : (Jvm.Cond.methodLink "com/example/urnwise/urnwise/sampler/SmallestKeysRemoveAllPinLaw" (36 : Nat) ({ cls := "com/example/urnwise/urnwise/sampler/SmallestKeys", name := "size", desc := "()I" } : Jvm.MethodName)).before a0 Z = true := hw _ (List.mem_of_getElem? (i := 36) rfl)
theorem tw37 {a0 : Array Value} {Z : State} (hw : ∀ d ∈ tables_1, d.before a0 Z = true) : (Jvm.Cond.declares ({ cls := "com/example/urnwise/urnwise/sampler/SmallestKeys", name := "size", desc := "()I" } : Jvm.MethodName)).before a0 Z = true := hw _ (List.mem_of_getElem? (i := 37) rfl)
theorem tw38 {a0 : Array Value} {Z : State} (hw : ∀ d ∈ tables_1, d.before a0 Z = true) : (Jvm.Cond.instanceMethod ({ cls := "com/example/urnwise/urnwise/sampler/SmallestKeys", name := "size", desc := "()I" } : Jvm.MethodName)).before a0 Z = true := hw _ (List.mem_of_getElem? (i := 38) rfl)
theorem tw39 {a0 : Array Value} {Z : State} (hw : ∀ d ∈ tables_1, d.before a0 Z = true) : (Jvm.Cond.selects "com/example/urnwise/urnwise/sampler/SmallestKeys" ({ cls := "com/example/urnwise/urnwise/sampler/SmallestKeys", name := "size", desc := "()I" } : Jvm.MethodName) ({ cls := "com/example/urnwise/urnwise/sampler/SmallestKeys", name := "size", desc := "()I" } : Jvm.MethodName)).before a0 Z = true := hw _ (List.mem_of_getElem? (i := 39) rfl)
theorem tw40 {a0 : Array Value} {Z : State} (hw : ∀ d ∈ tables_1, d.before a0 Z = true) : (Jvm.Cond.code ({ cls := "com/example/urnwise/urnwise/sampler/SmallestKeys", name := "size", desc := "()I" } : Jvm.MethodName) prog_15_method_3_code (1 : Nat) (Option.some Jvm.ClassFile.FieldType.int)).before a0 Z = true := hw _ (List.mem_of_getElem? (i := 40) rfl)
theorem tw41 {a0 : Array Value} {Z : State} (hw : ∀ d ∈ tables_1, d.before a0 Z = true) : (Jvm.Cond.methodLink "com/example/urnwise/urnwise/sampler/SmallestKeysRemoveAllPinLaw" (12 : Nat) ({ cls := "com/example/urnwise/urnwise/sampler/SmallestKeys", name := "offer", desc := "(DI)V" } : Jvm.MethodName)).before a0 Z = true := hw _ (List.mem_of_getElem? (i := 41) rfl)
theorem tw42 {a0 : Array Value} {Z : State} (hw : ∀ d ∈ tables_1, d.before a0 Z = true) : (Jvm.Cond.declares ({ cls := "com/example/urnwise/urnwise/sampler/SmallestKeys", name := "offer", desc := "(DI)V" } : Jvm.MethodName)).before a0 Z = true := hw _ (List.mem_of_getElem? (i := 42) rfl)
theorem tw43 {a0 : Array Value} {Z : State} (hw : ∀ d ∈ tables_1, d.before a0 Z = true) : (Jvm.Cond.instanceMethod ({ cls := "com/example/urnwise/urnwise/sampler/SmallestKeys", name := "offer", desc := "(DI)V" } : Jvm.MethodName)).before a0 Z = true := hw _ (List.mem_of_getElem? (i := 43) rfl)
theorem tw44 {a0 : Array Value} {Z : State} (hw : ∀ d ∈ tables_1, d.before a0 Z = true) : (Jvm.Cond.selects "com/example/urnwise/urnwise/sampler/SmallestKeys" ({ cls := "com/example/urnwise/urnwise/sampler/SmallestKeys", name := "offer", desc := "(DI)V" } : Jvm.MethodName) ({ cls := "com/example/urnwise/urnwise/sampler/SmallestKeys", name := "offer", desc := "(DI)V" } : Jvm.MethodName)).before a0 Z = true := hw _ (List.mem_of_getElem? (i := 44) rfl)
theorem tw45 {a0 : Array Value} {Z : State} (hw : ∀ d ∈ tables_1, d.before a0 Z = true) : (Jvm.Cond.code ({ cls := "com/example/urnwise/urnwise/sampler/SmallestKeys", name := "offer", desc := "(DI)V" } : Jvm.MethodName) prog_15_method_2_code (4 : Nat) (Option.none : Option Jvm.ClassFile.FieldType)).before a0 Z = true := hw _ (List.mem_of_getElem? (i := 45) rfl)
theorem tw46 {a0 : Array Value} {Z : State} (hw : ∀ d ∈ tables_1, d.before a0 Z = true) : (Jvm.Cond.methodLink "com/example/urnwise/urnwise/sampler/SmallestKeys" (33 : Nat) ({ cls := "com/example/urnwise/urnwise/sampler/SmallestKeys", name := "siftUp", desc := "(IDI)V" } : Jvm.MethodName)).before a0 Z = true := hw _ (List.mem_of_getElem? (i := 46) rfl)
theorem tw47 {a0 : Array Value} {Z : State} (hw : ∀ d ∈ tables_1, d.before a0 Z = true) : (Jvm.Cond.instanceMethod ({ cls := "com/example/urnwise/urnwise/sampler/SmallestKeys", name := "siftUp", desc := "(IDI)V" } : Jvm.MethodName)).before a0 Z = true := hw _ (List.mem_of_getElem? (i := 47) rfl)
theorem tw48 {a0 : Array Value} {Z : State} (hw : ∀ d ∈ tables_1, d.before a0 Z = true) : (Jvm.Cond.privateMethod ({ cls := "com/example/urnwise/urnwise/sampler/SmallestKeys", name := "siftUp", desc := "(IDI)V" } : Jvm.MethodName)).before a0 Z = true := hw _ (List.mem_of_getElem? (i := 48) rfl)
theorem tw49 {a0 : Array Value} {Z : State} (hw : ∀ d ∈ tables_1, d.before a0 Z = true) : (Jvm.Cond.code ({ cls := "com/example/urnwise/urnwise/sampler/SmallestKeys", name := "siftUp", desc := "(IDI)V" } : Jvm.MethodName) prog_15_method_11_code (6 : Nat) (Option.none : Option Jvm.ClassFile.FieldType)).before a0 Z = true := hw _ (List.mem_of_getElem? (i := 49) rfl)
theorem tw50 {a0 : Array Value} {Z : State} (hw : ∀ d ∈ tables_1, d.before a0 Z = true) : (Jvm.Cond.methodLink "com/example/urnwise/urnwise/sampler/SmallestKeys" (37 : Nat) ({ cls := "com/example/urnwise/urnwise/sampler/SmallestKeys", name := "siftDown", desc := "(IDI)V" } : Jvm.MethodName)).before a0 Z = true := hw _ (List.mem_of_getElem? (i := 50) rfl)
theorem tw51 {a0 : Array Value} {Z : State} (hw : ∀ d ∈ tables_1, d.before a0 Z = true) : (Jvm.Cond.instanceMethod ({ cls := "com/example/urnwise/urnwise/sampler/SmallestKeys", name := "siftDown", desc := "(IDI)V" } : Jvm.MethodName)).before a0 Z = true := hw _ (List.mem_of_getElem? (i := 51) rfl)
theorem tw52 {a0 : Array Value} {Z : State} (hw : ∀ d ∈ tables_1, d.before a0 Z = true) : (Jvm.Cond.privateMethod ({ cls := "com/example/urnwise/urnwise/sampler/SmallestKeys", name := "siftDown", desc := "(IDI)V" } : Jvm.MethodName)).before a0 Z = true := hw _ (List.mem_of_getElem? (i := 52) rfl)
theorem tw53 {a0 : Array Value} {Z : State} (hw : ∀ d ∈ tables_1, d.before a0 Z = true) : (Jvm.Cond.code ({ cls := "com/example/urnwise/urnwise/sampler/SmallestKeys", name := "siftDown", desc := "(IDI)V" } : Jvm.MethodName) prog_15_method_10_code (6 : Nat) (Option.none : Option Jvm.ClassFile.FieldType)).before a0 Z = true := hw _ (List.mem_of_getElem? (i := 53) rfl)
theorem tw54 {a0 : Array Value} {Z : State} (hw : ∀ d ∈ tables_1, d.before a0 Z = true) : (Jvm.Cond.methodLink "com/example/urnwise/urnwise/sampler/SmallestKeys" (40 : Nat) ({ cls := "com/example/urnwise/urnwise/sampler/SmallestKeys", name := "removeLargest", desc := "()I" } : Jvm.MethodName)).before a0 Z = true := hw _ (List.mem_of_getElem? (i := 54) rfl)
theorem tw55 {a0 : Array Value} {Z : State} (hw : ∀ d ∈ tables_1, d.before a0 Z = true) : (Jvm.Cond.instanceMethod ({ cls := "com/example/urnwise/urnwise/sampler/SmallestKeys", name := "removeLargest", desc := "()I" } : Jvm.MethodName)).before a0 Z = true := hw _ (List.mem_of_getElem? (i := 55) rfl)
theorem tw56 {a0 : Array Value} {Z : State} (hw : ∀ d ∈ tables_1, d.before a0 Z = true) : (Jvm.Cond.privateMethod ({ cls := "com/example/urnwise/urnwise/sampler/SmallestKeys", name := "removeLargest", desc := "()I" } : Jvm.MethodName)).before a0 Z = true := hw _ (List.mem_of_getElem? (i := 56) rfl)
theorem tw57 {a0 : Array Value} {Z : State} (hw : ∀ d ∈ tables_1, d.before a0 Z = true) : (Jvm.Cond.code ({ cls := "com/example/urnwise/urnwise/sampler/SmallestKeys", name := "removeLargest", desc := "()I" } : Jvm.MethodName) prog_15_method_8_code (2 : Nat) (Option.some Jvm.ClassFile.FieldType.int)).before a0 Z = true := hw _ (List.mem_of_getElem? (i := 57) rfl)
theorem pn_0 : plainName "com/example/urnwise/urnwise/sampler/SmallestKeys" = true := by first | (simp [plainName, overriddenIn]; done) | decide +kernel
theorem pd_0 : parseMethodDescriptor "(IDI)V" = some ⟨[.int, .double, .int], none⟩ := by decide +kernel
theorem pd_1 : parseMethodDescriptor "(II)I" = some ⟨[.int, .int], some .int⟩ := by decide +kernel
theorem pd_2 : parseMethodDescriptor "()I" = some ⟨[], some .int⟩ := by decide +kernel
theorem pd_3 : parseMethodDescriptor "(JJ)J" = some ⟨[.long, .long], some .long⟩ := by decide +kernel
theorem pd_4 : parseMethodDescriptor "(I)V" = some ⟨[.int], none⟩ := by decide +kernel
theorem pd_5 : parseMethodDescriptor "()[I" = some ⟨[], some (.array .int)⟩ := by decide +kernel
theorem pd_6 : parseMethodDescriptor "(DI)V" = some ⟨[.double, .int], none⟩ := by decide +kernel
theorem pn_1 : plainName "com/example/urnwise/urnwise/sampler/SmallestKeysRemoveAllPinLaw" = true := by first | (simp [plainName, overriddenIn]; done) | decide +kernel
theorem ef_min (m : MethodId) (x0 : Int32) (x1 : Int32) : entryFrame m #[(.int x0), (.int x1)] 2 = mkF m 0 #[.val (.int x0), .val (.int x1)] [] := by first | (simp [entryFrame, mkF, argsToLocals, Value.category]; done) | rfl
theorem d_min_0 : decode jdk_29_method_69_code 0 = .ok (.iload_n 0, 1) := by decide +kernel
theorem d_min_1 : decode jdk_29_method_69_code 1 = .ok (.iload_n 1, 1) := by decide +kernel
theorem d_min_2 : decode jdk_29_method_69_code 2 = .ok (.if_icmp .gt 7, 3) := by decide +kernel
theorem d_min_5 : decode jdk_29_method_69_code 5 = .ok (.iload_n 0, 1) := by decide +kernel
theorem d_min_6 : decode jdk_29_method_69_code 6 = .ok (.goto 4, 3) := by decide +kernel
theorem d_min_9 : decode jdk_29_method_69_code 9 = .ok (.iload_n 1, 1) := by decide +kernel
theorem d_min_10 : decode jdk_29_method_69_code 10 = .ok (.ireturn, 1) := by decide +kernel
set_option maxRecDepth 65536 in
set_option maxHeartbeats 4000000 in
theorem m_min (l : Launch) (Z : State) (a0 : Array Value) (hw : ∀ d ∈ tables_1, d.before a0 Z = true) (p0 p1 : Int32) (h0 : Heap)  :
    OMet l (⟨"java/lang/Math", "min", "(II)I"⟩ : MethodName) jdk_29_method_69_code 2 (Option.some FieldType.int) [] ({ frames := 0, cells := 0, slots := 0, locals := 0 } : Room) Z h0 [] #[(.int p0), (.int p1)] (fun v h' => v = some (.int (if p1 < p0 then p1 else p0)) ∧ h0 = h') := by
  refine OMet.of (own := "java/lang/Math") (nm := "min") (Jvm.Free.JP.mathPlain rfl (by decide +kernel)) rfl rfl ?_
  intro p e s m below meth c T0 P0 hby hml hret hnm
  refine Done.step (T' := T0) (g' := (mkF m 0 #[.val (.int p0), .val (.int p1)] [])) (fun t kk => castTop (ef_min m p0 p1) kk) ?_
  refine Done.stepL (pc' := 10) (st' := [(.int (if p1 < p0 then p1 else p0))]) (fun t kk => ?_) ?_
  · show Steps p.tables e below (T0.setTop (mkF m 0 _ [])) t
    refine XS.iloadN P0.here P0.x rfl (hb hby d_min_0) rfl ?_
    show Steps p.tables e below (T0.setTop (mkF m 1 _ [(.int p0)])) t
    refine XS.iloadN P0.here P0.x rfl (hb hby d_min_1) rfl ?_
    show Steps p.tables e below (T0.setTop (mkF m 2 _ [(.int p1), (.int p0)])) t
    suffices kk2 : Steps p.tables e below (T0.setTop (mkF m 10 #[.val (.int p0), .val (.int p1)] [(.int (if p1 < p0 then p1 else p0))])) t by
      by_cases hc1 : p1 < p0
      · skip
        replace kk2 := Eq.mp (congrArg (fun z_ : Int32 => Steps p.tables e below (T0.setTop (mkF m 10 #[.val (.int p0), .val (.int p1)] [(.int z_)])) t) (show (if p1 < p0 then p1 else p0) = p1 from if_pos hc1)) kk2
        show Steps p.tables e below (T0.setTop (mkF m 2 _ [(.int p1), (.int p0)])) t
        refine XS.icmpYes P0.here P0.x rfl (pc0 := 2) (pc' := 9) rfl (hb hby d_min_2) rfl (iiW_gt_t hc1) (by decide) (by decide) ?_
        show Steps p.tables e below (T0.setTop (mkF m 9 _ [])) t
        refine XS.iloadN P0.here P0.x rfl (hb hby d_min_9) rfl ?_
        exact kk2
      · skip
        replace kk2 := Eq.mp (congrArg (fun z_ : Int32 => Steps p.tables e below (T0.setTop (mkF m 10 #[.val (.int p0), .val (.int p1)] [(.int z_)])) t) (show (if p1 < p0 then p1 else p0) = p0 from if_neg hc1)) kk2
        show Steps p.tables e below (T0.setTop (mkF m 2 _ [(.int p1), (.int p0)])) t
        refine XS.icmpNo P0.here P0.x rfl (hb hby d_min_2) rfl (iiW_gt_f hc1) ?_
        show Steps p.tables e below (T0.setTop (mkF m 5 _ [])) t
        refine XS.iloadN P0.here P0.x rfl (hb hby d_min_5) rfl ?_
        show Steps p.tables e below (T0.setTop (mkF m 6 _ [(.int p0)])) t
        refine XS.goto P0.here P0.x rfl (pc0 := 6) (pc' := 10) rfl (hb hby d_min_6) (by decide) (by decide) ?_
        exact kk2
    exact kk
  exact wRetI P0 hret (hb hby d_min_10) ⟨rfl, rfl⟩
theorem ef_up (m : MethodId) (x0 : Addr) (x1 : Int32) (x2 : UInt64) (x3 : Int32) : entryFrame m #[(.ref x0), (.int x1), (.double x2), (.int x3)] 6 = mkF m 0 #[.val (.ref x0), .val (.int x1), .val (.double x2), .second, .val (.int x3), .unset] [] := by first | (simp [entryFrame, mkF, argsToLocals, Value.category]; done) | rfl
theorem d_up_58 : decode prog_15_method_11_code 58 = .ok (.aload_n 0, 1) := by decide +kernel
theorem d_up_59 : decode prog_15_method_11_code 59 = .ok (.getfield 19, 3) := by decide +kernel
theorem d_up_62 : decode prog_15_method_11_code 62 = .ok (.iload_n 1, 1) := by decide +kernel
theorem d_up_63 : decode prog_15_method_11_code 63 = .ok (.dload_n 2, 1) := by decide +kernel
theorem d_up_64 : decode prog_15_method_11_code 64 = .ok (.dastore, 1) := by decide +kernel
theorem d_up_65 : decode prog_15_method_11_code 65 = .ok (.aload_n 0, 1) := by decide +kernel
theorem d_up_66 : decode prog_15_method_11_code 66 = .ok (.getfield 23, 3) := by decide +kernel
theorem d_up_69 : decode prog_15_method_11_code 69 = .ok (.iload_n 1, 1) := by decide +kernel
theorem d_up_70 : decode prog_15_method_11_code 70 = .ok (.iload 4, 2) := by decide +kernel
theorem d_up_72 : decode prog_15_method_11_code 72 = .ok (.iastore, 1) := by decide +kernel
theorem d_up_73 : decode prog_15_method_11_code 73 = .ok (.return_, 1) := by decide +kernel
theorem d_up_0 : decode prog_15_method_11_code 0 = .ok (.iload_n 1, 1) := by decide +kernel
theorem d_up_1 : decode prog_15_method_11_code 1 = .ok (.ifCond .le 57, 3) := by decide +kernel
theorem d_up_4 : decode prog_15_method_11_code 4 = .ok (.iload_n 1, 1) := by decide +kernel
theorem d_up_5 : decode prog_15_method_11_code 5 = .ok (.iconst 1, 1) := by decide +kernel
theorem d_up_6 : decode prog_15_method_11_code 6 = .ok (.isub, 1) := by decide +kernel
theorem d_up_7 : decode prog_15_method_11_code 7 = .ok (.iconst 2, 1) := by decide +kernel
theorem d_up_8 : decode prog_15_method_11_code 8 = .ok (.idiv, 1) := by decide +kernel
theorem os_up_9_18 {y0 : Addr} {y1 : Int32} {y2 : UInt64} {y4 : Int32} {y5 : Slot} {yy : Int32} (h : One y5) : storeLocals #[.val (.ref y0), .val (.int y1), .val (.double y2), .second, .val (.int y4), y5] 5 (.int yy) = some #[.val (.ref y0), .val (.int y1), .val (.double y2), .second, .val (.int y4), .val (.int yy)] := by
  rcases h with rfl | ⟨w, rfl, hw⟩
  · rfl
  · cases w <;> first | rfl | (simp [Value.category] at hw)
theorem d_up_9 : decode prog_15_method_11_code 9 = .ok (.istore 5, 2) := by decide +kernel
theorem d_up_11 : decode prog_15_method_11_code 11 = .ok (.aload_n 0, 1) := by decide +kernel
theorem d_up_12 : decode prog_15_method_11_code 12 = .ok (.getfield 19, 3) := by decide +kernel
theorem d_up_15 : decode prog_15_method_11_code 15 = .ok (.iload 5, 2) := by decide +kernel
theorem d_up_17 : decode prog_15_method_11_code 17 = .ok (.daload, 1) := by decide +kernel
theorem d_up_18 : decode prog_15_method_11_code 18 = .ok (.dload_n 2, 1) := by decide +kernel
theorem d_up_19 : decode prog_15_method_11_code 19 = .ok (.dcmp .l, 1) := by decide +kernel
theorem d_up_20 : decode prog_15_method_11_code 20 = .ok (.ifCond .lt 6, 3) := by decide +kernel
theorem d_up_26 : decode prog_15_method_11_code 26 = .ok (.aload_n 0, 1) := by decide +kernel
theorem d_up_27 : decode prog_15_method_11_code 27 = .ok (.getfield 19, 3) := by decide +kernel
theorem d_up_30 : decode prog_15_method_11_code 30 = .ok (.iload_n 1, 1) := by decide +kernel
theorem d_up_31 : decode prog_15_method_11_code 31 = .ok (.aload_n 0, 1) := by decide +kernel
theorem d_up_32 : decode prog_15_method_11_code 32 = .ok (.getfield 19, 3) := by decide +kernel
theorem d_up_35 : decode prog_15_method_11_code 35 = .ok (.iload 5, 2) := by decide +kernel
theorem d_up_37 : decode prog_15_method_11_code 37 = .ok (.daload, 1) := by decide +kernel
theorem d_up_38 : decode prog_15_method_11_code 38 = .ok (.dastore, 1) := by decide +kernel
theorem d_up_39 : decode prog_15_method_11_code 39 = .ok (.aload_n 0, 1) := by decide +kernel
theorem d_up_40 : decode prog_15_method_11_code 40 = .ok (.getfield 23, 3) := by decide +kernel
theorem d_up_43 : decode prog_15_method_11_code 43 = .ok (.iload_n 1, 1) := by decide +kernel
theorem d_up_44 : decode prog_15_method_11_code 44 = .ok (.aload_n 0, 1) := by decide +kernel
theorem d_up_45 : decode prog_15_method_11_code 45 = .ok (.getfield 23, 3) := by decide +kernel
theorem d_up_48 : decode prog_15_method_11_code 48 = .ok (.iload 5, 2) := by decide +kernel
theorem d_up_50 : decode prog_15_method_11_code 50 = .ok (.iaload, 1) := by decide +kernel
theorem d_up_51 : decode prog_15_method_11_code 51 = .ok (.iastore, 1) := by decide +kernel
theorem d_up_52 : decode prog_15_method_11_code 52 = .ok (.iload 5, 2) := by decide +kernel
theorem d_up_54 : decode prog_15_method_11_code 54 = .ok (.istore_n 1, 1) := by decide +kernel
theorem d_up_55 : decode prog_15_method_11_code 55 = .ok (.goto (-55), 3) := by decide +kernel
theorem d_up_23 : decode prog_15_method_11_code 23 = .ok (.goto 35, 3) := by decide +kernel
set_option maxRecDepth 65536 in
set_option maxHeartbeats 4000000 in
theorem m_up (l : Launch) (Z : State) (a0 : Array Value) (hw : ∀ d ∈ tables_1, d.before a0 Z = true) (a kb ib : Addr) (sv : Int32) (N n : Nat) (kf : Nat → UInt64) (K : Nat → Int) (J : Nat → Int32) (pv0 : Int32) (x : UInt64) (iv : Int32) (p0 : Nat) (kv : Int) (h0 : Heap) (E0 : Exa Z h0 a "com/example/urnwise/urnwise/sampler/SmallestKeys") (Fk : Fld Z h0 a "com/example/urnwise/urnwise/sampler/SmallestKeys" "keys" "[D" (.ref kb)) (Fi : Fld Z h0 a "com/example/urnwise/urnwise/sampler/SmallestKeys" "indices" "[I" (.ref ib)) (Fs : Fld Z h0 a "com/example/urnwise/urnwise/sampler/SmallestKeys" "size" "I" (.int sv)) (Ak : Ar Z h0 kb .double N (fun i => .double (kf i))) (Ai : Ar Z h0 ib .int N (fun i => .int (J i))) (n1 : a ≠ kb) (n2 : a ≠ ib) (n3 : kb ≠ ib) (hN : N ≤ 16) (hsv : sv.toInt = (n : Int)) (dK : ∀ i, i < N → DInt (K i) (kf i)) (dx : DInt kv x) (hp0 : pv0.toInt = (p0 : Int)) (hpN : p0 < N) :
    OMet l (⟨"com/example/urnwise/urnwise/sampler/SmallestKeys", "siftUp", "(IDI)V"⟩ : MethodName) prog_15_method_11_code 6 (Option.none : Option FieldType) [] ({ frames := 0, cells := 0, slots := 0, locals := 0 } : Room) Z h0 [kb, ib] #[(.ref a), (.int pv0), (.double x), (.int iv)] (fun v h' => v = none ∧ ∃ kf' : Nat → UInt64, Ar Z h' kb .double N (fun i => .double (kf' i)) ∧ (∀ i, i < N → DInt ((own_up p0 K J p0 kv iv).1 i) (kf' i)) ∧ Ar Z h' ib .int N (fun i => .int (((own_up p0 K J p0 kv iv).2) i))) := by
  refine OMet.of (own := "com/example/urnwise/urnwise/sampler/SmallestKeys") (nm := "siftUp") (plainFor_of_name pn_0) rfl rfl ?_
  intro p e s m below meth c T0 P0 hby hml hret hnm
  refine Done.step (T' := T0) (g' := (mkF m 0 #[.val (.ref a), .val (.int pv0), .val (.double x), .second, .val (.int iv), .unset] [])) (fun t kk => castTop (ef_up m a pv0 x iv) kk) ?_
  have ltk := Ak.ltN
  have lti := Ai.ltN
  have lta := exaN E0
  have fin : ∀ (ip : Nat) (T : State) (h : Heap) (pv : Int32) (s5 : Slot) (kf' : Nat → UInt64) (K' : Nat → Int) (J' : Nat → Int32), ip < N → pv.toInt = (ip : Int) → Pos p l e ({ frames := 0, cells := 0, slots := 0, locals := 0 } : Room) s m #[(.ref a), (.int pv0), (.double x), (.int iv)] below meth c Z "com/example/urnwise/urnwise/sampler/SmallestKeys" [kb, ib] h0.size T h 0 0 → Fld Z h a "com/example/urnwise/urnwise/sampler/SmallestKeys" "keys" "[D" (.ref kb) → Fld Z h a "com/example/urnwise/urnwise/sampler/SmallestKeys" "indices" "[I" (.ref ib) → Ar Z h kb .double N (fun i => .double (kf' i)) → Ar Z h ib .int N (fun i => .int (J' i)) → (∀ i, i < N → DInt (K' i) (kf' i)) → (oupd K' ip kv, oupd J' ip iv) = own_up p0 K J p0 kv iv → Done p l e ({ frames := 0, cells := 0, slots := 0, locals := 0 } : Room) s m #[(.ref a), (.int pv0), (.double x), (.int iv)] below meth c Z "com/example/urnwise/urnwise/sampler/SmallestKeys" [kb, ib] h0.size (fun v h' => v = none ∧ ∃ kf' : Nat → UInt64, Ar Z h' kb .double N (fun i => .double (kf' i)) ∧ (∀ i, i < N → DInt ((own_up p0 K J p0 kv iv).1 i) (kf' i)) ∧ Ar Z h' ib .int N (fun i => .int (((own_up p0 K J p0 kv iv).2) i))) T (mkF m 58 #[.val (.ref a), .val (.int pv), .val (.double x), .second, .val (.int iv), s5] []) := by
    intro ip T h pv s5 kf' K' J' hp hpv P Fk' Fi' Ak' Ai' dK' heq
    refine Done.stepL (pc' := 59) (st' := [(.ref a)]) (fun t kk => ?_) ?_
    · show Steps p.tables e below (T.setTop (mkF m 58 _ [])) t
      refine XS.aloadN P.here P.x rfl (hb hby d_up_58) rfl rfl ?_
      exact kk
    refine wGet P (host := "") (Or.inl (tw16 hw)) Via.refl Fk' (hb hby d_up_59) rfl (fun T1 P2 => ?_)
    show Done _ _ _ _ _ _ _ _ _ _ _ _ _ _ _ T1 (mkF m 62 _ [(.ref kb)])
    refine Done.stepL (pc' := 64) (st' := [(.double x), (.int pv), (.ref kb)]) (fun t kk => ?_) ?_
    · show Steps p.tables e below (T1.setTop (mkF m 62 _ [(.ref kb)])) t
      refine XS.iloadN P2.here P2.x rfl (hb hby d_up_62) rfl ?_
      show Steps p.tables e below (T1.setTop (mkF m 63 _ [(.int pv), (.ref kb)])) t
      refine XS.dloadN P2.here P2.x rfl (hb hby d_up_63) rfl ?_
      exact kk
    refine wDastore P2 (f := kf') Ak' (j := pv) (i := ip) hpv hp (Or.inl (by simp)) (hb hby d_up_64) rfl (fun T3 h5 P4 W6 A7 => ?_)
    have szh5 : h5.size = h.size := W6.size
    show Done _ _ _ _ _ _ _ _ _ _ _ _ _ _ _ T3 (mkF m 65 _ [])
    refine Done.stepL (pc' := 66) (st' := [(.ref a)]) (fun t kk => ?_) ?_
    · show Steps p.tables e below (T3.setTop (mkF m 65 _ [])) t
      refine XS.aloadN P4.here P4.x rfl (hb hby d_up_65) rfl rfl ?_
      exact kk
    have f8 := (Fi'.other W6 (Or.inl (by first | assumption | exact Ne.symm (by assumption) | exact adr_ne (by omega) | omega)))
    refine wGet P4 (host := "") (Or.inl (tw19 hw)) Via.refl f8 (hb hby d_up_66) rfl (fun T9 P10 => ?_)
    show Done _ _ _ _ _ _ _ _ _ _ _ _ _ _ _ T9 (mkF m 69 _ [(.ref ib)])
    refine Done.stepL (pc' := 72) (st' := [(.int iv), (.int pv), (.ref ib)]) (fun t kk => ?_) ?_
    · show Steps p.tables e below (T9.setTop (mkF m 69 _ [(.ref ib)])) t
      refine XS.iloadN P10.here P10.x rfl (hb hby d_up_69) rfl ?_
      show Steps p.tables e below (T9.setTop (mkF m 70 _ [(.int pv), (.ref ib)])) t
      refine XS.iload P10.here P10.x rfl (hb hby d_up_70) rfl ?_
      exact kk
    have f11 := (Ai'.other W6 (by first | assumption | exact Ne.symm (by assumption) | exact adr_ne (by omega) | omega))
    refine wIastore P10 (f := J') f11 (j := pv) (i := ip) hpv hp (Or.inl (by simp)) (hb hby d_up_72) rfl (fun T12 h14 P13 W15 A16 => ?_)
    have szh14 : h14.size = h5.size := W15.size
    show Done _ _ _ _ _ _ _ _ _ _ _ _ _ _ _ T12 (mkF m 73 _ [])
    have f17 := (A7.other W15 (by first | assumption | exact Ne.symm (by assumption) | exact adr_ne (by omega) | omega))
    exact wRetV P13 hret (hb hby d_up_73) ⟨rfl, _, f17, (fun i hi => by rw [← heq]; exact own_dupd dK' dx i hi), (by rw [← heq]; exact A16)⟩
  have loop : ∀ (r : Nat) (ip : Nat) (T : State) (h : Heap) (pv : Int32) (s5 : Slot) (kf' : Nat → UInt64) (K' : Nat → Int) (J' : Nat → Int32), ip ≤ r → ip < N → pv.toInt = (ip : Int) → One s5 → Pos p l e ({ frames := 0, cells := 0, slots := 0, locals := 0 } : Room) s m #[(.ref a), (.int pv0), (.double x), (.int iv)] below meth c Z "com/example/urnwise/urnwise/sampler/SmallestKeys" [kb, ib] h0.size T h 0 0 → Fld Z h a "com/example/urnwise/urnwise/sampler/SmallestKeys" "keys" "[D" (.ref kb) → Fld Z h a "com/example/urnwise/urnwise/sampler/SmallestKeys" "indices" "[I" (.ref ib) → Fld Z h a "com/example/urnwise/urnwise/sampler/SmallestKeys" "size" "I" (.int sv) → Ar Z h kb .double N (fun i => .double (kf' i)) → Ar Z h ib .int N (fun i => .int (J' i)) → (∀ i, i < N → DInt (K' i) (kf' i)) → own_up r K' J' ip kv iv = own_up p0 K J p0 kv iv → Done p l e ({ frames := 0, cells := 0, slots := 0, locals := 0 } : Room) s m #[(.ref a), (.int pv0), (.double x), (.int iv)] below meth c Z "com/example/urnwise/urnwise/sampler/SmallestKeys" [kb, ib] h0.size (fun v h' => v = none ∧ ∃ kf' : Nat → UInt64, Ar Z h' kb .double N (fun i => .double (kf' i)) ∧ (∀ i, i < N → DInt ((own_up p0 K J p0 kv iv).1 i) (kf' i)) ∧ Ar Z h' ib .int N (fun i => .int (((own_up p0 K J p0 kv iv).2) i))) T (mkF m 0 #[.val (.ref a), .val (.int pv), .val (.double x), .second, .val (.int iv), s5] []) := by
    intro r
    induction r with
    | zero =>
      intro ip T h pv s5 kf' K' J' hr hp hpv h5 P Fk' Fi' Fs' Ak' Ai' dK' heq
      obtain rfl : ip = 0 := by omega
      refine Done.stepL (pc' := 58) (st' := []) (fun t kk => ?_) ?_
      · show Steps p.tables e below (T.setTop (mkF m 0 _ [])) t
        refine XS.iloadN P.here P.x rfl (hb hby d_up_0) rfl ?_
        show Steps p.tables e below (T.setTop (mkF m 1 _ [(.int pv)])) t
        refine XS.ifYes P.here P.x rfl (pc0 := 1) (pc' := 58) rfl (hb hby d_up_1) rfl (i0W_le_t (by rw [own_lt' (i := 0) (by decide) hpv]; omega)) (by decide) (by decide) ?_
        exact kk
      exact fin 0 _ _ _ _ _ _ _ (by omega) hpv P Fk' Fi' Ak' Ai' dK' heq
    | succ r ih =>
      intro ip T h pv s5 kf' K' J' hr hp hpv h5 P Fk' Fi' Fs' Ak' Ai' dK' heq
      refine Done.stepL (pc' := 1) (st' := [(.int pv)]) (fun t kk => ?_) ?_
      · show Steps p.tables e below (T.setTop (mkF m 0 _ [])) t
        refine XS.iloadN P.here P.x rfl (hb hby d_up_0) rfl ?_
        exact kk
      by_cases hc : ¬ ((0 : Int32) < pv)
      · obtain rfl : ip = 0 := own_p0 hpv hc
        refine Done.stepL (pc' := 58) (st' := []) (fun t kk => ?_) ?_
        · show Steps p.tables e below (T.setTop (mkF m 1 _ [(.int pv)])) t
          refine XS.ifYes P.here P.x rfl (pc0 := 1) (pc' := 58) rfl (hb hby d_up_1) rfl (i0W_le_t hc) (by decide) (by decide) ?_
          exact kk
        exact fin 0 _ _ _ _ _ _ _ (by omega) hpv P Fk' Fi' Ak' Ai' dK' heq
      · have hpos := own_p1 hpv hc
        refine Done.step (T' := T) (g' := (mkF m 11 #[.val (.ref a), .val (.int pv), .val (.double x), .second, .val (.int iv), .val (.int ((pv - (1 : Int32)) / (2 : Int32)))] [])) (fun t kk => ?_) ?_
        · show Steps p.tables e below (T.setTop (mkF m 1 _ [(.int pv)])) t
          refine XS.ifNo P.here P.x rfl (hb hby d_up_1) rfl (i0W_le_f (show ¬ (¬ ((0 : Int32) < pv)) from hc)) ?_
          show Steps p.tables e below (T.setTop (mkF m 4 _ [])) t
          refine XS.iloadN P.here P.x rfl (hb hby d_up_4) rfl ?_
          show Steps p.tables e below (T.setTop (mkF m 5 _ [(.int pv)])) t
          refine XS.iconst P.here P.x rfl (hb hby d_up_5) ?_
          show Steps p.tables e below (T.setTop (mkF m 6 _ [(.int (1 : Int32)), (.int pv)])) t
          refine XS.isub P.here P.x rfl (hb hby d_up_6) rfl ?_
          show Steps p.tables e below (T.setTop (mkF m 7 _ [(.int (pv - (1 : Int32)))])) t
          refine XS.iconst P.here P.x rfl (hb hby d_up_7) ?_
          show Steps p.tables e below (T.setTop (mkF m 8 _ [(.int (2 : Int32)), (.int (pv - (1 : Int32)))])) t
          refine XS.idiv P.here P.x rfl (hb hby d_up_8) rfl (by decide) ?_
          show Steps p.tables e below (T.setTop (mkF m 9 _ [(.int ((pv - (1 : Int32)) / (2 : Int32)))])) t
          refine XS.istore P.here P.x rfl (hb hby d_up_9) rfl (l' := #[.val (.ref a), .val (.int pv), .val (.double x), .second, .val (.int iv), .val (.int ((pv - (1 : Int32)) / (2 : Int32)))]) (os_up_9_18 h5) ?_
          exact kk
        generalize g_qv : ((pv - (1 : Int32)) / (2 : Int32)) = qv
        have hqv : qv.toInt = (((ip - 1) / 2 : Nat) : Int) := by rw [← g_qv]; exact own_par hpv hpos
        show Done _ _ _ _ _ _ _ _ _ _ _ _ _ _ _ T (mkF m 11 _ [])
        rw [own_up, if_neg (show ¬ (ip = 0) by omega)] at heq
        refine Done.stepL (pc' := 12) (st' := [(.ref a)]) (fun t kk => ?_) ?_
        · show Steps p.tables e below (T.setTop (mkF m 11 _ [])) t
          refine XS.aloadN P.here P.x rfl (hb hby d_up_11) rfl rfl ?_
          exact kk
        refine wGet P (host := "") (Or.inl (tw16 hw)) Via.refl Fk' (hb hby d_up_12) rfl (fun T18 P19 => ?_)
        show Done _ _ _ _ _ _ _ _ _ _ _ _ _ _ _ T18 (mkF m 15 _ [(.ref kb)])
        refine Done.stepL (pc' := 17) (st' := [(.int qv), (.ref kb)]) (fun t kk => ?_) ?_
        · show Steps p.tables e below (T18.setTop (mkF m 15 _ [(.ref kb)])) t
          refine XS.iload P19.here P19.x rfl (hb hby d_up_15) rfl ?_
          exact kk
        refine wDaload P19 Ak' (j := qv) (i := ((ip - 1) / 2)) hqv (by omega) (v := (.double (kf' ((ip - 1) / 2)))) rfl (hb hby d_up_17) rfl ?_
        show Done _ _ _ _ _ _ _ _ _ _ _ _ _ _ _ T18 (mkF m 18 _ [(.double (kf' ((ip - 1) / 2)))])
        refine Done.stepL (pc' := 20) (st' := [(.int (cmpZ (K' ((ip - 1) / 2)) kv))]) (fun t kk => ?_) ?_
        · show Steps p.tables e below (T18.setTop (mkF m 18 _ [(.double (kf' ((ip - 1) / 2)))])) t
          refine XS.dloadN P19.here P19.x rfl (hb hby d_up_18) rfl ?_
          show Steps p.tables e below (T18.setTop (mkF m 19 _ [(.double x), (.double (kf' ((ip - 1) / 2)))])) t
          refine XS.dcmpS P19.here P19.x rfl (hb hby d_up_19) rfl (dcmpZ (dK' ((ip - 1) / 2) (by omega)) dx) ?_
          exact kk
        by_cases hl : (K' ((ip - 1) / 2)) < kv
        · rw [if_pos hl] at heq
          refine Done.stepL (pc' := 27) (st' := [(.ref a)]) (fun t kk => ?_) ?_
          · show Steps p.tables e below (T18.setTop (mkF m 20 _ [(.int (cmpZ (K' ((ip - 1) / 2)) kv))])) t
            refine XS.ifYes P19.here P19.x rfl (pc0 := 20) (pc' := 26) rfl (hb hby d_up_20) rfl (ciW_lt_t hl) (by decide) (by decide) ?_
            show Steps p.tables e below (T18.setTop (mkF m 26 _ [])) t
            refine XS.aloadN P19.here P19.x rfl (hb hby d_up_26) rfl rfl ?_
            exact kk
          refine wGet P19 (host := "") (Or.inl (tw16 hw)) Via.refl Fk' (hb hby d_up_27) rfl (fun T20 P21 => ?_)
          show Done _ _ _ _ _ _ _ _ _ _ _ _ _ _ _ T20 (mkF m 30 _ [(.ref kb)])
          refine Done.stepL (pc' := 32) (st' := [(.ref a), (.int pv), (.ref kb)]) (fun t kk => ?_) ?_
          · show Steps p.tables e below (T20.setTop (mkF m 30 _ [(.ref kb)])) t
            refine XS.iloadN P21.here P21.x rfl (hb hby d_up_30) rfl ?_
            show Steps p.tables e below (T20.setTop (mkF m 31 _ [(.int pv), (.ref kb)])) t
            refine XS.aloadN P21.here P21.x rfl (hb hby d_up_31) rfl rfl ?_
            exact kk
          refine wGet P21 (host := "") (Or.inl (tw16 hw)) Via.refl Fk' (hb hby d_up_32) rfl (fun T22 P23 => ?_)
          show Done _ _ _ _ _ _ _ _ _ _ _ _ _ _ _ T22 (mkF m 35 _ [(.ref kb), (.int pv), (.ref kb)])
          refine Done.stepL (pc' := 37) (st' := [(.int qv), (.ref kb), (.int pv), (.ref kb)]) (fun t kk => ?_) ?_
          · show Steps p.tables e below (T22.setTop (mkF m 35 _ [(.ref kb), (.int pv), (.ref kb)])) t
            refine XS.iload P23.here P23.x rfl (hb hby d_up_35) rfl ?_
            exact kk
          refine wDaload P23 Ak' (j := qv) (i := ((ip - 1) / 2)) hqv (by omega) (v := (.double (kf' ((ip - 1) / 2)))) rfl (hb hby d_up_37) rfl ?_
          show Done _ _ _ _ _ _ _ _ _ _ _ _ _ _ _ T22 (mkF m 38 _ [(.double (kf' ((ip - 1) / 2))), (.int pv), (.ref kb)])
          refine wDastore P23 (f := kf') Ak' (j := pv) (i := ip) hpv hp (Or.inl (by simp)) (hb hby d_up_38) rfl (fun T24 h26 P25 W27 A28 => ?_)
          have szh26 : h26.size = h.size := W27.size
          show Done _ _ _ _ _ _ _ _ _ _ _ _ _ _ _ T24 (mkF m 39 _ [])
          refine Done.stepL (pc' := 40) (st' := [(.ref a)]) (fun t kk => ?_) ?_
          · show Steps p.tables e below (T24.setTop (mkF m 39 _ [])) t
            refine XS.aloadN P25.here P25.x rfl (hb hby d_up_39) rfl rfl ?_
            exact kk
          have f29 := (Fi'.other W27 (Or.inl (by first | assumption | exact Ne.symm (by assumption) | exact adr_ne (by omega) | omega)))
          refine wGet P25 (host := "") (Or.inl (tw19 hw)) Via.refl f29 (hb hby d_up_40) rfl (fun T30 P31 => ?_)
          show Done _ _ _ _ _ _ _ _ _ _ _ _ _ _ _ T30 (mkF m 43 _ [(.ref ib)])
          refine Done.stepL (pc' := 45) (st' := [(.ref a), (.int pv), (.ref ib)]) (fun t kk => ?_) ?_
          · show Steps p.tables e below (T30.setTop (mkF m 43 _ [(.ref ib)])) t
            refine XS.iloadN P31.here P31.x rfl (hb hby d_up_43) rfl ?_
            show Steps p.tables e below (T30.setTop (mkF m 44 _ [(.int pv), (.ref ib)])) t
            refine XS.aloadN P31.here P31.x rfl (hb hby d_up_44) rfl rfl ?_
            exact kk
          refine wGet P31 (host := "") (Or.inl (tw19 hw)) Via.refl f29 (hb hby d_up_45) rfl (fun T32 P33 => ?_)
          show Done _ _ _ _ _ _ _ _ _ _ _ _ _ _ _ T32 (mkF m 48 _ [(.ref ib), (.int pv), (.ref ib)])
          refine Done.stepL (pc' := 50) (st' := [(.int qv), (.ref ib), (.int pv), (.ref ib)]) (fun t kk => ?_) ?_
          · show Steps p.tables e below (T32.setTop (mkF m 48 _ [(.ref ib), (.int pv), (.ref ib)])) t
            refine XS.iload P33.here P33.x rfl (hb hby d_up_48) rfl ?_
            exact kk
          have f34 := (Ai'.other W27 (by first | assumption | exact Ne.symm (by assumption) | exact adr_ne (by omega) | omega))
          refine wIaload P33 f34 (j := qv) (i := ((ip - 1) / 2)) hqv (by omega) (v := (.int (J' ((ip - 1) / 2)))) rfl (hb hby d_up_50) rfl ?_
          show Done _ _ _ _ _ _ _ _ _ _ _ _ _ _ _ T32 (mkF m 51 _ [(.int (J' ((ip - 1) / 2))), (.int pv), (.ref ib)])
          refine wIastore P33 (f := J') f34 (j := pv) (i := ip) hpv hp (Or.inl (by simp)) (hb hby d_up_51) rfl (fun T35 h37 P36 W38 A39 => ?_)
          have szh37 : h37.size = h26.size := W38.size
          show Done _ _ _ _ _ _ _ _ _ _ _ _ _ _ _ T35 (mkF m 52 _ [])
          refine Done.step (T' := T35) (g' := (mkF m 0 #[.val (.ref a), .val (.int qv), .val (.double x), .second, .val (.int iv), .val (.int qv)] [])) (fun t kk => ?_) ?_
          · show Steps p.tables e below (T35.setTop (mkF m 52 _ [])) t
            refine XS.iload P36.here P36.x rfl (hb hby d_up_52) rfl ?_
            show Steps p.tables e below (T35.setTop (mkF m 54 _ [(.int qv)])) t
            refine XS.istoreN P36.here P36.x rfl (hb hby d_up_54) rfl (l' := #[.val (.ref a), .val (.int qv), .val (.double x), .second, .val (.int iv), .val (.int qv)]) rfl ?_
            show Steps p.tables e below (T35.setTop (mkF m 55 _ [])) t
            refine XS.goto P36.here P36.x rfl (pc0 := 55) (pc' := 0) rfl (hb hby d_up_55) (by decide) (by decide) ?_
            exact kk
          have f40 := ((Fk'.other W27 (Or.inl (by first | assumption | exact Ne.symm (by assumption) | exact adr_ne (by omega) | omega))).other W38 (Or.inl (by first | assumption | exact Ne.symm (by assumption) | exact adr_ne (by omega) | omega)))
          have f41 := (f29.other W38 (Or.inl (by first | assumption | exact Ne.symm (by assumption) | exact adr_ne (by omega) | omega)))
          have f42 := ((Fs'.other W27 (Or.inl (by first | assumption | exact Ne.symm (by assumption) | exact adr_ne (by omega) | omega))).other W38 (Or.inl (by first | assumption | exact Ne.symm (by assumption) | exact adr_ne (by omega) | omega)))
          have f43 := (A28.other W38 (by first | assumption | exact Ne.symm (by assumption) | exact adr_ne (by omega) | omega))
          exact ih ((ip - 1) / 2) _ _ _ _ _ _ _ (by omega) (by omega) hqv (One.val rfl) P36 f40 f41 f42 f43 A39 (own_dupd dK' (dK' ((ip - 1) / 2) (by omega))) heq
        · rw [if_neg hl] at heq
          refine Done.stepL (pc' := 58) (st' := []) (fun t kk => ?_) ?_
          · show Steps p.tables e below (T18.setTop (mkF m 20 _ [(.int (cmpZ (K' ((ip - 1) / 2)) kv))])) t
            refine XS.ifNo P19.here P19.x rfl (hb hby d_up_20) rfl (ciW_lt_f (show ¬ ((K' ((ip - 1) / 2)) < kv) from hl)) ?_
            show Steps p.tables e below (T18.setTop (mkF m 23 _ [])) t
            refine XS.goto P19.here P19.x rfl (pc0 := 23) (pc' := 58) rfl (hb hby d_up_23) (by decide) (by decide) ?_
            exact kk
          exact fin ip _ _ _ _ _ _ _ (by omega) hpv P19 Fk' Fi' Ak' Ai' dK' heq
  show Done _ _ _ _ _ _ _ _ _ _ _ _ _ _ _ T0 (mkF m 0 _ [])
  exact loop p0 p0 _ _ _ _ _ _ _ (Nat.le_refl _) hpN hp0 One.u P0 Fk Fi Fs Ak Ai dK rfl
theorem ef_dn (m : MethodId) (x0 : Addr) (x1 : Int32) (x2 : UInt64) (x3 : Int32) : entryFrame m #[(.ref x0), (.int x1), (.double x2), (.int x3)] 6 = mkF m 0 #[.val (.ref x0), .val (.int x1), .val (.double x2), .second, .val (.int x3), .unset] [] := by first | (simp [entryFrame, mkF, argsToLocals, Value.category]; done) | rfl
theorem d_dn_104 : decode prog_15_method_10_code 104 = .ok (.aload_n 0, 1) := by decide +kernel
theorem d_dn_105 : decode prog_15_method_10_code 105 = .ok (.getfield 19, 3) := by decide +kernel
theorem d_dn_108 : decode prog_15_method_10_code 108 = .ok (.iload_n 1, 1) := by decide +kernel
theorem d_dn_109 : decode prog_15_method_10_code 109 = .ok (.dload_n 2, 1) := by decide +kernel
theorem d_dn_110 : decode prog_15_method_10_code 110 = .ok (.dastore, 1) := by decide +kernel
theorem d_dn_111 : decode prog_15_method_10_code 111 = .ok (.aload_n 0, 1) := by decide +kernel
theorem d_dn_112 : decode prog_15_method_10_code 112 = .ok (.getfield 23, 3) := by decide +kernel
theorem d_dn_115 : decode prog_15_method_10_code 115 = .ok (.iload_n 1, 1) := by decide +kernel
theorem d_dn_116 : decode prog_15_method_10_code 116 = .ok (.iload 4, 2) := by decide +kernel
theorem d_dn_118 : decode prog_15_method_10_code 118 = .ok (.iastore, 1) := by decide +kernel
theorem d_dn_119 : decode prog_15_method_10_code 119 = .ok (.return_, 1) := by decide +kernel
theorem d_dn_0 : decode prog_15_method_10_code 0 = .ok (.iconst 2, 1) := by decide +kernel
theorem d_dn_1 : decode prog_15_method_10_code 1 = .ok (.iload_n 1, 1) := by decide +kernel
theorem d_dn_2 : decode prog_15_method_10_code 2 = .ok (.imul, 1) := by decide +kernel
theorem d_dn_3 : decode prog_15_method_10_code 3 = .ok (.iconst 1, 1) := by decide +kernel
theorem d_dn_4 : decode prog_15_method_10_code 4 = .ok (.iadd, 1) := by decide +kernel
theorem d_dn_5 : decode prog_15_method_10_code 5 = .ok (.istore 5, 2) := by decide +kernel
theorem d_dn_7 : decode prog_15_method_10_code 7 = .ok (.iload 5, 2) := by decide +kernel
theorem d_dn_9 : decode prog_15_method_10_code 9 = .ok (.aload_n 0, 1) := by decide +kernel
theorem d_dn_10 : decode prog_15_method_10_code 10 = .ok (.getfield 27, 3) := by decide +kernel
theorem d_dn_13 : decode prog_15_method_10_code 13 = .ok (.if_icmp .ge 91, 3) := by decide +kernel
theorem d_dn_50 : decode prog_15_method_10_code 50 = .ok (.aload_n 0, 1) := by decide +kernel
theorem d_dn_51 : decode prog_15_method_10_code 51 = .ok (.getfield 19, 3) := by decide +kernel
theorem d_dn_54 : decode prog_15_method_10_code 54 = .ok (.iload 5, 2) := by decide +kernel
theorem d_dn_56 : decode prog_15_method_10_code 56 = .ok (.daload, 1) := by decide +kernel
theorem d_dn_57 : decode prog_15_method_10_code 57 = .ok (.dload_n 2, 1) := by decide +kernel
theorem d_dn_58 : decode prog_15_method_10_code 58 = .ok (.dcmp .g, 1) := by decide +kernel
theorem d_dn_59 : decode prog_15_method_10_code 59 = .ok (.ifCond .gt 6, 3) := by decide +kernel
theorem d_dn_65 : decode prog_15_method_10_code 65 = .ok (.aload_n 0, 1) := by decide +kernel
theorem d_dn_66 : decode prog_15_method_10_code 66 = .ok (.getfield 19, 3) := by decide +kernel
theorem d_dn_69 : decode prog_15_method_10_code 69 = .ok (.iload_n 1, 1) := by decide +kernel
theorem d_dn_70 : decode prog_15_method_10_code 70 = .ok (.aload_n 0, 1) := by decide +kernel
theorem d_dn_71 : decode prog_15_method_10_code 71 = .ok (.getfield 19, 3) := by decide +kernel
theorem d_dn_74 : decode prog_15_method_10_code 74 = .ok (.iload 5, 2) := by decide +kernel
theorem d_dn_76 : decode prog_15_method_10_code 76 = .ok (.daload, 1) := by decide +kernel
theorem d_dn_77 : decode prog_15_method_10_code 77 = .ok (.dastore, 1) := by decide +kernel
theorem d_dn_78 : decode prog_15_method_10_code 78 = .ok (.aload_n 0, 1) := by decide +kernel
theorem d_dn_79 : decode prog_15_method_10_code 79 = .ok (.getfield 23, 3) := by decide +kernel
theorem d_dn_82 : decode prog_15_method_10_code 82 = .ok (.iload_n 1, 1) := by decide +kernel
theorem d_dn_83 : decode prog_15_method_10_code 83 = .ok (.aload_n 0, 1) := by decide +kernel
theorem d_dn_84 : decode prog_15_method_10_code 84 = .ok (.getfield 23, 3) := by decide +kernel
theorem d_dn_87 : decode prog_15_method_10_code 87 = .ok (.iload 5, 2) := by decide +kernel
theorem d_dn_89 : decode prog_15_method_10_code 89 = .ok (.iaload, 1) := by decide +kernel
theorem d_dn_90 : decode prog_15_method_10_code 90 = .ok (.iastore, 1) := by decide +kernel
theorem d_dn_91 : decode prog_15_method_10_code 91 = .ok (.iload 5, 2) := by decide +kernel
theorem d_dn_93 : decode prog_15_method_10_code 93 = .ok (.istore_n 1, 1) := by decide +kernel
theorem d_dn_94 : decode prog_15_method_10_code 94 = .ok (.iconst 2, 1) := by decide +kernel
theorem d_dn_95 : decode prog_15_method_10_code 95 = .ok (.iload_n 1, 1) := by decide +kernel
theorem d_dn_96 : decode prog_15_method_10_code 96 = .ok (.imul, 1) := by decide +kernel
theorem d_dn_97 : decode prog_15_method_10_code 97 = .ok (.iconst 1, 1) := by decide +kernel
theorem d_dn_98 : decode prog_15_method_10_code 98 = .ok (.iadd, 1) := by decide +kernel
theorem d_dn_99 : decode prog_15_method_10_code 99 = .ok (.istore 5, 2) := by decide +kernel
theorem d_dn_101 : decode prog_15_method_10_code 101 = .ok (.goto (-94), 3) := by decide +kernel
theorem d_dn_62 : decode prog_15_method_10_code 62 = .ok (.goto 42, 3) := by decide +kernel
theorem d_dn_16 : decode prog_15_method_10_code 16 = .ok (.iload 5, 2) := by decide +kernel
theorem d_dn_18 : decode prog_15_method_10_code 18 = .ok (.iconst 1, 1) := by decide +kernel
theorem d_dn_19 : decode prog_15_method_10_code 19 = .ok (.iadd, 1) := by decide +kernel
theorem d_dn_20 : decode prog_15_method_10_code 20 = .ok (.aload_n 0, 1) := by decide +kernel
theorem d_dn_21 : decode prog_15_method_10_code 21 = .ok (.getfield 27, 3) := by decide +kernel
theorem d_dn_24 : decode prog_15_method_10_code 24 = .ok (.if_icmp .ge 26, 3) := by decide +kernel
theorem d_dn_27 : decode prog_15_method_10_code 27 = .ok (.aload_n 0, 1) := by decide +kernel
theorem d_dn_28 : decode prog_15_method_10_code 28 = .ok (.getfield 19, 3) := by decide +kernel
theorem d_dn_31 : decode prog_15_method_10_code 31 = .ok (.iload 5, 2) := by decide +kernel
theorem d_dn_33 : decode prog_15_method_10_code 33 = .ok (.iconst 1, 1) := by decide +kernel
theorem d_dn_34 : decode prog_15_method_10_code 34 = .ok (.iadd, 1) := by decide +kernel
theorem d_dn_35 : decode prog_15_method_10_code 35 = .ok (.daload, 1) := by decide +kernel
theorem d_dn_36 : decode prog_15_method_10_code 36 = .ok (.aload_n 0, 1) := by decide +kernel
theorem d_dn_37 : decode prog_15_method_10_code 37 = .ok (.getfield 19, 3) := by decide +kernel
theorem d_dn_40 : decode prog_15_method_10_code 40 = .ok (.iload 5, 2) := by decide +kernel
theorem d_dn_42 : decode prog_15_method_10_code 42 = .ok (.daload, 1) := by decide +kernel
theorem d_dn_43 : decode prog_15_method_10_code 43 = .ok (.dcmp .l, 1) := by decide +kernel
theorem d_dn_44 : decode prog_15_method_10_code 44 = .ok (.ifCond .le 6, 3) := by decide +kernel
theorem d_dn_47 : decode prog_15_method_10_code 47 = .ok (.iinc 5 1, 3) := by decide +kernel
set_option maxRecDepth 65536 in
set_option maxHeartbeats 4000000 in
theorem m_dn (l : Launch) (Z : State) (a0 : Array Value) (hw : ∀ d ∈ tables_1, d.before a0 Z = true) (a kb ib : Addr) (sv : Int32) (N n : Nat) (kf : Nat → UInt64) (K : Nat → Int) (J : Nat → Int32) (pv0 : Int32) (x : UInt64) (iv : Int32) (p0 : Nat) (kv : Int) (h0 : Heap) (E0 : Exa Z h0 a "com/example/urnwise/urnwise/sampler/SmallestKeys") (Fk : Fld Z h0 a "com/example/urnwise/urnwise/sampler/SmallestKeys" "keys" "[D" (.ref kb)) (Fi : Fld Z h0 a "com/example/urnwise/urnwise/sampler/SmallestKeys" "indices" "[I" (.ref ib)) (Fs : Fld Z h0 a "com/example/urnwise/urnwise/sampler/SmallestKeys" "size" "I" (.int sv)) (Ak : Ar Z h0 kb .double N (fun i => .double (kf i))) (Ai : Ar Z h0 ib .int N (fun i => .int (J i))) (n1 : a ≠ kb) (n2 : a ≠ ib) (n3 : kb ≠ ib) (hN : N ≤ 16) (hsv : sv.toInt = (n : Int)) (dK : ∀ i, i < N → DInt (K i) (kf i)) (dx : DInt kv x) (hp0 : pv0.toInt = (p0 : Int)) (hpN : p0 < N) (hnN : n ≤ N) :
    OMet l (⟨"com/example/urnwise/urnwise/sampler/SmallestKeys", "siftDown", "(IDI)V"⟩ : MethodName) prog_15_method_10_code 6 (Option.none : Option FieldType) [] ({ frames := 0, cells := 0, slots := 0, locals := 0 } : Room) Z h0 [kb, ib] #[(.ref a), (.int pv0), (.double x), (.int iv)] (fun v h' => v = none ∧ ∃ kf' : Nat → UInt64, Ar Z h' kb .double N (fun i => .double (kf' i)) ∧ (∀ i, i < N → DInt ((own_dn n n K J p0 kv iv).1 i) (kf' i)) ∧ Ar Z h' ib .int N (fun i => .int (((own_dn n n K J p0 kv iv).2) i))) := by
  refine OMet.of (own := "com/example/urnwise/urnwise/sampler/SmallestKeys") (nm := "siftDown") (plainFor_of_name pn_0) rfl rfl ?_
  intro p e s m below meth c T0 P0 hby hml hret hnm
  refine Done.step (T' := T0) (g' := (mkF m 0 #[.val (.ref a), .val (.int pv0), .val (.double x), .second, .val (.int iv), .unset] [])) (fun t kk => castTop (ef_dn m a pv0 x iv) kk) ?_
  have ltk := Ak.ltN
  have lti := Ai.ltN
  have lta := exaN E0
  have fin : ∀ (ip : Nat) (T : State) (h : Heap) (pv : Int32) (s5 : Slot) (kf' : Nat → UInt64) (K' : Nat → Int) (J' : Nat → Int32), ip < N → pv.toInt = (ip : Int) → Pos p l e ({ frames := 0, cells := 0, slots := 0, locals := 0 } : Room) s m #[(.ref a), (.int pv0), (.double x), (.int iv)] below meth c Z "com/example/urnwise/urnwise/sampler/SmallestKeys" [kb, ib] h0.size T h 0 0 → Fld Z h a "com/example/urnwise/urnwise/sampler/SmallestKeys" "keys" "[D" (.ref kb) → Fld Z h a "com/example/urnwise/urnwise/sampler/SmallestKeys" "indices" "[I" (.ref ib) → Ar Z h kb .double N (fun i => .double (kf' i)) → Ar Z h ib .int N (fun i => .int (J' i)) → (∀ i, i < N → DInt (K' i) (kf' i)) → (oupd K' ip kv, oupd J' ip iv) = own_dn n n K J p0 kv iv → Done p l e ({ frames := 0, cells := 0, slots := 0, locals := 0 } : Room) s m #[(.ref a), (.int pv0), (.double x), (.int iv)] below meth c Z "com/example/urnwise/urnwise/sampler/SmallestKeys" [kb, ib] h0.size (fun v h' => v = none ∧ ∃ kf' : Nat → UInt64, Ar Z h' kb .double N (fun i => .double (kf' i)) ∧ (∀ i, i < N → DInt ((own_dn n n K J p0 kv iv).1 i) (kf' i)) ∧ Ar Z h' ib .int N (fun i => .int (((own_dn n n K J p0 kv iv).2) i))) T (mkF m 104 #[.val (.ref a), .val (.int pv), .val (.double x), .second, .val (.int iv), s5] []) := by
    intro ip T h pv s5 kf' K' J' hp hpv P Fk' Fi' Ak' Ai' dK' heq
    refine Done.stepL (pc' := 105) (st' := [(.ref a)]) (fun t kk => ?_) ?_
    · show Steps p.tables e below (T.setTop (mkF m 104 _ [])) t
      refine XS.aloadN P.here P.x rfl (hb hby d_dn_104) rfl rfl ?_
      exact kk
    refine wGet P (host := "") (Or.inl (tw16 hw)) Via.refl Fk' (hb hby d_dn_105) rfl (fun T1 P2 => ?_)
    show Done _ _ _ _ _ _ _ _ _ _ _ _ _ _ _ T1 (mkF m 108 _ [(.ref kb)])
    refine Done.stepL (pc' := 110) (st' := [(.double x), (.int pv), (.ref kb)]) (fun t kk => ?_) ?_
    · show Steps p.tables e below (T1.setTop (mkF m 108 _ [(.ref kb)])) t
      refine XS.iloadN P2.here P2.x rfl (hb hby d_dn_108) rfl ?_
      show Steps p.tables e below (T1.setTop (mkF m 109 _ [(.int pv), (.ref kb)])) t
      refine XS.dloadN P2.here P2.x rfl (hb hby d_dn_109) rfl ?_
      exact kk
    refine wDastore P2 (f := kf') Ak' (j := pv) (i := ip) hpv hp (Or.inl (by simp)) (hb hby d_dn_110) rfl (fun T3 h5 P4 W6 A7 => ?_)
    have szh5 : h5.size = h.size := W6.size
    show Done _ _ _ _ _ _ _ _ _ _ _ _ _ _ _ T3 (mkF m 111 _ [])
    refine Done.stepL (pc' := 112) (st' := [(.ref a)]) (fun t kk => ?_) ?_
    · show Steps p.tables e below (T3.setTop (mkF m 111 _ [])) t
      refine XS.aloadN P4.here P4.x rfl (hb hby d_dn_111) rfl rfl ?_
      exact kk
    have f8 := (Fi'.other W6 (Or.inl (by first | assumption | exact Ne.symm (by assumption) | exact adr_ne (by omega) | omega)))
    refine wGet P4 (host := "") (Or.inl (tw19 hw)) Via.refl f8 (hb hby d_dn_112) rfl (fun T9 P10 => ?_)
    show Done _ _ _ _ _ _ _ _ _ _ _ _ _ _ _ T9 (mkF m 115 _ [(.ref ib)])
    refine Done.stepL (pc' := 118) (st' := [(.int iv), (.int pv), (.ref ib)]) (fun t kk => ?_) ?_
    · show Steps p.tables e below (T9.setTop (mkF m 115 _ [(.ref ib)])) t
      refine XS.iloadN P10.here P10.x rfl (hb hby d_dn_115) rfl ?_
      show Steps p.tables e below (T9.setTop (mkF m 116 _ [(.int pv), (.ref ib)])) t
      refine XS.iload P10.here P10.x rfl (hb hby d_dn_116) rfl ?_
      exact kk
    have f11 := (Ai'.other W6 (by first | assumption | exact Ne.symm (by assumption) | exact adr_ne (by omega) | omega))
    refine wIastore P10 (f := J') f11 (j := pv) (i := ip) hpv hp (Or.inl (by simp)) (hb hby d_dn_118) rfl (fun T12 h14 P13 W15 A16 => ?_)
    have szh14 : h14.size = h5.size := W15.size
    show Done _ _ _ _ _ _ _ _ _ _ _ _ _ _ _ T12 (mkF m 119 _ [])
    have f17 := (A7.other W15 (by first | assumption | exact Ne.symm (by assumption) | exact adr_ne (by omega) | omega))
    exact wRetV P13 hret (hb hby d_dn_119) ⟨rfl, _, f17, (fun i hi => by rw [← heq]; exact own_dupd dK' dx i hi), (by rw [← heq]; exact A16)⟩
  refine Done.step (T' := T0) (g' := (mkF m 7 #[.val (.ref a), .val (.int pv0), .val (.double x), .second, .val (.int iv), .val (.int (((2 : Int32) * pv0) + (1 : Int32)))] [])) (fun t kk => ?_) ?_
  · show Steps p.tables e below (T0.setTop (mkF m 0 _ [])) t
    refine XS.iconst P0.here P0.x rfl (hb hby d_dn_0) ?_
    show Steps p.tables e below (T0.setTop (mkF m 1 _ [(.int (2 : Int32))])) t
    refine XS.iloadN P0.here P0.x rfl (hb hby d_dn_1) rfl ?_
    show Steps p.tables e below (T0.setTop (mkF m 2 _ [(.int pv0), (.int (2 : Int32))])) t
    refine XS.imul P0.here P0.x rfl (hb hby d_dn_2) rfl ?_
    show Steps p.tables e below (T0.setTop (mkF m 3 _ [(.int ((2 : Int32) * pv0))])) t
    refine XS.iconst P0.here P0.x rfl (hb hby d_dn_3) ?_
    show Steps p.tables e below (T0.setTop (mkF m 4 _ [(.int (1 : Int32)), (.int ((2 : Int32) * pv0))])) t
    refine XS.iadd P0.here P0.x rfl (hb hby d_dn_4) rfl ?_
    show Steps p.tables e below (T0.setTop (mkF m 5 _ [(.int (((2 : Int32) * pv0) + (1 : Int32)))])) t
    refine XS.istore P0.here P0.x rfl (hb hby d_dn_5) rfl (l' := #[.val (.ref a), .val (.int pv0), .val (.double x), .second, .val (.int iv), .val (.int (((2 : Int32) * pv0) + (1 : Int32)))]) rfl ?_
    exact kk
  have loop : ∀ (r : Nat) (ip : Nat) (T : State) (h : Heap) (pv ch : Int32) (kf' : Nat → UInt64) (K' : Nat → Int) (J' : Nat → Int32), n ≤ ip + r → ip < N → pv.toInt = (ip : Int) → ch.toInt = ((2 * ip + 1 : Nat) : Int) → Pos p l e ({ frames := 0, cells := 0, slots := 0, locals := 0 } : Room) s m #[(.ref a), (.int pv0), (.double x), (.int iv)] below meth c Z "com/example/urnwise/urnwise/sampler/SmallestKeys" [kb, ib] h0.size T h 0 0 → Fld Z h a "com/example/urnwise/urnwise/sampler/SmallestKeys" "keys" "[D" (.ref kb) → Fld Z h a "com/example/urnwise/urnwise/sampler/SmallestKeys" "indices" "[I" (.ref ib) → Fld Z h a "com/example/urnwise/urnwise/sampler/SmallestKeys" "size" "I" (.int sv) → Ar Z h kb .double N (fun i => .double (kf' i)) → Ar Z h ib .int N (fun i => .int (J' i)) → (∀ i, i < N → DInt (K' i) (kf' i)) → own_dn r n K' J' ip kv iv = own_dn n n K J p0 kv iv → Done p l e ({ frames := 0, cells := 0, slots := 0, locals := 0 } : Room) s m #[(.ref a), (.int pv0), (.double x), (.int iv)] below meth c Z "com/example/urnwise/urnwise/sampler/SmallestKeys" [kb, ib] h0.size (fun v h' => v = none ∧ ∃ kf' : Nat → UInt64, Ar Z h' kb .double N (fun i => .double (kf' i)) ∧ (∀ i, i < N → DInt ((own_dn n n K J p0 kv iv).1 i) (kf' i)) ∧ Ar Z h' ib .int N (fun i => .int (((own_dn n n K J p0 kv iv).2) i))) T (mkF m 7 #[.val (.ref a), .val (.int pv), .val (.double x), .second, .val (.int iv), .val (.int ch)] []) := by
    intro r
    induction r with
    | zero =>
      intro ip T h pv ch kf' K' J' hr hp hpv hch P Fk' Fi' Fs' Ak' Ai' dK' heq
      refine Done.stepL (pc' := 10) (st' := [(.ref a), (.int ch)]) (fun t kk => ?_) ?_
      · show Steps p.tables e below (T.setTop (mkF m 7 _ [])) t
        refine XS.iload P.here P.x rfl (hb hby d_dn_7) rfl ?_
        show Steps p.tables e below (T.setTop (mkF m 9 _ [(.int ch)])) t
        refine XS.aloadN P.here P.x rfl (hb hby d_dn_9) rfl rfl ?_
        exact kk
      refine wGet P (host := "") (Or.inl (tw26 hw)) Via.refl Fs' (hb hby d_dn_10) rfl (fun T18 P19 => ?_)
      show Done _ _ _ _ _ _ _ _ _ _ _ _ _ _ _ T18 (mkF m 13 _ [(.int sv), (.int ch)])
      refine Done.stepL (pc' := 104) (st' := []) (fun t kk => ?_) ?_
      · show Steps p.tables e below (T18.setTop (mkF m 13 _ [(.int sv), (.int ch)])) t
        refine XS.icmpYes P19.here P19.x rfl (pc0 := 13) (pc' := 104) rfl (hb hby d_dn_13) rfl (iiW_ge_t (by rw [own_lt' hch hsv]; omega)) (by decide) (by decide) ?_
        exact kk
      exact fin ip _ _ _ _ _ _ _ (by omega) hpv P19 Fk' Fi' Ak' Ai' dK' heq
    | succ r ih =>
      intro ip T h pv ch kf' K' J' hr hp hpv hch P Fk' Fi' Fs' Ak' Ai' dK' heq
      rw [own_dn] at heq
      have mid : ∀ (T' : State) (dv : Int32) (d : Nat), dv.toInt = (d : Int) → d < n → ip < d → own_d n K' ip = d → Pos p l e ({ frames := 0, cells := 0, slots := 0, locals := 0 } : Room) s m #[(.ref a), (.int pv0), (.double x), (.int iv)] below meth c Z "com/example/urnwise/urnwise/sampler/SmallestKeys" [kb, ib] h0.size T' h 0 0 → Done p l e ({ frames := 0, cells := 0, slots := 0, locals := 0 } : Room) s m #[(.ref a), (.int pv0), (.double x), (.int iv)] below meth c Z "com/example/urnwise/urnwise/sampler/SmallestKeys" [kb, ib] h0.size (fun v h' => v = none ∧ ∃ kf' : Nat → UInt64, Ar Z h' kb .double N (fun i => .double (kf' i)) ∧ (∀ i, i < N → DInt ((own_dn n n K J p0 kv iv).1 i) (kf' i)) ∧ Ar Z h' ib .int N (fun i => .int (((own_dn n n K J p0 kv iv).2) i))) T' (mkF m 50 #[.val (.ref a), .val (.int pv), .val (.double x), .second, .val (.int iv), .val (.int dv)] []) := by
        intro T' dv d hdv hdn hpd hd P'
        rw [if_pos (show 2 * ip + 1 < n by have : own_d n K' ip = 2 * ip + 1 ∨ own_d n K' ip = 2 * ip + 2 := own_d_or n K' ip; omega), hd] at heq
        refine Done.stepL (pc' := 51) (st' := [(.ref a)]) (fun t kk => ?_) ?_
        · show Steps p.tables e below (T'.setTop (mkF m 50 _ [])) t
          refine XS.aloadN P'.here P'.x rfl (hb hby d_dn_50) rfl rfl ?_
          exact kk
        refine wGet P' (host := "") (Or.inl (tw16 hw)) Via.refl Fk' (hb hby d_dn_51) rfl (fun T20 P21 => ?_)
        show Done _ _ _ _ _ _ _ _ _ _ _ _ _ _ _ T20 (mkF m 54 _ [(.ref kb)])
        refine Done.stepL (pc' := 56) (st' := [(.int dv), (.ref kb)]) (fun t kk => ?_) ?_
        · show Steps p.tables e below (T20.setTop (mkF m 54 _ [(.ref kb)])) t
          refine XS.iload P21.here P21.x rfl (hb hby d_dn_54) rfl ?_
          exact kk
        refine wDaload P21 Ak' (j := dv) (i := d) hdv (by omega) (v := (.double (kf' d))) rfl (hb hby d_dn_56) rfl ?_
        show Done _ _ _ _ _ _ _ _ _ _ _ _ _ _ _ T20 (mkF m 57 _ [(.double (kf' d))])
        refine Done.stepL (pc' := 59) (st' := [(.int (cmpZ (K' d) kv))]) (fun t kk => ?_) ?_
        · show Steps p.tables e below (T20.setTop (mkF m 57 _ [(.double (kf' d))])) t
          refine XS.dloadN P21.here P21.x rfl (hb hby d_dn_57) rfl ?_
          show Steps p.tables e below (T20.setTop (mkF m 58 _ [(.double x), (.double (kf' d))])) t
          refine XS.dcmpS P21.here P21.x rfl (hb hby d_dn_58) rfl (dcmpZ (dK' d (by omega)) dx) ?_
          exact kk
        by_cases hl : kv < (K' d)
        · rw [if_pos hl] at heq
          refine Done.stepL (pc' := 66) (st' := [(.ref a)]) (fun t kk => ?_) ?_
          · show Steps p.tables e below (T20.setTop (mkF m 59 _ [(.int (cmpZ (K' d) kv))])) t
            refine XS.ifYes P21.here P21.x rfl (pc0 := 59) (pc' := 65) rfl (hb hby d_dn_59) rfl (ciW_gt_t hl) (by decide) (by decide) ?_
            show Steps p.tables e below (T20.setTop (mkF m 65 _ [])) t
            refine XS.aloadN P21.here P21.x rfl (hb hby d_dn_65) rfl rfl ?_
            exact kk
          refine wGet P21 (host := "") (Or.inl (tw16 hw)) Via.refl Fk' (hb hby d_dn_66) rfl (fun T22 P23 => ?_)
          show Done _ _ _ _ _ _ _ _ _ _ _ _ _ _ _ T22 (mkF m 69 _ [(.ref kb)])
          refine Done.stepL (pc' := 71) (st' := [(.ref a), (.int pv), (.ref kb)]) (fun t kk => ?_) ?_
          · show Steps p.tables e below (T22.setTop (mkF m 69 _ [(.ref kb)])) t
            refine XS.iloadN P23.here P23.x rfl (hb hby d_dn_69) rfl ?_
            show Steps p.tables e below (T22.setTop (mkF m 70 _ [(.int pv), (.ref kb)])) t
            refine XS.aloadN P23.here P23.x rfl (hb hby d_dn_70) rfl rfl ?_
            exact kk
          refine wGet P23 (host := "") (Or.inl (tw16 hw)) Via.refl Fk' (hb hby d_dn_71) rfl (fun T24 P25 => ?_)
          show Done _ _ _ _ _ _ _ _ _ _ _ _ _ _ _ T24 (mkF m 74 _ [(.ref kb), (.int pv), (.ref kb)])
          refine Done.stepL (pc' := 76) (st' := [(.int dv), (.ref kb), (.int pv), (.ref kb)]) (fun t kk => ?_) ?_
          · show Steps p.tables e below (T24.setTop (mkF m 74 _ [(.ref kb), (.int pv), (.ref kb)])) t
            refine XS.iload P25.here P25.x rfl (hb hby d_dn_74) rfl ?_
            exact kk
          refine wDaload P25 Ak' (j := dv) (i := d) hdv (by omega) (v := (.double (kf' d))) rfl (hb hby d_dn_76) rfl ?_
          show Done _ _ _ _ _ _ _ _ _ _ _ _ _ _ _ T24 (mkF m 77 _ [(.double (kf' d)), (.int pv), (.ref kb)])
          refine wDastore P25 (f := kf') Ak' (j := pv) (i := ip) hpv hp (Or.inl (by simp)) (hb hby d_dn_77) rfl (fun T26 h28 P27 W29 A30 => ?_)
          have szh28 : h28.size = h.size := W29.size
          show Done _ _ _ _ _ _ _ _ _ _ _ _ _ _ _ T26 (mkF m 78 _ [])
          refine Done.stepL (pc' := 79) (st' := [(.ref a)]) (fun t kk => ?_) ?_
          · show Steps p.tables e below (T26.setTop (mkF m 78 _ [])) t
            refine XS.aloadN P27.here P27.x rfl (hb hby d_dn_78) rfl rfl ?_
            exact kk
          have f31 := (Fi'.other W29 (Or.inl (by first | assumption | exact Ne.symm (by assumption) | exact adr_ne (by omega) | omega)))
          refine wGet P27 (host := "") (Or.inl (tw19 hw)) Via.refl f31 (hb hby d_dn_79) rfl (fun T32 P33 => ?_)
          show Done _ _ _ _ _ _ _ _ _ _ _ _ _ _ _ T32 (mkF m 82 _ [(.ref ib)])
          refine Done.stepL (pc' := 84) (st' := [(.ref a), (.int pv), (.ref ib)]) (fun t kk => ?_) ?_
          · show Steps p.tables e below (T32.setTop (mkF m 82 _ [(.ref ib)])) t
            refine XS.iloadN P33.here P33.x rfl (hb hby d_dn_82) rfl ?_
            show Steps p.tables e below (T32.setTop (mkF m 83 _ [(.int pv), (.ref ib)])) t
            refine XS.aloadN P33.here P33.x rfl (hb hby d_dn_83) rfl rfl ?_
            exact kk
          refine wGet P33 (host := "") (Or.inl (tw19 hw)) Via.refl f31 (hb hby d_dn_84) rfl (fun T34 P35 => ?_)
          show Done _ _ _ _ _ _ _ _ _ _ _ _ _ _ _ T34 (mkF m 87 _ [(.ref ib), (.int pv), (.ref ib)])
          refine Done.stepL (pc' := 89) (st' := [(.int dv), (.ref ib), (.int pv), (.ref ib)]) (fun t kk => ?_) ?_
          · show Steps p.tables e below (T34.setTop (mkF m 87 _ [(.ref ib), (.int pv), (.ref ib)])) t
            refine XS.iload P35.here P35.x rfl (hb hby d_dn_87) rfl ?_
            exact kk
          have f36 := (Ai'.other W29 (by first | assumption | exact Ne.symm (by assumption) | exact adr_ne (by omega) | omega))
          refine wIaload P35 f36 (j := dv) (i := d) hdv (by omega) (v := (.int (J' d))) rfl (hb hby d_dn_89) rfl ?_
          show Done _ _ _ _ _ _ _ _ _ _ _ _ _ _ _ T34 (mkF m 90 _ [(.int (J' d)), (.int pv), (.ref ib)])
          refine wIastore P35 (f := J') f36 (j := pv) (i := ip) hpv hp (Or.inl (by simp)) (hb hby d_dn_90) rfl (fun T37 h39 P38 W40 A41 => ?_)
          have szh39 : h39.size = h28.size := W40.size
          show Done _ _ _ _ _ _ _ _ _ _ _ _ _ _ _ T37 (mkF m 91 _ [])
          refine Done.step (T' := T37) (g' := (mkF m 7 #[.val (.ref a), .val (.int dv), .val (.double x), .second, .val (.int iv), .val (.int (((2 : Int32) * dv) + (1 : Int32)))] [])) (fun t kk => ?_) ?_
          · show Steps p.tables e below (T37.setTop (mkF m 91 _ [])) t
            refine XS.iload P38.here P38.x rfl (hb hby d_dn_91) rfl ?_
            show Steps p.tables e below (T37.setTop (mkF m 93 _ [(.int dv)])) t
            refine XS.istoreN P38.here P38.x rfl (hb hby d_dn_93) rfl (l' := #[.val (.ref a), .val (.int dv), .val (.double x), .second, .val (.int iv), .val (.int dv)]) rfl ?_
            show Steps p.tables e below (T37.setTop (mkF m 94 _ [])) t
            refine XS.iconst P38.here P38.x rfl (hb hby d_dn_94) ?_
            show Steps p.tables e below (T37.setTop (mkF m 95 _ [(.int (2 : Int32))])) t
            refine XS.iloadN P38.here P38.x rfl (hb hby d_dn_95) rfl ?_
            show Steps p.tables e below (T37.setTop (mkF m 96 _ [(.int dv), (.int (2 : Int32))])) t
            refine XS.imul P38.here P38.x rfl (hb hby d_dn_96) rfl ?_
            show Steps p.tables e below (T37.setTop (mkF m 97 _ [(.int ((2 : Int32) * dv))])) t
            refine XS.iconst P38.here P38.x rfl (hb hby d_dn_97) ?_
            show Steps p.tables e below (T37.setTop (mkF m 98 _ [(.int (1 : Int32)), (.int ((2 : Int32) * dv))])) t
            refine XS.iadd P38.here P38.x rfl (hb hby d_dn_98) rfl ?_
            show Steps p.tables e below (T37.setTop (mkF m 99 _ [(.int (((2 : Int32) * dv) + (1 : Int32)))])) t
            refine XS.istore P38.here P38.x rfl (hb hby d_dn_99) rfl (l' := #[.val (.ref a), .val (.int dv), .val (.double x), .second, .val (.int iv), .val (.int (((2 : Int32) * dv) + (1 : Int32)))]) rfl ?_
            show Steps p.tables e below (T37.setTop (mkF m 101 _ [])) t
            refine XS.goto P38.here P38.x rfl (pc0 := 101) (pc' := 7) rfl (hb hby d_dn_101) (by decide) (by decide) ?_
            exact kk
          have f42 := ((Fk'.other W29 (Or.inl (by first | assumption | exact Ne.symm (by assumption) | exact adr_ne (by omega) | omega))).other W40 (Or.inl (by first | assumption | exact Ne.symm (by assumption) | exact adr_ne (by omega) | omega)))
          have f43 := (f31.other W40 (Or.inl (by first | assumption | exact Ne.symm (by assumption) | exact adr_ne (by omega) | omega)))
          have f44 := ((Fs'.other W29 (Or.inl (by first | assumption | exact Ne.symm (by assumption) | exact adr_ne (by omega) | omega))).other W40 (Or.inl (by first | assumption | exact Ne.symm (by assumption) | exact adr_ne (by omega) | omega)))
          have f45 := (A30.other W40 (by first | assumption | exact Ne.symm (by assumption) | exact adr_ne (by omega) | omega))
          exact ih d _ _ _ _ _ _ _ (by omega) (by omega) hdv (own_ch hdv (by omega)) P38 f42 f43 f44 f45 A41 (own_dupd dK' (dK' d (by omega))) heq
        · rw [if_neg hl] at heq
          refine Done.stepL (pc' := 104) (st' := []) (fun t kk => ?_) ?_
          · show Steps p.tables e below (T20.setTop (mkF m 59 _ [(.int (cmpZ (K' d) kv))])) t
            refine XS.ifNo P21.here P21.x rfl (hb hby d_dn_59) rfl (ciW_gt_f (show ¬ (kv < (K' d)) from hl)) ?_
            show Steps p.tables e below (T20.setTop (mkF m 62 _ [])) t
            refine XS.goto P21.here P21.x rfl (pc0 := 62) (pc' := 104) rfl (hb hby d_dn_62) (by decide) (by decide) ?_
            exact kk
          exact fin ip _ _ _ _ _ _ _ (by omega) hpv P21 Fk' Fi' Ak' Ai' dK' heq
      refine Done.stepL (pc' := 10) (st' := [(.ref a), (.int ch)]) (fun t kk => ?_) ?_
      · show Steps p.tables e below (T.setTop (mkF m 7 _ [])) t
        refine XS.iload P.here P.x rfl (hb hby d_dn_7) rfl ?_
        show Steps p.tables e below (T.setTop (mkF m 9 _ [(.int ch)])) t
        refine XS.aloadN P.here P.x rfl (hb hby d_dn_9) rfl rfl ?_
        exact kk
      refine wGet P (host := "") (Or.inl (tw26 hw)) Via.refl Fs' (hb hby d_dn_10) rfl (fun T46 P47 => ?_)
      show Done _ _ _ _ _ _ _ _ _ _ _ _ _ _ _ T46 (mkF m 13 _ [(.int sv), (.int ch)])
      by_cases hc : ¬ (ch < sv)
      · rw [if_neg (fun z => hc ((own_lt' hch hsv).mpr z))] at heq
        refine Done.stepL (pc' := 104) (st' := []) (fun t kk => ?_) ?_
        · show Steps p.tables e below (T46.setTop (mkF m 13 _ [(.int sv), (.int ch)])) t
          refine XS.icmpYes P47.here P47.x rfl (pc0 := 13) (pc' := 104) rfl (hb hby d_dn_13) rfl (iiW_ge_t hc) (by decide) (by decide) ?_
          exact kk
        exact fin ip _ _ _ _ _ _ _ (by omega) hpv P47 Fk' Fi' Ak' Ai' dK' heq
      · have hc' : 2 * ip + 1 < n := (own_lt' hch hsv).mp (Decidable.not_not.mp hc)
        refine Done.stepL (pc' := 21) (st' := [(.ref a), (.int (ch + (1 : Int32)))]) (fun t kk => ?_) ?_
        · show Steps p.tables e below (T46.setTop (mkF m 13 _ [(.int sv), (.int ch)])) t
          refine XS.icmpNo P47.here P47.x rfl (hb hby d_dn_13) rfl (iiW_ge_f (show ¬ (¬ (ch < sv)) from hc)) ?_
          show Steps p.tables e below (T46.setTop (mkF m 16 _ [])) t
          refine XS.iload P47.here P47.x rfl (hb hby d_dn_16) rfl ?_
          show Steps p.tables e below (T46.setTop (mkF m 18 _ [(.int ch)])) t
          refine XS.iconst P47.here P47.x rfl (hb hby d_dn_18) ?_
          show Steps p.tables e below (T46.setTop (mkF m 19 _ [(.int (1 : Int32)), (.int ch)])) t
          refine XS.iadd P47.here P47.x rfl (hb hby d_dn_19) rfl ?_
          show Steps p.tables e below (T46.setTop (mkF m 20 _ [(.int (ch + (1 : Int32)))])) t
          refine XS.aloadN P47.here P47.x rfl (hb hby d_dn_20) rfl rfl ?_
          exact kk
        refine wGet P47 (host := "") (Or.inl (tw26 hw)) Via.refl Fs' (hb hby d_dn_21) rfl (fun T48 P49 => ?_)
        show Done _ _ _ _ _ _ _ _ _ _ _ _ _ _ _ T48 (mkF m 24 _ [(.int sv), (.int (ch + (1 : Int32)))])
        by_cases hbb : ¬ ((ch + (1 : Int32)) < sv)
        · have hd2 : ¬ (2 * ip + 2 < n) := fun z => hbb ((own_lt' (own_in hch (by omega)) hsv).mpr z)
          refine Done.stepL (pc' := 50) (st' := []) (fun t kk => ?_) ?_
          · show Steps p.tables e below (T48.setTop (mkF m 24 _ [(.int sv), (.int (ch + (1 : Int32)))])) t
            refine XS.icmpYes P49.here P49.x rfl (pc0 := 24) (pc' := 50) rfl (hb hby d_dn_24) rfl (iiW_ge_t hbb) (by decide) (by decide) ?_
            exact kk
          exact mid _ _ (2 * ip + 1) hch (by omega) (by omega) (if_neg fun z => hd2 z.1) P49
        · have hd2 : 2 * ip + 2 < n := (own_lt' (own_in hch (by omega)) hsv).mp (Decidable.not_not.mp hbb)
          refine Done.stepL (pc' := 28) (st' := [(.ref a)]) (fun t kk => ?_) ?_
          · show Steps p.tables e below (T48.setTop (mkF m 24 _ [(.int sv), (.int (ch + (1 : Int32)))])) t
            refine XS.icmpNo P49.here P49.x rfl (hb hby d_dn_24) rfl (iiW_ge_f (show ¬ (¬ ((ch + (1 : Int32)) < sv)) from hbb)) ?_
            show Steps p.tables e below (T48.setTop (mkF m 27 _ [])) t
            refine XS.aloadN P49.here P49.x rfl (hb hby d_dn_27) rfl rfl ?_
            exact kk
          refine wGet P49 (host := "") (Or.inl (tw16 hw)) Via.refl Fk' (hb hby d_dn_28) rfl (fun T50 P51 => ?_)
          show Done _ _ _ _ _ _ _ _ _ _ _ _ _ _ _ T50 (mkF m 31 _ [(.ref kb)])
          refine Done.stepL (pc' := 35) (st' := [(.int (ch + (1 : Int32))), (.ref kb)]) (fun t kk => ?_) ?_
          · show Steps p.tables e below (T50.setTop (mkF m 31 _ [(.ref kb)])) t
            refine XS.iload P51.here P51.x rfl (hb hby d_dn_31) rfl ?_
            show Steps p.tables e below (T50.setTop (mkF m 33 _ [(.int ch), (.ref kb)])) t
            refine XS.iconst P51.here P51.x rfl (hb hby d_dn_33) ?_
            show Steps p.tables e below (T50.setTop (mkF m 34 _ [(.int (1 : Int32)), (.int ch), (.ref kb)])) t
            refine XS.iadd P51.here P51.x rfl (hb hby d_dn_34) rfl ?_
            exact kk
          refine wDaload P51 Ak' (j := (ch + (1 : Int32))) (i := (2 * ip + 2)) (own_in hch (by omega)) (by omega) (v := (.double (kf' (2 * ip + 2)))) rfl (hb hby d_dn_35) rfl ?_
          show Done _ _ _ _ _ _ _ _ _ _ _ _ _ _ _ T50 (mkF m 36 _ [(.double (kf' (2 * ip + 2)))])
          refine Done.stepL (pc' := 37) (st' := [(.ref a), (.double (kf' (2 * ip + 2)))]) (fun t kk => ?_) ?_
          · show Steps p.tables e below (T50.setTop (mkF m 36 _ [(.double (kf' (2 * ip + 2)))])) t
            refine XS.aloadN P51.here P51.x rfl (hb hby d_dn_36) rfl rfl ?_
            exact kk
          refine wGet P51 (host := "") (Or.inl (tw16 hw)) Via.refl Fk' (hb hby d_dn_37) rfl (fun T52 P53 => ?_)
          show Done _ _ _ _ _ _ _ _ _ _ _ _ _ _ _ T52 (mkF m 40 _ [(.ref kb), (.double (kf' (2 * ip + 2)))])
          refine Done.stepL (pc' := 42) (st' := [(.int ch), (.ref kb), (.double (kf' (2 * ip + 2)))]) (fun t kk => ?_) ?_
          · show Steps p.tables e below (T52.setTop (mkF m 40 _ [(.ref kb), (.double (kf' (2 * ip + 2)))])) t
            refine XS.iload P53.here P53.x rfl (hb hby d_dn_40) rfl ?_
            exact kk
          refine wDaload P53 Ak' (j := ch) (i := (2 * ip + 1)) hch (by omega) (v := (.double (kf' (2 * ip + 1)))) rfl (hb hby d_dn_42) rfl ?_
          show Done _ _ _ _ _ _ _ _ _ _ _ _ _ _ _ T52 (mkF m 43 _ [(.double (kf' (2 * ip + 1))), (.double (kf' (2 * ip + 2)))])
          refine Done.stepL (pc' := 44) (st' := [(.int (cmpZ (K' (2 * ip + 2)) (K' (2 * ip + 1))))]) (fun t kk => ?_) ?_
          · show Steps p.tables e below (T52.setTop (mkF m 43 _ [(.double (kf' (2 * ip + 1))), (.double (kf' (2 * ip + 2)))])) t
            refine XS.dcmpS P53.here P53.x rfl (hb hby d_dn_43) rfl (dcmpZ (dK' (2 * ip + 2) (by omega)) (dK' (2 * ip + 1) (by omega))) ?_
            exact kk
          by_cases hg : ¬ ((K' (2 * ip + 1)) < (K' (2 * ip + 2)))
          · refine Done.stepL (pc' := 50) (st' := []) (fun t kk => ?_) ?_
            · show Steps p.tables e below (T52.setTop (mkF m 44 _ [(.int (cmpZ (K' (2 * ip + 2)) (K' (2 * ip + 1))))])) t
              refine XS.ifYes P53.here P53.x rfl (pc0 := 44) (pc' := 50) rfl (hb hby d_dn_44) rfl (ciW_le_t hg) (by decide) (by decide) ?_
              exact kk
            exact mid _ _ (2 * ip + 1) hch (by omega) (by omega) (if_neg fun z => hg z.2) P53
          · refine Done.step (T' := T52) (g' := (mkF m 50 #[.val (.ref a), .val (.int pv), .val (.double x), .second, .val (.int iv), .val (.int (ch + (1 : Int32)))] [])) (fun t kk => ?_) ?_
            · show Steps p.tables e below (T52.setTop (mkF m 44 _ [(.int (cmpZ (K' (2 * ip + 2)) (K' (2 * ip + 1))))])) t
              refine XS.ifNo P53.here P53.x rfl (hb hby d_dn_44) rfl (ciW_le_f (show ¬ (¬ ((K' (2 * ip + 1)) < (K' (2 * ip + 2)))) from hg)) ?_
              show Steps p.tables e below (T52.setTop (mkF m 47 _ [])) t
              refine XS.iinc P53.here P53.x rfl (hb hby d_dn_47) rfl (l' := #[.val (.ref a), .val (.int pv), .val (.double x), .second, .val (.int iv), .val (.int (ch + (1 : Int32)))]) rfl ?_
              exact kk
            exact mid _ _ (2 * ip + 2) (own_in hch (by omega)) (by omega) (by omega) (if_pos ⟨hd2, Decidable.not_not.mp hg⟩) P53
  exact loop n p0 _ _ _ _ _ _ _ (by omega) hpN hp0 (own_ch hp0 (by omega)) P0 Fk Fi Fs Ak Ai dK rfl
theorem ef_offA (m : MethodId) (x0 : Addr) (x1 : UInt64) (x2 : Int32) : entryFrame m #[(.ref x0), (.double x1), (.int x2)] 4 = mkF m 0 #[.val (.ref x0), .val (.double x1), .second, .val (.int x2)] [] := by first | (simp [entryFrame, mkF, argsToLocals, Value.category]; done) | rfl
theorem d_offA_0 : decode prog_15_method_2_code 0 = .ok (.aload_n 0, 1) := by decide +kernel
theorem d_offA_1 : decode prog_15_method_2_code 1 = .ok (.getfield 27, 3) := by decide +kernel
theorem d_offA_4 : decode prog_15_method_2_code 4 = .ok (.aload_n 0, 1) := by decide +kernel
theorem d_offA_5 : decode prog_15_method_2_code 5 = .ok (.getfield 7, 3) := by decide +kernel
theorem d_offA_8 : decode prog_15_method_2_code 8 = .ok (.if_icmp .ge 42, 3) := by decide +kernel
theorem d_offA_11 : decode prog_15_method_2_code 11 = .ok (.aload_n 0, 1) := by decide +kernel
theorem d_offA_12 : decode prog_15_method_2_code 12 = .ok (.getfield 27, 3) := by decide +kernel
theorem d_offA_15 : decode prog_15_method_2_code 15 = .ok (.aload_n 0, 1) := by decide +kernel
theorem d_offA_16 : decode prog_15_method_2_code 16 = .ok (.getfield 19, 3) := by decide +kernel
theorem d_offA_19 : decode prog_15_method_2_code 19 = .ok (.arraylength, 1) := by decide +kernel
theorem d_offA_20 : decode prog_15_method_2_code 20 = .ok (.if_icmp .ne 7, 3) := by decide +kernel
theorem d_offA_27 : decode prog_15_method_2_code 27 = .ok (.aload_n 0, 1) := by decide +kernel
theorem d_offA_28 : decode prog_15_method_2_code 28 = .ok (.aload_n 0, 1) := by decide +kernel
theorem d_offA_29 : decode prog_15_method_2_code 29 = .ok (.getfield 27, 3) := by decide +kernel
theorem d_offA_32 : decode prog_15_method_2_code 32 = .ok (.dload_n 1, 1) := by decide +kernel
theorem d_offA_33 : decode prog_15_method_2_code 33 = .ok (.iload_n 3, 1) := by decide +kernel
theorem d_offA_34 : decode prog_15_method_2_code 34 = .ok (.invokevirtual 33, 3) := by decide +kernel
theorem d_offA_37 : decode prog_15_method_2_code 37 = .ok (.aload_n 0, 1) := by decide +kernel
theorem d_offA_38 : decode prog_15_method_2_code 38 = .ok (.dup, 1) := by decide +kernel
theorem d_offA_39 : decode prog_15_method_2_code 39 = .ok (.getfield 27, 3) := by decide +kernel
theorem d_offA_42 : decode prog_15_method_2_code 42 = .ok (.iconst 1, 1) := by decide +kernel
theorem d_offA_43 : decode prog_15_method_2_code 43 = .ok (.iadd, 1) := by decide +kernel
theorem d_offA_44 : decode prog_15_method_2_code 44 = .ok (.putfield 27, 3) := by decide +kernel
theorem d_offA_47 : decode prog_15_method_2_code 47 = .ok (.goto 21, 3) := by decide +kernel
theorem d_offA_68 : decode prog_15_method_2_code 68 = .ok (.return_, 1) := by decide +kernel
set_option maxRecDepth 65536 in
set_option maxHeartbeats 4000000 in
theorem m_offA (l : Launch) (Z : State) (a0 : Array Value) (hw : ∀ d ∈ tables_1, d.before a0 Z = true) (a kb ib : Addr) (sv : Int32) (N n : Nat) (kf : Nat → UInt64) (K : Nat → Int) (J : Nat → Int32) (cv : Int32) (x : UInt64) (iv : Int32) (kv : Int) (sv' : Int32) (h0 : Heap) (E0 : Exa Z h0 a "com/example/urnwise/urnwise/sampler/SmallestKeys") (Fk : Fld Z h0 a "com/example/urnwise/urnwise/sampler/SmallestKeys" "keys" "[D" (.ref kb)) (Fi : Fld Z h0 a "com/example/urnwise/urnwise/sampler/SmallestKeys" "indices" "[I" (.ref ib)) (Fs : Fld Z h0 a "com/example/urnwise/urnwise/sampler/SmallestKeys" "size" "I" (.int sv)) (Fc : Fld Z h0 a "com/example/urnwise/urnwise/sampler/SmallestKeys" "capacity" "I" (.int cv)) (Ak : Ar Z h0 kb .double N (fun i => .double (kf i))) (Ai : Ar Z h0 ib .int N (fun i => .int (J i))) (n1 : a ≠ kb) (n2 : a ≠ ib) (n3 : kb ≠ ib) (hN : N ≤ 16) (hsv : sv.toInt = (n : Int)) (dK : ∀ i, i < N → DInt (K i) (kf i)) (dx : DInt kv x) (hlt : sv < cv) (hnN : n < N) (hs1 : sv + (1 : Int32) = sv') :
    OMet l (⟨"com/example/urnwise/urnwise/sampler/SmallestKeys", "offer", "(DI)V"⟩ : MethodName) prog_15_method_2_code 4 (Option.none : Option FieldType) [] ({ frames := 1, cells := 0, slots := 0, locals := 17 } : Room) Z h0 [a, kb, ib] #[(.ref a), (.double x), (.int iv)] (fun v h' => v = none ∧ ∃ kf' : Nat → UInt64, Fld Z h' a "com/example/urnwise/urnwise/sampler/SmallestKeys" "size" "I" (.int sv') ∧ Fld Z h' a "com/example/urnwise/urnwise/sampler/SmallestKeys" "keys" "[D" (.ref kb) ∧ Fld Z h' a "com/example/urnwise/urnwise/sampler/SmallestKeys" "indices" "[I" (.ref ib) ∧ Fld Z h' a "com/example/urnwise/urnwise/sampler/SmallestKeys" "capacity" "I" (.int cv) ∧ Ar Z h' kb .double N (fun i => .double (kf' i)) ∧ (∀ i, i < N → DInt ((own_of n true K J kv iv).1 i) (kf' i)) ∧ Ar Z h' ib .int N (fun i => .int (((own_of n true K J kv iv).2) i))) := by
  refine OMet.of (own := "com/example/urnwise/urnwise/sampler/SmallestKeys") (nm := "offer") (plainFor_of_name pn_0) rfl rfl ?_
  intro p e s m below meth c T0 P0 hby hml hret hnm
  refine Done.step (T' := T0) (g' := (mkF m 0 #[.val (.ref a), .val (.double x), .second, .val (.int iv)] [])) (fun t kk => castTop (ef_offA m a x iv) kk) ?_
  have ltk := Ak.ltN
  have lti := Ai.ltN
  have lta := exaN E0
  refine Done.stepL (pc' := 1) (st' := [(.ref a)]) (fun t kk => ?_) ?_
  · show Steps p.tables e below (T0.setTop (mkF m 0 _ [])) t
    refine XS.aloadN P0.here P0.x rfl (hb hby d_offA_0) rfl rfl ?_
    exact kk
  refine wGet P0 (host := "") (Or.inl (tw26 hw)) Via.refl Fs (hb hby d_offA_1) rfl (fun T1 P2 => ?_)
  show Done _ _ _ _ _ _ _ _ _ _ _ _ _ _ _ T1 (mkF m 4 _ [(.int sv)])
  refine Done.stepL (pc' := 5) (st' := [(.ref a), (.int sv)]) (fun t kk => ?_) ?_
  · show Steps p.tables e below (T1.setTop (mkF m 4 _ [(.int sv)])) t
    refine XS.aloadN P2.here P2.x rfl (hb hby d_offA_4) rfl rfl ?_
    exact kk
  refine wGet P2 (host := "") (Or.inl (tw9 hw)) Via.refl Fc (hb hby d_offA_5) rfl (fun T3 P4 => ?_)
  show Done _ _ _ _ _ _ _ _ _ _ _ _ _ _ _ T3 (mkF m 8 _ [(.int cv), (.int sv)])
  refine Done.stepL (pc' := 12) (st' := [(.ref a)]) (fun t kk => ?_) ?_
  · show Steps p.tables e below (T3.setTop (mkF m 8 _ [(.int cv), (.int sv)])) t
    refine XS.icmpNo P4.here P4.x rfl (hb hby d_offA_8) rfl (iiW_ge_f (not_not_intro hlt)) ?_
    show Steps p.tables e below (T3.setTop (mkF m 11 _ [])) t
    refine XS.aloadN P4.here P4.x rfl (hb hby d_offA_11) rfl rfl ?_
    exact kk
  refine wGet P4 (host := "") (Or.inl (tw26 hw)) Via.refl Fs (hb hby d_offA_12) rfl (fun T5 P6 => ?_)
  show Done _ _ _ _ _ _ _ _ _ _ _ _ _ _ _ T5 (mkF m 15 _ [(.int sv)])
  refine Done.stepL (pc' := 16) (st' := [(.ref a), (.int sv)]) (fun t kk => ?_) ?_
  · show Steps p.tables e below (T5.setTop (mkF m 15 _ [(.int sv)])) t
    refine XS.aloadN P6.here P6.x rfl (hb hby d_offA_15) rfl rfl ?_
    exact kk
  refine wGet P6 (host := "") (Or.inl (tw16 hw)) Via.refl Fk (hb hby d_offA_16) rfl (fun T7 P8 => ?_)
  show Done _ _ _ _ _ _ _ _ _ _ _ _ _ _ _ T7 (mkF m 19 _ [(.ref kb), (.int sv)])
  refine wLen P8 Ak (z := (Int32.ofNat N)) (own_z (by omega)) (hb hby d_offA_19) rfl ?_
  show Done _ _ _ _ _ _ _ _ _ _ _ _ _ _ _ T7 (mkF m 20 _ [(.int (Int32.ofNat N)), (.int sv)])
  refine Done.stepL (pc' := 29) (st' := [(.ref a), (.ref a)]) (fun t kk => ?_) ?_
  · show Steps p.tables e below (T7.setTop (mkF m 20 _ [(.int (Int32.ofNat N)), (.int sv)])) t
    refine XS.icmpYes P8.here P8.x rfl (pc0 := 20) (pc' := 27) rfl (hb hby d_offA_20) rfl (iiW_ne_t (fun z => by have := congrArg Int32.toInt z; rw [hsv, own_z (by omega)] at this; omega)) (by decide) (by decide) ?_
    show Steps p.tables e below (T7.setTop (mkF m 27 _ [])) t
    refine XS.aloadN P8.here P8.x rfl (hb hby d_offA_27) rfl rfl ?_
    show Steps p.tables e below (T7.setTop (mkF m 28 _ [(.ref a)])) t
    refine XS.aloadN P8.here P8.x rfl (hb hby d_offA_28) rfl rfl ?_
    exact kk
  refine wGet P8 (host := "") (Or.inl (tw26 hw)) Via.refl Fs (hb hby d_offA_29) rfl (fun T9 P10 => ?_)
  show Done _ _ _ _ _ _ _ _ _ _ _ _ _ _ _ T9 (mkF m 32 _ [(.int sv), (.ref a)])
  refine Done.stepL (pc' := 34) (st' := [(.int iv), (.double x), (.int sv), (.ref a)]) (fun t kk => ?_) ?_
  · show Steps p.tables e below (T9.setTop (mkF m 32 _ [(.int sv), (.ref a)])) t
    refine XS.dloadN P10.here P10.x rfl (hb hby d_offA_32) rfl ?_
    show Steps p.tables e below (T9.setTop (mkF m 33 _ [(.double x), (.int sv), (.ref a)])) t
    refine XS.iloadN P10.here P10.x rfl (hb hby d_offA_33) rfl ?_
    exact kk
  refine wCallP P10 (m_up l Z a0 hw a kb ib sv N n kf K J sv x iv n kv h0 E0 Fk Fi Fs Ak Ai n1 n2 n3 hN hsv dK dx hsv hnN) (tw46 hw) (tw47 hw) (tw48 hw) (tw1 hw) (tw2 hw) (tw49 hw) (by decide) E0 (by rw [hml]; rfl) (lenOf pd_0 rfl) (argsL := [(.int sv), (.double x), (.int iv)]) (rest := []) rfl rfl (W := 0) (Nat.le_of_eq rfl) (by decide) (by decide) (by decide) (by decide) (allS (Or.inl (by simp)) (allS (Or.inl (by simp)) all0)) (hb hby d_offA_34) rfl (k' := 0) (n' := 0) rfl rfl ?_
  rintro T11 h17 _ P12 K18 ⟨rfl, kf16, A13, dK15, A14⟩
  have szh17 : h0.size ≤ h17.size := K18.1
  show Done _ _ _ _ _ _ _ _ _ _ _ _ _ _ _ T11 (mkF m 37 _ [])
  refine Done.stepL (pc' := 39) (st' := [(.ref a), (.ref a)]) (fun t kk => ?_) ?_
  · show Steps p.tables e below (T11.setTop (mkF m 37 _ [])) t
    refine XS.aloadN P12.here P12.x rfl (hb hby d_offA_37) rfl rfl ?_
    show Steps p.tables e below (T11.setTop (mkF m 38 _ [(.ref a)])) t
    refine XS.dup P12.here P12.x rfl (hb hby d_offA_38) rfl rfl ?_
    exact kk
  have f19 := (Fs.keep K18 (ninS (by first | assumption | exact Ne.symm (by assumption) | exact adr_ne (by omega) | omega) (ninS (by first | assumption | exact Ne.symm (by assumption) | exact adr_ne (by omega) | omega) nin0)))
  refine wGet P12 (host := "") (Or.inl (tw26 hw)) Via.refl f19 (hb hby d_offA_39) rfl (fun T20 P21 => ?_)
  show Done _ _ _ _ _ _ _ _ _ _ _ _ _ _ _ T20 (mkF m 42 _ [(.int sv), (.ref a)])
  refine Done.stepL (pc' := 44) (st' := [(.int (sv + (1 : Int32))), (.ref a)]) (fun t kk => ?_) ?_
  · show Steps p.tables e below (T20.setTop (mkF m 42 _ [(.int sv), (.ref a)])) t
    refine XS.iconst P21.here P21.x rfl (hb hby d_offA_42) ?_
    show Steps p.tables e below (T20.setTop (mkF m 43 _ [(.int (1 : Int32)), (.int sv), (.ref a)])) t
    refine XS.iadd P21.here P21.x rfl (hb hby d_offA_43) rfl ?_
    exact kk
  have f22 := (E0.keep K18)
  refine wPut P21 (host := "") (Or.inl (tw26 hw)) Via.refl f19 f22 (Or.inl (tw27 hw)) (tw1 hw) (ty := .int) (by decide) rfl rfl (Or.inl (by simp)) (hb hby d_offA_44) rfl (fun T23 h25 P24 W26 F27 => ?_)
  have szh25 : h25.size = h17.size := W26.size
  show Done _ _ _ _ _ _ _ _ _ _ _ _ _ _ _ T23 (mkF m 47 _ [])
  refine Done.stepL (pc' := 68) (st' := []) (fun t kk => ?_) ?_
  · show Steps p.tables e below (T23.setTop (mkF m 47 _ [])) t
    refine XS.goto P24.here P24.x rfl (pc0 := 47) (pc' := 68) rfl (hb hby d_offA_47) (by decide) (by decide) ?_
    exact kk
  have f28 := ((Fk.keep K18 (ninS (by first | assumption | exact Ne.symm (by assumption) | exact adr_ne (by omega) | omega) (ninS (by first | assumption | exact Ne.symm (by assumption) | exact adr_ne (by omega) | omega) nin0))).other W26 (Or.inr (slot_ne (Or.inl (tw17 hw)) (Or.inl (tw27 hw)) (by decide) (t := (.array .double)) (t' := .int) (by decide) (by decide))))
  have f29 := ((Fi.keep K18 (ninS (by first | assumption | exact Ne.symm (by assumption) | exact adr_ne (by omega) | omega) (ninS (by first | assumption | exact Ne.symm (by assumption) | exact adr_ne (by omega) | omega) nin0))).other W26 (Or.inr (slot_ne (Or.inl (tw20 hw)) (Or.inl (tw27 hw)) (by decide) (t := (.array .int)) (t' := .int) (by decide) (by decide))))
  have f30 := ((Fc.keep K18 (ninS (by first | assumption | exact Ne.symm (by assumption) | exact adr_ne (by omega) | omega) (ninS (by first | assumption | exact Ne.symm (by assumption) | exact adr_ne (by omega) | omega) nin0))).other W26 (Or.inr (slot_ne (Or.inr (tw10 hw)) (Or.inl (tw27 hw)) (by decide) (t := .int) (t' := .int) (by decide) (by decide))))
  have f31 := (A13.other W26 (by first | assumption | exact Ne.symm (by assumption) | exact adr_ne (by omega) | omega))
  have f32 := (A14.other W26 (by first | assumption | exact Ne.symm (by assumption) | exact adr_ne (by omega) | omega))
  exact wRetV P24 hret (hb hby d_offA_68) ⟨rfl, _, hs1 ▸ F27, f28, f29, f30, f31, dK15, f32⟩
theorem ef_offB (m : MethodId) (x0 : Addr) (x1 : UInt64) (x2 : Int32) : entryFrame m #[(.ref x0), (.double x1), (.int x2)] 4 = mkF m 0 #[.val (.ref x0), .val (.double x1), .second, .val (.int x2)] [] := by first | (simp [entryFrame, mkF, argsToLocals, Value.category]; done) | rfl
theorem d_offB_0 : decode prog_15_method_2_code 0 = .ok (.aload_n 0, 1) := by decide +kernel
theorem d_offB_1 : decode prog_15_method_2_code 1 = .ok (.getfield 27, 3) := by decide +kernel
theorem d_offB_4 : decode prog_15_method_2_code 4 = .ok (.aload_n 0, 1) := by decide +kernel
theorem d_offB_5 : decode prog_15_method_2_code 5 = .ok (.getfield 7, 3) := by decide +kernel
theorem d_offB_8 : decode prog_15_method_2_code 8 = .ok (.if_icmp .ge 42, 3) := by decide +kernel
theorem d_offB_50 : decode prog_15_method_2_code 50 = .ok (.dload_n 1, 1) := by decide +kernel
theorem d_offB_51 : decode prog_15_method_2_code 51 = .ok (.aload_n 0, 1) := by decide +kernel
theorem d_offB_52 : decode prog_15_method_2_code 52 = .ok (.getfield 19, 3) := by decide +kernel
theorem d_offB_55 : decode prog_15_method_2_code 55 = .ok (.iconst 0, 1) := by decide +kernel
theorem d_offB_56 : decode prog_15_method_2_code 56 = .ok (.daload, 1) := by decide +kernel
theorem d_offB_57 : decode prog_15_method_2_code 57 = .ok (.dcmp .g, 1) := by decide +kernel
theorem d_offB_58 : decode prog_15_method_2_code 58 = .ok (.ifCond .ge 10, 3) := by decide +kernel
theorem d_offB_68 : decode prog_15_method_2_code 68 = .ok (.return_, 1) := by decide +kernel
theorem d_offB_61 : decode prog_15_method_2_code 61 = .ok (.aload_n 0, 1) := by decide +kernel
theorem d_offB_62 : decode prog_15_method_2_code 62 = .ok (.iconst 0, 1) := by decide +kernel
theorem d_offB_63 : decode prog_15_method_2_code 63 = .ok (.dload_n 1, 1) := by decide +kernel
theorem d_offB_64 : decode prog_15_method_2_code 64 = .ok (.iload_n 3, 1) := by decide +kernel
theorem d_offB_65 : decode prog_15_method_2_code 65 = .ok (.invokevirtual 37, 3) := by decide +kernel
set_option maxRecDepth 65536 in
set_option maxHeartbeats 4000000 in
theorem m_offB (l : Launch) (Z : State) (a0 : Array Value) (hw : ∀ d ∈ tables_1, d.before a0 Z = true) (a kb ib : Addr) (sv : Int32) (N n : Nat) (kf : Nat → UInt64) (K : Nat → Int) (J : Nat → Int32) (cv : Int32) (x : UInt64) (iv : Int32) (kv : Int) (h0 : Heap) (E0 : Exa Z h0 a "com/example/urnwise/urnwise/sampler/SmallestKeys") (Fk : Fld Z h0 a "com/example/urnwise/urnwise/sampler/SmallestKeys" "keys" "[D" (.ref kb)) (Fi : Fld Z h0 a "com/example/urnwise/urnwise/sampler/SmallestKeys" "indices" "[I" (.ref ib)) (Fs : Fld Z h0 a "com/example/urnwise/urnwise/sampler/SmallestKeys" "size" "I" (.int sv)) (Fc : Fld Z h0 a "com/example/urnwise/urnwise/sampler/SmallestKeys" "capacity" "I" (.int cv)) (Ak : Ar Z h0 kb .double N (fun i => .double (kf i))) (Ai : Ar Z h0 ib .int N (fun i => .int (J i))) (n1 : a ≠ kb) (n2 : a ≠ ib) (n3 : kb ≠ ib) (hN : N ≤ 16) (hsv : sv.toInt = (n : Int)) (dK : ∀ i, i < N → DInt (K i) (kf i)) (dx : DInt kv x) (hge : ¬ (sv < cv)) (h0n : 0 < n) (hnN : n ≤ N) :
    OMet l (⟨"com/example/urnwise/urnwise/sampler/SmallestKeys", "offer", "(DI)V"⟩ : MethodName) prog_15_method_2_code 4 (Option.none : Option FieldType) [] ({ frames := 1, cells := 0, slots := 0, locals := 17 } : Room) Z h0 [kb, ib] #[(.ref a), (.double x), (.int iv)] (fun v h' => v = none ∧ ∃ kf' : Nat → UInt64, Fld Z h' a "com/example/urnwise/urnwise/sampler/SmallestKeys" "size" "I" (.int sv) ∧ Fld Z h' a "com/example/urnwise/urnwise/sampler/SmallestKeys" "keys" "[D" (.ref kb) ∧ Fld Z h' a "com/example/urnwise/urnwise/sampler/SmallestKeys" "indices" "[I" (.ref ib) ∧ Fld Z h' a "com/example/urnwise/urnwise/sampler/SmallestKeys" "capacity" "I" (.int cv) ∧ Ar Z h' kb .double N (fun i => .double (kf' i)) ∧ (∀ i, i < N → DInt ((own_of n false K J kv iv).1 i) (kf' i)) ∧ Ar Z h' ib .int N (fun i => .int (((own_of n false K J kv iv).2) i))) := by
  refine OMet.of (own := "com/example/urnwise/urnwise/sampler/SmallestKeys") (nm := "offer") (plainFor_of_name pn_0) rfl rfl ?_
  intro p e s m below meth c T0 P0 hby hml hret hnm
  refine Done.step (T' := T0) (g' := (mkF m 0 #[.val (.ref a), .val (.double x), .second, .val (.int iv)] [])) (fun t kk => castTop (ef_offB m a x iv) kk) ?_
  have ltk := Ak.ltN
  have lti := Ai.ltN
  have lta := exaN E0
  refine Done.stepL (pc' := 1) (st' := [(.ref a)]) (fun t kk => ?_) ?_
  · show Steps p.tables e below (T0.setTop (mkF m 0 _ [])) t
    refine XS.aloadN P0.here P0.x rfl (hb hby d_offB_0) rfl rfl ?_
    exact kk
  refine wGet P0 (host := "") (Or.inl (tw26 hw)) Via.refl Fs (hb hby d_offB_1) rfl (fun T1 P2 => ?_)
  show Done _ _ _ _ _ _ _ _ _ _ _ _ _ _ _ T1 (mkF m 4 _ [(.int sv)])
  refine Done.stepL (pc' := 5) (st' := [(.ref a), (.int sv)]) (fun t kk => ?_) ?_
  · show Steps p.tables e below (T1.setTop (mkF m 4 _ [(.int sv)])) t
    refine XS.aloadN P2.here P2.x rfl (hb hby d_offB_4) rfl rfl ?_
    exact kk
  refine wGet P2 (host := "") (Or.inl (tw9 hw)) Via.refl Fc (hb hby d_offB_5) rfl (fun T3 P4 => ?_)
  show Done _ _ _ _ _ _ _ _ _ _ _ _ _ _ _ T3 (mkF m 8 _ [(.int cv), (.int sv)])
  refine Done.stepL (pc' := 52) (st' := [(.ref a), (.double x)]) (fun t kk => ?_) ?_
  · show Steps p.tables e below (T3.setTop (mkF m 8 _ [(.int cv), (.int sv)])) t
    refine XS.icmpYes P4.here P4.x rfl (pc0 := 8) (pc' := 50) rfl (hb hby d_offB_8) rfl (iiW_ge_t hge) (by decide) (by decide) ?_
    show Steps p.tables e below (T3.setTop (mkF m 50 _ [])) t
    refine XS.dloadN P4.here P4.x rfl (hb hby d_offB_50) rfl ?_
    show Steps p.tables e below (T3.setTop (mkF m 51 _ [(.double x)])) t
    refine XS.aloadN P4.here P4.x rfl (hb hby d_offB_51) rfl rfl ?_
    exact kk
  refine wGet P4 (host := "") (Or.inl (tw16 hw)) Via.refl Fk (hb hby d_offB_52) rfl (fun T5 P6 => ?_)
  show Done _ _ _ _ _ _ _ _ _ _ _ _ _ _ _ T5 (mkF m 55 _ [(.ref kb), (.double x)])
  refine Done.stepL (pc' := 56) (st' := [(.int (0 : Int32)), (.ref kb), (.double x)]) (fun t kk => ?_) ?_
  · show Steps p.tables e below (T5.setTop (mkF m 55 _ [(.ref kb), (.double x)])) t
    refine XS.iconst P6.here P6.x rfl (hb hby d_offB_55) ?_
    exact kk
  refine wDaload P6 Ak (j := (0 : Int32)) (i := 0) rfl (by omega) (v := (.double (kf 0))) rfl (hb hby d_offB_56) rfl ?_
  show Done _ _ _ _ _ _ _ _ _ _ _ _ _ _ _ T5 (mkF m 57 _ [(.double (kf 0)), (.double x)])
  refine Done.stepL (pc' := 58) (st' := [(.int (cmpZ kv (K 0)))]) (fun t kk => ?_) ?_
  · show Steps p.tables e below (T5.setTop (mkF m 57 _ [(.double (kf 0)), (.double x)])) t
    refine XS.dcmpS P6.here P6.x rfl (hb hby d_offB_57) rfl (dcmpZ dx (dK 0 (by omega))) ?_
    exact kk
  by_cases hk : ¬ (kv < (K 0))
  · refine Done.stepL (pc' := 68) (st' := []) (fun t kk => ?_) ?_
    · show Steps p.tables e below (T5.setTop (mkF m 58 _ [(.int (cmpZ kv (K 0)))])) t
      refine XS.ifYes P6.here P6.x rfl (pc0 := 58) (pc' := 68) rfl (hb hby d_offB_58) rfl (ciW_ge_t hk) (by decide) (by decide) ?_
      exact kk
    exact wRetV P6 hret (hb hby d_offB_68) ⟨rfl, _, Fs, Fk, Fi, Fc, Ak, (fun i hi => by rw [own_of, if_neg (by decide), if_neg hk]; exact dK i hi), (by rw [own_of, if_neg (by decide), if_neg hk]; exact Ai)⟩
  · have hk' := Decidable.not_not.mp hk
    refine Done.stepL (pc' := 65) (st' := [(.int iv), (.double x), (.int (0 : Int32)), (.ref a)]) (fun t kk => ?_) ?_
    · show Steps p.tables e below (T5.setTop (mkF m 58 _ [(.int (cmpZ kv (K 0)))])) t
      refine XS.ifNo P6.here P6.x rfl (hb hby d_offB_58) rfl (ciW_ge_f (show ¬ (¬ (kv < (K 0))) from hk)) ?_
      show Steps p.tables e below (T5.setTop (mkF m 61 _ [])) t
      refine XS.aloadN P6.here P6.x rfl (hb hby d_offB_61) rfl rfl ?_
      show Steps p.tables e below (T5.setTop (mkF m 62 _ [(.ref a)])) t
      refine XS.iconst P6.here P6.x rfl (hb hby d_offB_62) ?_
      show Steps p.tables e below (T5.setTop (mkF m 63 _ [(.int (0 : Int32)), (.ref a)])) t
      refine XS.dloadN P6.here P6.x rfl (hb hby d_offB_63) rfl ?_
      show Steps p.tables e below (T5.setTop (mkF m 64 _ [(.double x), (.int (0 : Int32)), (.ref a)])) t
      refine XS.iloadN P6.here P6.x rfl (hb hby d_offB_64) rfl ?_
      exact kk
    refine wCallP P6 (m_dn l Z a0 hw a kb ib sv N n kf K J (0 : Int32) x iv 0 kv h0 E0 Fk Fi Fs Ak Ai n1 n2 n3 hN hsv dK dx rfl (by omega) hnN) (tw50 hw) (tw51 hw) (tw52 hw) (tw1 hw) (tw2 hw) (tw53 hw) (by decide) E0 (by rw [hml]; rfl) (lenOf pd_0 rfl) (argsL := [(.int (0 : Int32)), (.double x), (.int iv)]) (rest := []) rfl rfl (W := 0) (Nat.le_of_eq rfl) (by decide) (by decide) (by decide) (by decide) (allS (Or.inl (by simp)) (allS (Or.inl (by simp)) all0)) (hb hby d_offB_65) rfl (k' := 0) (n' := 0) rfl rfl ?_
    rintro T7 h13 _ P8 K14 ⟨rfl, kf12, A9, dK11, A10⟩
    have szh13 : h0.size ≤ h13.size := K14.1
    show Done _ _ _ _ _ _ _ _ _ _ _ _ _ _ _ T7 (mkF m 68 _ [])
    have f15 := (Fs.keep K14 (ninS (by first | assumption | exact Ne.symm (by assumption) | exact adr_ne (by omega) | omega) (ninS (by first | assumption | exact Ne.symm (by assumption) | exact adr_ne (by omega) | omega) nin0)))
    have f16 := (Fk.keep K14 (ninS (by first | assumption | exact Ne.symm (by assumption) | exact adr_ne (by omega) | omega) (ninS (by first | assumption | exact Ne.symm (by assumption) | exact adr_ne (by omega) | omega) nin0)))
    have f17 := (Fi.keep K14 (ninS (by first | assumption | exact Ne.symm (by assumption) | exact adr_ne (by omega) | omega) (ninS (by first | assumption | exact Ne.symm (by assumption) | exact adr_ne (by omega) | omega) nin0)))
    have f18 := (Fc.keep K14 (ninS (by first | assumption | exact Ne.symm (by assumption) | exact adr_ne (by omega) | omega) (ninS (by first | assumption | exact Ne.symm (by assumption) | exact adr_ne (by omega) | omega) nin0)))
    exact wRetV P8 hret (hb hby d_offB_68) ⟨rfl, _, f15, f16, f17, f18, A9, (fun i hi => by rw [own_of, if_neg (by decide), if_pos hk']; exact dK11 i hi), (by rw [own_of, if_neg (by decide), if_pos hk']; exact A10)⟩
theorem ef_hpInit (m : MethodId) (x0 : Addr) (x1 : Int32) : entryFrame m #[(.ref x0), (.int x1)] 2 = mkF m 0 #[.val (.ref x0), .val (.int x1)] [] := by first | (simp [entryFrame, mkF, argsToLocals, Value.category]; done) | rfl
theorem d_hpInit_0 : decode prog_15_method_1_code 0 = .ok (.aload_n 0, 1) := by decide +kernel
theorem d_hpInit_1 : decode prog_15_method_1_code 1 = .ok (.invokespecial 1, 3) := by decide +kernel
theorem d_hpInit_4 : decode prog_15_method_1_code 4 = .ok (.aload_n 0, 1) := by decide +kernel
theorem d_hpInit_5 : decode prog_15_method_1_code 5 = .ok (.iload_n 1, 1) := by decide +kernel
theorem d_hpInit_6 : decode prog_15_method_1_code 6 = .ok (.putfield 7, 3) := by decide +kernel
theorem d_hpInit_9 : decode prog_15_method_1_code 9 = .ok (.aload_n 0, 1) := by decide +kernel
theorem d_hpInit_10 : decode prog_15_method_1_code 10 = .ok (.iload_n 1, 1) := by decide +kernel
theorem d_hpInit_11 : decode prog_15_method_1_code 11 = .ok (.bipush 16, 2) := by decide +kernel
theorem d_hpInit_13 : decode prog_15_method_1_code 13 = .ok (.invokestatic 13, 3) := by decide +kernel
theorem d_hpInit_16 : decode prog_15_method_1_code 16 = .ok (.newarray .double, 2) := by decide +kernel
theorem d_hpInit_18 : decode prog_15_method_1_code 18 = .ok (.putfield 19, 3) := by decide +kernel
theorem d_hpInit_21 : decode prog_15_method_1_code 21 = .ok (.aload_n 0, 1) := by decide +kernel
theorem d_hpInit_22 : decode prog_15_method_1_code 22 = .ok (.aload_n 0, 1) := by decide +kernel
theorem d_hpInit_23 : decode prog_15_method_1_code 23 = .ok (.getfield 19, 3) := by decide +kernel
theorem d_hpInit_26 : decode prog_15_method_1_code 26 = .ok (.arraylength, 1) := by decide +kernel
theorem d_hpInit_27 : decode prog_15_method_1_code 27 = .ok (.newarray .int, 2) := by decide +kernel
theorem d_hpInit_29 : decode prog_15_method_1_code 29 = .ok (.putfield 23, 3) := by decide +kernel
theorem d_hpInit_32 : decode prog_15_method_1_code 32 = .ok (.return_, 1) := by decide +kernel
set_option maxRecDepth 65536 in
set_option maxHeartbeats 4000000 in
theorem m_hpInit (l : Launch) (Z : State) (a0 : Array Value) (hw : ∀ d ∈ tables_1, d.before a0 Z = true) (a : Addr) (cv : Int32) (N : Nat) (h0 : Heap) (E0 : Exa Z h0 a "com/example/urnwise/urnwise/sampler/SmallestKeys") (Fc : Fld Z h0 a "com/example/urnwise/urnwise/sampler/SmallestKeys" "capacity" "I" (.int (0 : Int32))) (Fk : Fld Z h0 a "com/example/urnwise/urnwise/sampler/SmallestKeys" "keys" "[D" .null) (Fi : Fld Z h0 a "com/example/urnwise/urnwise/sampler/SmallestKeys" "indices" "[I" .null) (hz : (if (16 : Int32) < cv then (16 : Int32) else cv).toInt = (N : Int)) (hN : N ≤ 16) (Fs : Fld Z h0 a "com/example/urnwise/urnwise/sampler/SmallestKeys" "size" "I" (.int (0 : Int32))) :
    OMet l (⟨"com/example/urnwise/urnwise/sampler/SmallestKeys", "<init>", "(I)V"⟩ : MethodName) prog_15_method_1_code 2 (Option.none : Option FieldType) [] ({ frames := 1, cells := 2, slots := 32, locals := 14 } : Room) Z h0 [a] #[(.ref a), (.int cv)] (fun v h' => v = none ∧ ∃ kb ib : Addr, h0.size ≤ kb ∧ h0.size ≤ ib ∧ kb ≠ ib ∧ kb < h'.size ∧ ib < h'.size ∧ Fld Z h' a "com/example/urnwise/urnwise/sampler/SmallestKeys" "size" "I" (.int (0 : Int32)) ∧ Fld Z h' a "com/example/urnwise/urnwise/sampler/SmallestKeys" "keys" "[D" (.ref kb) ∧ Fld Z h' a "com/example/urnwise/urnwise/sampler/SmallestKeys" "indices" "[I" (.ref ib) ∧ Fld Z h' a "com/example/urnwise/urnwise/sampler/SmallestKeys" "capacity" "I" (.int cv) ∧ Ar Z h' kb .double N (fun i => .double ((fun _ => (0 : UInt64)) i)) ∧ Ar Z h' ib .int N (fun i => .int ((fun _ => (0 : Int32)) i))) := by
  refine OMet.of (own := "com/example/urnwise/urnwise/sampler/SmallestKeys") (nm := "<init>") (plainFor_of_name pn_0) rfl rfl ?_
  intro p e s m below meth c T0 P0 hby hml hret hnm
  refine Done.step (T' := T0) (g' := (mkF m 0 #[.val (.ref a), .val (.int cv)] [])) (fun t kk => castTop (ef_hpInit m a cv) kk) ?_
  have lta := exaN E0
  refine Done.stepL (pc' := 1) (st' := [(.ref a)]) (fun t kk => ?_) ?_
  · show Steps p.tables e below (T0.setTop (mkF m 0 _ [])) t
    refine XS.aloadN P0.here P0.x rfl (hb hby d_hpInit_0) rfl rfl ?_
    exact kk
  refine wInit P0 (tw6 hw) (tw7 hw) (tw8 hw) (by rw [hml]; rfl) (hb hby d_hpInit_1) (by decide) (W := 0) (Nat.le_of_eq rfl) (by decide) rfl (fun T1 P2 => ?_)
  show Done _ _ _ _ _ _ _ _ _ _ _ _ _ _ _ T1 (mkF m 4 _ [])
  refine Done.stepL (pc' := 6) (st' := [(.int cv), (.ref a)]) (fun t kk => ?_) ?_
  · show Steps p.tables e below (T1.setTop (mkF m 4 _ [])) t
    refine XS.aloadN P2.here P2.x rfl (hb hby d_hpInit_4) rfl rfl ?_
    show Steps p.tables e below (T1.setTop (mkF m 5 _ [(.ref a)])) t
    refine XS.iloadN P2.here P2.x rfl (hb hby d_hpInit_5) rfl ?_
    exact kk
  refine wPut P2 (host := "") (Or.inl (tw9 hw)) Via.refl Fc E0 (Or.inr ⟨(tw10 hw), rfl, hnm⟩) (tw1 hw) (ty := .int) (by decide) rfl rfl (Or.inl (by simp)) (hb hby d_hpInit_6) rfl (fun T3 h5 P4 W6 F7 => ?_)
  have szh5 : h5.size = h0.size := W6.size
  show Done _ _ _ _ _ _ _ _ _ _ _ _ _ _ _ T3 (mkF m 9 _ [])
  refine Done.stepL (pc' := 13) (st' := [(.int (16 : Int32)), (.int cv), (.ref a)]) (fun t kk => ?_) ?_
  · show Steps p.tables e below (T3.setTop (mkF m 9 _ [])) t
    refine XS.aloadN P4.here P4.x rfl (hb hby d_hpInit_9) rfl rfl ?_
    show Steps p.tables e below (T3.setTop (mkF m 10 _ [(.ref a)])) t
    refine XS.iloadN P4.here P4.x rfl (hb hby d_hpInit_10) rfl ?_
    show Steps p.tables e below (T3.setTop (mkF m 11 _ [(.int cv), (.ref a)])) t
    refine XS.bipush P4.here P4.x rfl (hb hby d_hpInit_11) ?_
    exact kk
  refine wCallS P4 (m_min l Z a0 hw cv (16 : Int32) h5) (tw11 hw) (tw12 hw) (tw13 hw) (tw14 hw) (by decide) (by rw [hml]; rfl) (lenOf pd_1 rfl) (argsL := [(.int cv), (.int (16 : Int32))]) (rest := [(.ref a)]) rfl rfl (W := 1) (Nat.le_of_eq rfl) (by decide) (by decide) (by decide) (by decide) (by simp) (hb hby d_hpInit_13) rfl (k' := 0) (n' := 0) rfl rfl ?_
  rintro T8 _ _ P9 - ⟨rfl, rfl⟩
  show Done _ _ _ _ _ _ _ _ _ _ _ _ _ _ _ T8 (mkF m 16 _ [(.int (if (16 : Int32) < cv then (16 : Int32) else cv)), (.ref a)])
  refine wNewA (aty := .double) P9 (tw15 hw) (hb hby d_hpInit_16) rfl (N := N) hz (cap := 16) hN (by decide) (by decide) (by decide) (ad := "[D") (by decide) (ty := .double) (dv := (.double (0 : UInt64))) rfl rfl (k' := 1) (n' := 16) rfl rfl (fun T10 h12 b13 g14 lt15 P11 E16 A17 X18 => ?_)
  have ge_b13 : h0.size ≤ b13 := by have := P9.ge; omega
  show Done _ _ _ _ _ _ _ _ _ _ _ _ _ _ _ T10 (mkF m 18 _ [(.ref b13), (.ref a)])
  have f19 := ((Fk.other W6 (Or.inr (slot_ne (Or.inl (tw17 hw)) (Or.inr (tw10 hw)) (by decide) (t := (.array .double)) (t' := .int) (by decide) (by decide)))).ext E16)
  have f20 := ((E0.wr W6).ext E16)
  refine wPut P11 (host := "") (Or.inl (tw16 hw)) Via.refl f19 f20 (Or.inl (tw17 hw)) (tw1 hw) (ty := (.array .double)) (by decide) rfl rfl (Or.inl (by simp)) (hb hby d_hpInit_18) rfl (fun T21 h23 P22 W24 F25 => ?_)
  have szh23 : h23.size = h12.size := W24.size
  show Done _ _ _ _ _ _ _ _ _ _ _ _ _ _ _ T21 (mkF m 21 _ [])
  refine Done.stepL (pc' := 23) (st' := [(.ref a), (.ref a)]) (fun t kk => ?_) ?_
  · show Steps p.tables e below (T21.setTop (mkF m 21 _ [])) t
    refine XS.aloadN P22.here P22.x rfl (hb hby d_hpInit_21) rfl rfl ?_
    show Steps p.tables e below (T21.setTop (mkF m 22 _ [(.ref a)])) t
    refine XS.aloadN P22.here P22.x rfl (hb hby d_hpInit_22) rfl rfl ?_
    exact kk
  refine wGet P22 (host := "") (Or.inl (tw16 hw)) Via.refl F25 (hb hby d_hpInit_23) rfl (fun T26 P27 => ?_)
  show Done _ _ _ _ _ _ _ _ _ _ _ _ _ _ _ T26 (mkF m 26 _ [(.ref b13), (.ref a)])
  have f28 := (A17.other W24 (by first | assumption | exact Ne.symm (by assumption) | exact adr_ne (by omega) | omega))
  refine wLen P27 f28 (z := (if (16 : Int32) < cv then (16 : Int32) else cv)) hz (hb hby d_hpInit_26) rfl ?_
  show Done _ _ _ _ _ _ _ _ _ _ _ _ _ _ _ T26 (mkF m 27 _ [(.int (if (16 : Int32) < cv then (16 : Int32) else cv)), (.ref a)])
  refine wNewA (aty := .int) P27 (tw18 hw) (hb hby d_hpInit_27) rfl (N := N) hz (cap := 16) hN (by decide) (by decide) (by decide) (ad := "[I") (by decide) (ty := .int) (dv := (.int (0 : Int32))) rfl rfl (k' := 2) (n' := 32) rfl rfl (fun T29 h31 b32 g33 lt34 P30 E35 A36 X37 => ?_)
  have ge_b32 : h0.size ≤ b32 := by have := P27.ge; omega
  show Done _ _ _ _ _ _ _ _ _ _ _ _ _ _ _ T29 (mkF m 29 _ [(.ref b32), (.ref a)])
  have f38 := ((((Fi.other W6 (Or.inr (slot_ne (Or.inl (tw20 hw)) (Or.inr (tw10 hw)) (by decide) (t := (.array .int)) (t' := .int) (by decide) (by decide)))).ext E16).other W24 (Or.inr (slot_ne (Or.inl (tw20 hw)) (Or.inl (tw17 hw)) (by decide) (t := (.array .int)) (t' := (.array .double)) (by decide) (by decide)))).ext E35)
  have f39 := ((f20.wr W24).ext E35)
  refine wPut P30 (host := "") (Or.inl (tw19 hw)) Via.refl f38 f39 (Or.inl (tw20 hw)) (tw1 hw) (ty := (.array .int)) (by decide) rfl rfl (Or.inl (by simp)) (hb hby d_hpInit_29) rfl (fun T40 h42 P41 W43 F44 => ?_)
  have szh42 : h42.size = h31.size := W43.size
  show Done _ _ _ _ _ _ _ _ _ _ _ _ _ _ _ T40 (mkF m 32 _ [])
  have f45 := ((f28.ext E35).other W43 (by first | assumption | exact Ne.symm (by assumption) | exact adr_ne (by omega) | omega))
  have f46 := (A36.other W43 (by first | assumption | exact Ne.symm (by assumption) | exact adr_ne (by omega) | omega))
  have f47 := (((((Fs.other W6 (Or.inr (slot_ne (Or.inl (tw27 hw)) (Or.inr (tw10 hw)) (by decide) (t := .int) (t' := .int) (by decide) (by decide)))).ext E16).other W24 (Or.inr (slot_ne (Or.inl (tw27 hw)) (Or.inl (tw17 hw)) (by decide) (t := .int) (t' := (.array .double)) (by decide) (by decide)))).ext E35).other W43 (Or.inr (slot_ne (Or.inl (tw27 hw)) (Or.inl (tw20 hw)) (by decide) (t := .int) (t' := (.array .int)) (by decide) (by decide))))
  have f48 := ((F25.ext E35).other W43 (Or.inr (slot_ne (Or.inl (tw17 hw)) (Or.inl (tw20 hw)) (by decide) (t := (.array .double)) (t' := (.array .int)) (by decide) (by decide))))
  have f49 := ((((F7.ext E16).other W24 (Or.inr (slot_ne (Or.inr (tw10 hw)) (Or.inl (tw17 hw)) (by decide) (t := .int) (t' := (.array .double)) (by decide) (by decide)))).ext E35).other W43 (Or.inr (slot_ne (Or.inr (tw10 hw)) (Or.inl (tw20 hw)) (by decide) (t := .int) (t' := (.array .int)) (by decide) (by decide))))
  exact wRetV P41 hret (hb hby d_hpInit_32) ⟨rfl, b13, b32, ge_b13, ge_b32, (by first | omega | exact adr_ne (by omega)), f45.lt, f46.lt, f47, f48, F44, f49, f45, f46⟩
theorem ef_size (m : MethodId) (x0 : Addr) : entryFrame m #[(.ref x0)] 1 = mkF m 0 #[.val (.ref x0)] [] := by first | (simp [entryFrame, mkF, argsToLocals, Value.category]; done) | rfl
theorem d_size_0 : decode prog_15_method_3_code 0 = .ok (.aload_n 0, 1) := by decide +kernel
theorem d_size_1 : decode prog_15_method_3_code 1 = .ok (.getfield 27, 3) := by decide +kernel
theorem d_size_4 : decode prog_15_method_3_code 4 = .ok (.ireturn, 1) := by decide +kernel
set_option maxRecDepth 65536 in
set_option maxHeartbeats 4000000 in
theorem m_size (l : Launch) (Z : State) (a0 : Array Value) (hw : ∀ d ∈ tables_1, d.before a0 Z = true) (a : Addr) (w : Int32) (h0 : Heap) (F0 : Fld Z h0 a "com/example/urnwise/urnwise/sampler/SmallestKeys" "size" "I" (.int w)) :
    OMet l (⟨"com/example/urnwise/urnwise/sampler/SmallestKeys", "size", "()I"⟩ : MethodName) prog_15_method_3_code 1 (Option.some FieldType.int) [] ({ frames := 0, cells := 0, slots := 0, locals := 0 } : Room) Z h0 [] #[(.ref a)] (fun v h' => v = some (.int w) ∧ h0 = h') := by
  refine OMet.of (own := "com/example/urnwise/urnwise/sampler/SmallestKeys") (nm := "size") (plainFor_of_name pn_0) rfl rfl ?_
  intro p e s m below meth c T0 P0 hby hml hret hnm
  refine Done.step (T' := T0) (g' := (mkF m 0 #[.val (.ref a)] [])) (fun t kk => castTop (ef_size m a) kk) ?_
  refine Done.stepL (pc' := 1) (st' := [(.ref a)]) (fun t kk => ?_) ?_
  · show Steps p.tables e below (T0.setTop (mkF m 0 _ [])) t
    refine XS.aloadN P0.here P0.x rfl (hb hby d_size_0) rfl rfl ?_
    exact kk
  refine wGet P0 (host := "") (Or.inl (tw26 hw)) Via.refl F0 (hb hby d_size_1) rfl (fun T1 P2 => ?_)
  show Done _ _ _ _ _ _ _ _ _ _ _ _ _ _ _ T1 (mkF m 4 _ [(.int w)])
  exact wRetI P2 hret (hb hby d_size_4) ⟨rfl, rfl⟩
theorem ef_rl (m : MethodId) (x0 : Addr) : entryFrame m #[(.ref x0)] 2 = mkF m 0 #[.val (.ref x0), .unset] [] := by first | (simp [entryFrame, mkF, argsToLocals, Value.category]; done) | rfl
theorem d_rl_0 : decode prog_15_method_8_code 0 = .ok (.aload_n 0, 1) := by decide +kernel
theorem d_rl_1 : decode prog_15_method_8_code 1 = .ok (.getfield 23, 3) := by decide +kernel
theorem d_rl_4 : decode prog_15_method_8_code 4 = .ok (.iconst 0, 1) := by decide +kernel
theorem d_rl_5 : decode prog_15_method_8_code 5 = .ok (.iaload, 1) := by decide +kernel
theorem d_rl_6 : decode prog_15_method_8_code 6 = .ok (.istore_n 1, 1) := by decide +kernel
theorem d_rl_7 : decode prog_15_method_8_code 7 = .ok (.aload_n 0, 1) := by decide +kernel
theorem d_rl_8 : decode prog_15_method_8_code 8 = .ok (.dup, 1) := by decide +kernel
theorem d_rl_9 : decode prog_15_method_8_code 9 = .ok (.getfield 27, 3) := by decide +kernel
theorem d_rl_12 : decode prog_15_method_8_code 12 = .ok (.iconst 1, 1) := by decide +kernel
theorem d_rl_13 : decode prog_15_method_8_code 13 = .ok (.isub, 1) := by decide +kernel
theorem d_rl_14 : decode prog_15_method_8_code 14 = .ok (.putfield 27, 3) := by decide +kernel
theorem d_rl_17 : decode prog_15_method_8_code 17 = .ok (.aload_n 0, 1) := by decide +kernel
theorem d_rl_18 : decode prog_15_method_8_code 18 = .ok (.iconst 0, 1) := by decide +kernel
theorem d_rl_19 : decode prog_15_method_8_code 19 = .ok (.aload_n 0, 1) := by decide +kernel
theorem d_rl_20 : decode prog_15_method_8_code 20 = .ok (.getfield 19, 3) := by decide +kernel
theorem d_rl_23 : decode prog_15_method_8_code 23 = .ok (.aload_n 0, 1) := by decide +kernel
theorem d_rl_24 : decode prog_15_method_8_code 24 = .ok (.getfield 27, 3) := by decide +kernel
theorem d_rl_27 : decode prog_15_method_8_code 27 = .ok (.daload, 1) := by decide +kernel
theorem d_rl_28 : decode prog_15_method_8_code 28 = .ok (.aload_n 0, 1) := by decide +kernel
theorem d_rl_29 : decode prog_15_method_8_code 29 = .ok (.getfield 23, 3) := by decide +kernel
theorem d_rl_32 : decode prog_15_method_8_code 32 = .ok (.aload_n 0, 1) := by decide +kernel
theorem d_rl_33 : decode prog_15_method_8_code 33 = .ok (.getfield 27, 3) := by decide +kernel
theorem d_rl_36 : decode prog_15_method_8_code 36 = .ok (.iaload, 1) := by decide +kernel
theorem d_rl_37 : decode prog_15_method_8_code 37 = .ok (.invokevirtual 37, 3) := by decide +kernel
theorem d_rl_40 : decode prog_15_method_8_code 40 = .ok (.iload_n 1, 1) := by decide +kernel
theorem d_rl_41 : decode prog_15_method_8_code 41 = .ok (.ireturn, 1) := by decide +kernel
set_option maxRecDepth 65536 in
set_option maxHeartbeats 4000000 in
theorem m_rl (l : Launch) (Z : State) (a0 : Array Value) (hw : ∀ d ∈ tables_1, d.before a0 Z = true) (a kb ib : Addr) (sv : Int32) (N n : Nat) (kf : Nat → UInt64) (K : Nat → Int) (J : Nat → Int32) (cv sv' : Int32) (n' : Nat) (h0 : Heap) (E0 : Exa Z h0 a "com/example/urnwise/urnwise/sampler/SmallestKeys") (Fk : Fld Z h0 a "com/example/urnwise/urnwise/sampler/SmallestKeys" "keys" "[D" (.ref kb)) (Fi : Fld Z h0 a "com/example/urnwise/urnwise/sampler/SmallestKeys" "indices" "[I" (.ref ib)) (Fs : Fld Z h0 a "com/example/urnwise/urnwise/sampler/SmallestKeys" "size" "I" (.int sv)) (Fc : Fld Z h0 a "com/example/urnwise/urnwise/sampler/SmallestKeys" "capacity" "I" (.int cv)) (Ak : Ar Z h0 kb .double N (fun i => .double (kf i))) (Ai : Ar Z h0 ib .int N (fun i => .int (J i))) (n1 : a ≠ kb) (n2 : a ≠ ib) (n3 : kb ≠ ib) (hN : N ≤ 16) (hsv : sv.toInt = (n : Int)) (dK : ∀ i, i < N → DInt (K i) (kf i)) (hn' : n = n' + 1) (hsv' : sv'.toInt = (n' : Int)) (hs1 : sv - (1 : Int32) = sv') (hnN : n ≤ N) :
    OMet l (⟨"com/example/urnwise/urnwise/sampler/SmallestKeys", "removeLargest", "()I"⟩ : MethodName) prog_15_method_8_code 2 (Option.some FieldType.int) [] ({ frames := 1, cells := 0, slots := 0, locals := 17 } : Room) Z h0 [a, kb, ib] #[(.ref a)] (fun v h' => v = some (.int (J 0)) ∧ ∃ kf' : Nat → UInt64, Fld Z h' a "com/example/urnwise/urnwise/sampler/SmallestKeys" "size" "I" (.int sv') ∧ Fld Z h' a "com/example/urnwise/urnwise/sampler/SmallestKeys" "keys" "[D" (.ref kb) ∧ Fld Z h' a "com/example/urnwise/urnwise/sampler/SmallestKeys" "indices" "[I" (.ref ib) ∧ Fld Z h' a "com/example/urnwise/urnwise/sampler/SmallestKeys" "capacity" "I" (.int cv) ∧ Ar Z h' kb .double N (fun i => .double (kf' i)) ∧ (∀ i, i < N → DInt ((own_dn n' n' K J 0 (K n') (J n')).1 i) (kf' i)) ∧ Ar Z h' ib .int N (fun i => .int (((own_dn n' n' K J 0 (K n') (J n')).2) i))) := by
  refine OMet.of (own := "com/example/urnwise/urnwise/sampler/SmallestKeys") (nm := "removeLargest") (plainFor_of_name pn_0) rfl rfl ?_
  intro p e s m below meth c T0 P0 hby hml hret hnm
  refine Done.step (T' := T0) (g' := (mkF m 0 #[.val (.ref a), .unset] [])) (fun t kk => castTop (ef_rl m a) kk) ?_
  have ltk := Ak.ltN
  have lti := Ai.ltN
  have lta := exaN E0
  have hs2 : (sv - (1 : Int32)).toInt = (n' : Int) := by rw [hs1]; exact hsv'
  refine Done.stepL (pc' := 1) (st' := [(.ref a)]) (fun t kk => ?_) ?_
  · show Steps p.tables e below (T0.setTop (mkF m 0 _ [])) t
    refine XS.aloadN P0.here P0.x rfl (hb hby d_rl_0) rfl rfl ?_
    exact kk
  refine wGet P0 (host := "") (Or.inl (tw19 hw)) Via.refl Fi (hb hby d_rl_1) rfl (fun T1 P2 => ?_)
  show Done _ _ _ _ _ _ _ _ _ _ _ _ _ _ _ T1 (mkF m 4 _ [(.ref ib)])
  refine Done.stepL (pc' := 5) (st' := [(.int (0 : Int32)), (.ref ib)]) (fun t kk => ?_) ?_
  · show Steps p.tables e below (T1.setTop (mkF m 4 _ [(.ref ib)])) t
    refine XS.iconst P2.here P2.x rfl (hb hby d_rl_4) ?_
    exact kk
  refine wIaload P2 Ai (j := (0 : Int32)) (i := 0) rfl (by omega) (v := (.int (J 0))) rfl (hb hby d_rl_5) rfl ?_
  show Done _ _ _ _ _ _ _ _ _ _ _ _ _ _ _ T1 (mkF m 6 _ [(.int (J 0))])
  refine Done.step (T' := T1) (g' := (mkF m 9 #[.val (.ref a), .val (.int (J 0))] [(.ref a), (.ref a)])) (fun t kk => ?_) ?_
  · show Steps p.tables e below (T1.setTop (mkF m 6 _ [(.int (J 0))])) t
    refine XS.istoreN P2.here P2.x rfl (hb hby d_rl_6) rfl (l' := #[.val (.ref a), .val (.int (J 0))]) rfl ?_
    show Steps p.tables e below (T1.setTop (mkF m 7 _ [])) t
    refine XS.aloadN P2.here P2.x rfl (hb hby d_rl_7) rfl rfl ?_
    show Steps p.tables e below (T1.setTop (mkF m 8 _ [(.ref a)])) t
    refine XS.dup P2.here P2.x rfl (hb hby d_rl_8) rfl rfl ?_
    exact kk
  refine wGet P2 (host := "") (Or.inl (tw26 hw)) Via.refl Fs (hb hby d_rl_9) rfl (fun T3 P4 => ?_)
  show Done _ _ _ _ _ _ _ _ _ _ _ _ _ _ _ T3 (mkF m 12 _ [(.int sv), (.ref a)])
  refine Done.stepL (pc' := 14) (st' := [(.int (sv - (1 : Int32))), (.ref a)]) (fun t kk => ?_) ?_
  · show Steps p.tables e below (T3.setTop (mkF m 12 _ [(.int sv), (.ref a)])) t
    refine XS.iconst P4.here P4.x rfl (hb hby d_rl_12) ?_
    show Steps p.tables e below (T3.setTop (mkF m 13 _ [(.int (1 : Int32)), (.int sv), (.ref a)])) t
    refine XS.isub P4.here P4.x rfl (hb hby d_rl_13) rfl ?_
    exact kk
  refine wPut P4 (host := "") (Or.inl (tw26 hw)) Via.refl Fs E0 (Or.inl (tw27 hw)) (tw1 hw) (ty := .int) (by decide) rfl rfl (Or.inl (by simp)) (hb hby d_rl_14) rfl (fun T5 h7 P6 W8 F9 => ?_)
  have szh7 : h7.size = h0.size := W8.size
  show Done _ _ _ _ _ _ _ _ _ _ _ _ _ _ _ T5 (mkF m 17 _ [])
  refine Done.stepL (pc' := 20) (st' := [(.ref a), (.int (0 : Int32)), (.ref a)]) (fun t kk => ?_) ?_
  · show Steps p.tables e below (T5.setTop (mkF m 17 _ [])) t
    refine XS.aloadN P6.here P6.x rfl (hb hby d_rl_17) rfl rfl ?_
    show Steps p.tables e below (T5.setTop (mkF m 18 _ [(.ref a)])) t
    refine XS.iconst P6.here P6.x rfl (hb hby d_rl_18) ?_
    show Steps p.tables e below (T5.setTop (mkF m 19 _ [(.int (0 : Int32)), (.ref a)])) t
    refine XS.aloadN P6.here P6.x rfl (hb hby d_rl_19) rfl rfl ?_
    exact kk
  have f10 := (Fk.other W8 (Or.inr (slot_ne (Or.inl (tw17 hw)) (Or.inl (tw27 hw)) (by decide) (t := (.array .double)) (t' := .int) (by decide) (by decide))))
  refine wGet P6 (host := "") (Or.inl (tw16 hw)) Via.refl f10 (hb hby d_rl_20) rfl (fun T11 P12 => ?_)
  show Done _ _ _ _ _ _ _ _ _ _ _ _ _ _ _ T11 (mkF m 23 _ [(.ref kb), (.int (0 : Int32)), (.ref a)])
  refine Done.stepL (pc' := 24) (st' := [(.ref a), (.ref kb), (.int (0 : Int32)), (.ref a)]) (fun t kk => ?_) ?_
  · show Steps p.tables e below (T11.setTop (mkF m 23 _ [(.ref kb), (.int (0 : Int32)), (.ref a)])) t
    refine XS.aloadN P12.here P12.x rfl (hb hby d_rl_23) rfl rfl ?_
    exact kk
  refine wGet P12 (host := "") (Or.inl (tw26 hw)) Via.refl F9 (hb hby d_rl_24) rfl (fun T13 P14 => ?_)
  show Done _ _ _ _ _ _ _ _ _ _ _ _ _ _ _ T13 (mkF m 27 _ [(.int (sv - (1 : Int32))), (.ref kb), (.int (0 : Int32)), (.ref a)])
  have f15 := (Ak.other W8 (by first | assumption | exact Ne.symm (by assumption) | exact adr_ne (by omega) | omega))
  refine wDaload P14 f15 (j := (sv - (1 : Int32))) (i := n') hs2 (by omega) (v := (.double (kf n'))) rfl (hb hby d_rl_27) rfl ?_
  show Done _ _ _ _ _ _ _ _ _ _ _ _ _ _ _ T13 (mkF m 28 _ [(.double (kf n')), (.int (0 : Int32)), (.ref a)])
  refine Done.stepL (pc' := 29) (st' := [(.ref a), (.double (kf n')), (.int (0 : Int32)), (.ref a)]) (fun t kk => ?_) ?_
  · show Steps p.tables e below (T13.setTop (mkF m 28 _ [(.double (kf n')), (.int (0 : Int32)), (.ref a)])) t
    refine XS.aloadN P14.here P14.x rfl (hb hby d_rl_28) rfl rfl ?_
    exact kk
  have f16 := (Fi.other W8 (Or.inr (slot_ne (Or.inl (tw20 hw)) (Or.inl (tw27 hw)) (by decide) (t := (.array .int)) (t' := .int) (by decide) (by decide))))
  refine wGet P14 (host := "") (Or.inl (tw19 hw)) Via.refl f16 (hb hby d_rl_29) rfl (fun T17 P18 => ?_)
  show Done _ _ _ _ _ _ _ _ _ _ _ _ _ _ _ T17 (mkF m 32 _ [(.ref ib), (.double (kf n')), (.int (0 : Int32)), (.ref a)])
  refine Done.stepL (pc' := 33) (st' := [(.ref a), (.ref ib), (.double (kf n')), (.int (0 : Int32)), (.ref a)]) (fun t kk => ?_) ?_
  · show Steps p.tables e below (T17.setTop (mkF m 32 _ [(.ref ib), (.double (kf n')), (.int (0 : Int32)), (.ref a)])) t
    refine XS.aloadN P18.here P18.x rfl (hb hby d_rl_32) rfl rfl ?_
    exact kk
  refine wGet P18 (host := "") (Or.inl (tw26 hw)) Via.refl F9 (hb hby d_rl_33) rfl (fun T19 P20 => ?_)
  show Done _ _ _ _ _ _ _ _ _ _ _ _ _ _ _ T19 (mkF m 36 _ [(.int (sv - (1 : Int32))), (.ref ib), (.double (kf n')), (.int (0 : Int32)), (.ref a)])
  have f21 := (Ai.other W8 (by first | assumption | exact Ne.symm (by assumption) | exact adr_ne (by omega) | omega))
  refine wIaload P20 f21 (j := (sv - (1 : Int32))) (i := n') hs2 (by omega) (v := (.int (J n'))) rfl (hb hby d_rl_36) rfl ?_
  show Done _ _ _ _ _ _ _ _ _ _ _ _ _ _ _ T19 (mkF m 37 _ [(.int (J n')), (.double (kf n')), (.int (0 : Int32)), (.ref a)])
  have f28 := (E0.wr W8)
  refine wCallP P20 (m_dn l Z a0 hw a kb ib (sv - (1 : Int32)) N n' kf K J (0 : Int32) (kf n') (J n') 0 (K n') h7 f28 f10 f16 F9 f15 f21 n1 n2 n3 hN hs2 dK (dK n' (by omega)) rfl (by omega) (by omega)) (tw50 hw) (tw51 hw) (tw52 hw) (tw1 hw) (tw2 hw) (tw53 hw) (by decide) f28 (by rw [hml]; rfl) (lenOf pd_0 rfl) (argsL := [(.int (0 : Int32)), (.double (kf n')), (.int (J n'))]) (rest := []) rfl rfl (W := 0) (Nat.le_of_eq rfl) (by decide) (by decide) (by decide) (by decide) (allS (Or.inl (by simp)) (allS (Or.inl (by simp)) all0)) (hb hby d_rl_37) rfl (k' := 0) (n' := 0) rfl rfl ?_
  rintro T22 h29 _ P23 K30 ⟨rfl, kf27, A24, dK26, A25⟩
  have szh29 : h7.size ≤ h29.size := K30.1
  show Done _ _ _ _ _ _ _ _ _ _ _ _ _ _ _ T22 (mkF m 40 _ [])
  refine Done.stepL (pc' := 41) (st' := [(.int (J 0))]) (fun t kk => ?_) ?_
  · show Steps p.tables e below (T22.setTop (mkF m 40 _ [])) t
    refine XS.iloadN P23.here P23.x rfl (hb hby d_rl_40) rfl ?_
    exact kk
  have f31 := (F9.keep K30 (ninS (by first | assumption | exact Ne.symm (by assumption) | exact adr_ne (by omega) | omega) (ninS (by first | assumption | exact Ne.symm (by assumption) | exact adr_ne (by omega) | omega) nin0)))
  have f32 := (f10.keep K30 (ninS (by first | assumption | exact Ne.symm (by assumption) | exact adr_ne (by omega) | omega) (ninS (by first | assumption | exact Ne.symm (by assumption) | exact adr_ne (by omega) | omega) nin0)))
  have f33 := (f16.keep K30 (ninS (by first | assumption | exact Ne.symm (by assumption) | exact adr_ne (by omega) | omega) (ninS (by first | assumption | exact Ne.symm (by assumption) | exact adr_ne (by omega) | omega) nin0)))
  have f34 := ((Fc.other W8 (Or.inr (slot_ne (Or.inr (tw10 hw)) (Or.inl (tw27 hw)) (by decide) (t := .int) (t' := .int) (by decide) (by decide)))).keep K30 (ninS (by first | assumption | exact Ne.symm (by assumption) | exact adr_ne (by omega) | omega) (ninS (by first | assumption | exact Ne.symm (by assumption) | exact adr_ne (by omega) | omega) nin0)))
  exact wRetI P23 hret (hb hby d_rl_41) ⟨rfl, _, hs1 ▸ f31, f32, f33, f34, A24, dK26, A25⟩
theorem ef_ra (m : MethodId) (x0 : Addr) : entryFrame m #[(.ref x0)] 3 = mkF m 0 #[.val (.ref x0), .unset, .unset] [] := by first | (simp [entryFrame, mkF, argsToLocals, Value.category]; done) | rfl
theorem d_ra_0 : decode prog_15_method_7_code 0 = .ok (.aload_n 0, 1) := by decide +kernel
theorem d_ra_1 : decode prog_15_method_7_code 1 = .ok (.getfield 27, 3) := by decide +kernel
theorem d_ra_4 : decode prog_15_method_7_code 4 = .ok (.newarray .int, 2) := by decide +kernel
theorem d_ra_6 : decode prog_15_method_7_code 6 = .ok (.astore_n 1, 1) := by decide +kernel
theorem d_ra_7 : decode prog_15_method_7_code 7 = .ok (.aload_n 0, 1) := by decide +kernel
theorem d_ra_8 : decode prog_15_method_7_code 8 = .ok (.getfield 27, 3) := by decide +kernel
theorem d_ra_11 : decode prog_15_method_7_code 11 = .ok (.iconst 1, 1) := by decide +kernel
theorem d_ra_12 : decode prog_15_method_7_code 12 = .ok (.isub, 1) := by decide +kernel
theorem d_ra_13 : decode prog_15_method_7_code 13 = .ok (.istore_n 2, 1) := by decide +kernel
theorem d_ra_14 : decode prog_15_method_7_code 14 = .ok (.iload_n 2, 1) := by decide +kernel
theorem d_ra_15 : decode prog_15_method_7_code 15 = .ok (.ifCond .lt 16, 3) := by decide +kernel
theorem d_ra_31 : decode prog_15_method_7_code 31 = .ok (.aload_n 1, 1) := by decide +kernel
theorem d_ra_32 : decode prog_15_method_7_code 32 = .ok (.areturn, 1) := by decide +kernel
theorem d_ra_18 : decode prog_15_method_7_code 18 = .ok (.aload_n 1, 1) := by decide +kernel
theorem d_ra_19 : decode prog_15_method_7_code 19 = .ok (.iload_n 2, 1) := by decide +kernel
theorem d_ra_20 : decode prog_15_method_7_code 20 = .ok (.aload_n 0, 1) := by decide +kernel
theorem d_ra_21 : decode prog_15_method_7_code 21 = .ok (.invokevirtual 40, 3) := by decide +kernel
theorem d_ra_24 : decode prog_15_method_7_code 24 = .ok (.iastore, 1) := by decide +kernel
theorem d_ra_25 : decode prog_15_method_7_code 25 = .ok (.iinc 2 (-1), 3) := by decide +kernel
theorem d_ra_28 : decode prog_15_method_7_code 28 = .ok (.goto (-14), 3) := by decide +kernel
set_option maxRecDepth 65536 in
set_option maxHeartbeats 4000000 in
theorem m_ra (l : Launch) (Z : State) (a0 : Array Value) (hw : ∀ d ∈ tables_1, d.before a0 Z = true) (a kb ib : Addr) (sv : Int32) (N n : Nat) (kf : Nat → UInt64) (K : Nat → Int) (J : Nat → Int32) (cv : Int32) (h0 : Heap) (E0 : Exa Z h0 a "com/example/urnwise/urnwise/sampler/SmallestKeys") (Fk : Fld Z h0 a "com/example/urnwise/urnwise/sampler/SmallestKeys" "keys" "[D" (.ref kb)) (Fi : Fld Z h0 a "com/example/urnwise/urnwise/sampler/SmallestKeys" "indices" "[I" (.ref ib)) (Fs : Fld Z h0 a "com/example/urnwise/urnwise/sampler/SmallestKeys" "size" "I" (.int sv)) (Fc : Fld Z h0 a "com/example/urnwise/urnwise/sampler/SmallestKeys" "capacity" "I" (.int cv)) (Ak : Ar Z h0 kb .double N (fun i => .double (kf i))) (Ai : Ar Z h0 ib .int N (fun i => .int (J i))) (n1 : a ≠ kb) (n2 : a ≠ ib) (n3 : kb ≠ ib) (hN : N ≤ 16) (hsv : sv.toInt = (n : Int)) (dK : ∀ i, i < N → DInt (K i) (kf i)) (hnN : n ≤ N) (hn4 : n ≤ 4) :
    OMet l (⟨"com/example/urnwise/urnwise/sampler/SmallestKeys", "removeAll", "()[I"⟩ : MethodName) prog_15_method_7_code 3 (Option.some (FieldType.array FieldType.int)) [] ({ frames := 2, cells := 1, slots := 4, locals := 32 } : Room) Z h0 [a, kb, ib] #[(.ref a)] (fun v h' => ∃ (rr : Addr) (of : Nat → Int32), v = some (.ref rr) ∧ rr < h'.size ∧ Fld Z h' a "com/example/urnwise/urnwise/sampler/SmallestKeys" "size" "I" (.int 0) ∧ Ar Z h' rr .int n (fun i => .int (of i)) ∧ (∀ d, d < n → of d = (own_st n K J (n - 1 - d)).2 0)) := by
  refine OMet.of (own := "com/example/urnwise/urnwise/sampler/SmallestKeys") (nm := "removeAll") (plainFor_of_name pn_0) rfl rfl ?_
  intro p e s m below meth c T0 P0 hby hml hret hnm
  refine Done.step (T' := T0) (g' := (mkF m 0 #[.val (.ref a), .unset, .unset] [])) (fun t kk => castTop (ef_ra m a) kk) ?_
  have ltk := Ak.ltN
  have lti := Ai.ltN
  have lta := exaN E0
  refine Done.stepL (pc' := 1) (st' := [(.ref a)]) (fun t kk => ?_) ?_
  · show Steps p.tables e below (T0.setTop (mkF m 0 _ [])) t
    refine XS.aloadN P0.here P0.x rfl (hb hby d_ra_0) rfl rfl ?_
    exact kk
  refine wGet P0 (host := "") (Or.inl (tw26 hw)) Via.refl Fs (hb hby d_ra_1) rfl (fun T1 P2 => ?_)
  show Done _ _ _ _ _ _ _ _ _ _ _ _ _ _ _ T1 (mkF m 4 _ [(.int sv)])
  refine wNewA (aty := .int) P2 (tw18 hw) (hb hby d_ra_4) rfl (N := n) hsv (cap := 4) hn4 (by decide) (by decide) (by decide) (ad := "[I") (by decide) (ty := .int) (dv := (.int (0 : Int32))) rfl rfl (k' := 1) (n' := 4) rfl rfl (fun T3 h5 b6 g7 lt8 P4 E9 A10 X11 => ?_)
  have ge_b6 : h0.size ≤ b6 := by have := P2.ge; omega
  show Done _ _ _ _ _ _ _ _ _ _ _ _ _ _ _ T3 (mkF m 6 _ [(.ref b6)])
  refine Done.step (T' := T3) (g' := (mkF m 8 #[.val (.ref a), .val (.ref b6), .unset] [(.ref a)])) (fun t kk => ?_) ?_
  · show Steps p.tables e below (T3.setTop (mkF m 6 _ [(.ref b6)])) t
    refine XS.astoreN P4.here P4.x rfl (hb hby d_ra_6) rfl rfl (l' := #[.val (.ref a), .val (.ref b6), .unset]) rfl ?_
    show Steps p.tables e below (T3.setTop (mkF m 7 _ [])) t
    refine XS.aloadN P4.here P4.x rfl (hb hby d_ra_7) rfl rfl ?_
    exact kk
  have f12 := (Fs.ext E9)
  refine wGet P4 (host := "") (Or.inl (tw26 hw)) Via.refl f12 (hb hby d_ra_8) rfl (fun T13 P14 => ?_)
  show Done _ _ _ _ _ _ _ _ _ _ _ _ _ _ _ T13 (mkF m 11 _ [(.int sv)])
  refine Done.step (T' := T13) (g' := (mkF m 14 #[.val (.ref a), .val (.ref b6), .val (.int (sv - (1 : Int32)))] [])) (fun t kk => ?_) ?_
  · show Steps p.tables e below (T13.setTop (mkF m 11 _ [(.int sv)])) t
    refine XS.iconst P14.here P14.x rfl (hb hby d_ra_11) ?_
    show Steps p.tables e below (T13.setTop (mkF m 12 _ [(.int (1 : Int32)), (.int sv)])) t
    refine XS.isub P14.here P14.x rfl (hb hby d_ra_12) rfl ?_
    show Steps p.tables e below (T13.setTop (mkF m 13 _ [(.int (sv - (1 : Int32)))])) t
    refine XS.istoreN P14.here P14.x rfl (hb hby d_ra_13) rfl (l' := #[.val (.ref a), .val (.ref b6), .val (.int (sv - (1 : Int32)))]) rfl ?_
    exact kk
  have f15 := (Fk.ext E9)
  have f16 := (Fi.ext E9)
  have f17 := (Fc.ext E9)
  have f18 := (E0.ext E9)
  have f19 := (Ak.ext E9)
  have f20 := (Ai.ext E9)
  have neb : a ≠ b6 ∧ kb ≠ b6 ∧ ib ≠ b6 ∧ h0.size ≤ b6 := by have := ge_b6; refine ⟨?_, ?_, ?_, ?_⟩ <;> first | omega | exact adr_ne (by omega)
  obtain ⟨neb1, neb2, neb3, geb⟩ := neb
  have loop : ∀ (r : Nat) (j : Nat) (T : State) (h : Heap) (dv svv : Int32) (kf' : Nat → UInt64) (K' : Nat → Int) (J' : Nat → Int32) (of : Nat → Int32), r + j = n → dv.toInt = (r : Int) - 1 → svv.toInt = (r : Int) → (K', J') = own_st n K J j → Pos p l e ({ frames := 2, cells := 1, slots := 4, locals := 32 } : Room) s m #[(.ref a)] below meth c Z "com/example/urnwise/urnwise/sampler/SmallestKeys" [a, kb, ib] h0.size T h 1 4 → Exa Z h a "com/example/urnwise/urnwise/sampler/SmallestKeys" → Fld Z h a "com/example/urnwise/urnwise/sampler/SmallestKeys" "keys" "[D" (.ref kb) → Fld Z h a "com/example/urnwise/urnwise/sampler/SmallestKeys" "indices" "[I" (.ref ib) → Fld Z h a "com/example/urnwise/urnwise/sampler/SmallestKeys" "size" "I" (.int svv) → Fld Z h a "com/example/urnwise/urnwise/sampler/SmallestKeys" "capacity" "I" (.int cv) → Ar Z h kb .double N (fun i => .double (kf' i)) → Ar Z h ib .int N (fun i => .int (J' i)) → Ar Z h b6 .int n (fun i => .int (of i)) → (∀ i, i < N → DInt (K' i) (kf' i)) → (∀ d, r ≤ d → d < n → of d = (own_st n K J (n - 1 - d)).2 0) → Done p l e ({ frames := 2, cells := 1, slots := 4, locals := 32 } : Room) s m #[(.ref a)] below meth c Z "com/example/urnwise/urnwise/sampler/SmallestKeys" [a, kb, ib] h0.size (fun v h' => ∃ (rr : Addr) (of : Nat → Int32), v = some (.ref rr) ∧ rr < h'.size ∧ Fld Z h' a "com/example/urnwise/urnwise/sampler/SmallestKeys" "size" "I" (.int 0) ∧ Ar Z h' rr .int n (fun i => .int (of i)) ∧ (∀ d, d < n → of d = (own_st n K J (n - 1 - d)).2 0)) T (mkF m 14 #[.val (.ref a), .val (.ref b6), .val (.int dv)] []) := by
    intro r
    induction r with
    | zero =>
      intro j T h dv svv kf' K' J' of hr hdv hsvv hst P E' Fk' Fi' Fs' Fc' Ak' Ai' A1 dK' hof
      obtain rfl : svv = 0 := Int32.toInt_inj.mp hsvv
      refine Done.stepL (pc' := 32) (st' := [(.ref b6)]) (fun t kk => ?_) ?_
      · show Steps p.tables e below (T.setTop (mkF m 14 _ [])) t
        refine XS.iloadN P.here P.x rfl (hb hby d_ra_14) rfl ?_
        show Steps p.tables e below (T.setTop (mkF m 15 _ [(.int dv)])) t
        refine XS.ifYes P.here P.x rfl (pc0 := 15) (pc' := 31) rfl (hb hby d_ra_15) rfl (i0W_lt_t (by rw [Int32.lt_iff_toInt_lt, hdv]; decide)) (by decide) (by decide) ?_
        show Steps p.tables e below (T.setTop (mkF m 31 _ [])) t
        refine XS.aloadN P.here P.x rfl (hb hby d_ra_31) rfl rfl ?_
        exact kk
      exact wRetA P hret rfl rfl (hb hby d_ra_32) ⟨b6, of, rfl, A1.lt, Fs', A1, fun d hd => hof d (Nat.zero_le _) hd⟩
    | succ r ih =>
      intro j T h dv svv kf' K' J' of hr hdv hsvv hst P E' Fk' Fi' Fs' Fc' Ak' Ai' A1 dK' hof
      have hdr : dv.toInt = (r : Int) := by omega
      have eK : K' = (own_st n K J j).1 := congrArg Prod.fst hst
      have eJ : J' = (own_st n K J j).2 := congrArg Prod.snd hst
      have hrj : n - 1 - j = r := by omega
      refine Done.stepL (pc' := 21) (st' := [(.ref a), (.int dv), (.ref b6)]) (fun t kk => ?_) ?_
      · show Steps p.tables e below (T.setTop (mkF m 14 _ [])) t
        refine XS.iloadN P.here P.x rfl (hb hby d_ra_14) rfl ?_
        show Steps p.tables e below (T.setTop (mkF m 15 _ [(.int dv)])) t
        refine XS.ifNo P.here P.x rfl (hb hby d_ra_15) rfl (i0W_lt_f (by rw [Int32.lt_iff_toInt_lt, hdr, show (0 : Int32).toInt = 0 from rfl]; omega)) ?_
        show Steps p.tables e below (T.setTop (mkF m 18 _ [])) t
        refine XS.aloadN P.here P.x rfl (hb hby d_ra_18) rfl rfl ?_
        show Steps p.tables e below (T.setTop (mkF m 19 _ [(.ref b6)])) t
        refine XS.iloadN P.here P.x rfl (hb hby d_ra_19) rfl ?_
        show Steps p.tables e below (T.setTop (mkF m 20 _ [(.int dv), (.ref b6)])) t
        refine XS.aloadN P.here P.x rfl (hb hby d_ra_20) rfl rfl ?_
        exact kk
      refine wCallP P (m_rl l Z a0 hw a kb ib svv N (r + 1) kf' K' J' cv (svv - (1 : Int32)) r h E' Fk' Fi' Fs' Fc' Ak' Ai' n1 n2 n3 hN hsvv dK' rfl (own_dec hsvv) rfl (by omega)) (tw54 hw) (tw55 hw) (tw56 hw) (tw1 hw) (tw2 hw) (tw57 hw) (by decide) E' (by rw [hml]; rfl) (lenOf pd_2 rfl) (argsL := []) (rest := [(.int dv), (.ref b6)]) rfl rfl (W := 2) (Nat.le_of_eq rfl) (by decide) (by decide) (by decide) (by decide) (allS (Or.inl (by simp)) (allS (Or.inl (by simp)) (allS (Or.inl (by simp)) all0))) (hb hby d_ra_21) rfl (k' := 1) (n' := 4) rfl rfl ?_
      rintro T21 h31 _ P22 K32 ⟨rfl, kf23, F24, F25, F26, F27, A28, dK30, A29⟩
      have szh31 : h.size ≤ h31.size := K32.1
      show Done _ _ _ _ _ _ _ _ _ _ _ _ _ _ _ T21 (mkF m 24 _ [(.int (J' 0)), (.int dv), (.ref b6)])
      have f33 := (A1.keep K32 (ninS (by first | assumption | exact Ne.symm (by assumption) | exact adr_ne (by omega) | omega) (ninS (by first | assumption | exact Ne.symm (by assumption) | exact adr_ne (by omega) | omega) (ninS (by first | assumption | exact Ne.symm (by assumption) | exact adr_ne (by omega) | omega) nin0))))
      refine wIastore P22 (f := of) f33 (j := dv) (i := r) hdr (by omega) (Or.inr geb) (hb hby d_ra_24) rfl (fun T34 h36 P35 W37 A38 => ?_)
      have szh36 : h36.size = h31.size := W37.size
      show Done _ _ _ _ _ _ _ _ _ _ _ _ _ _ _ T34 (mkF m 25 _ [])
      refine Done.step (T' := T34) (g' := (mkF m 14 #[.val (.ref a), .val (.ref b6), .val (.int (dv + (-1 : Int32)))] [])) (fun t kk => ?_) ?_
      · show Steps p.tables e below (T34.setTop (mkF m 25 _ [])) t
        refine XS.iinc P35.here P35.x rfl (hb hby d_ra_25) rfl (l' := #[.val (.ref a), .val (.ref b6), .val (.int (dv + (-1 : Int32)))]) rfl ?_
        show Steps p.tables e below (T34.setTop (mkF m 28 _ [])) t
        refine XS.goto P35.here P35.x rfl (pc0 := 28) (pc' := 14) rfl (hb hby d_ra_28) (by decide) (by decide) ?_
        exact kk
      have f39 := ((E'.keep K32).wr W37)
      have f40 := (F25.other W37 (Or.inl (by first | assumption | exact Ne.symm (by assumption) | exact adr_ne (by omega) | omega)))
      have f41 := (F26.other W37 (Or.inl (by first | assumption | exact Ne.symm (by assumption) | exact adr_ne (by omega) | omega)))
      have f42 := (F24.other W37 (Or.inl (by first | assumption | exact Ne.symm (by assumption) | exact adr_ne (by omega) | omega)))
      have f43 := (F27.other W37 (Or.inl (by first | assumption | exact Ne.symm (by assumption) | exact adr_ne (by omega) | omega)))
      have f44 := (A28.other W37 (by first | assumption | exact Ne.symm (by assumption) | exact adr_ne (by omega) | omega))
      have f45 := (A29.other W37 (by first | assumption | exact Ne.symm (by assumption) | exact adr_ne (by omega) | omega))
      exact ih (j + 1) _ _ _ _ _ _ _ _ (by omega) (own_dm hdr (by omega)) (own_dec hsvv) (by show _ = own_dn (n - 1 - j) (n - 1 - j) _ _ 0 _ _; rw [hrj, ← eK, ← eJ]) P35 f39 f40 f41 f42 f43 f44 f45 A38 dK30 (fun d h1 h2 => own_upto hof (by rw [eJ, show n - 1 - r = j by omega]) d h1 h2)
  exact loop n 0 _ _ _ _ _ _ _ _ (by omega) (own_dm' hsv) hsv rfl P14 f18 f15 f16 f12 f17 f19 f20 A10 dK (fun d h1 h2 => absurd h1 (by omega))
theorem ef_minJ (m : MethodId) (x0 : Int64) (x1 : Int64) : entryFrame m #[(.long x0), (.long x1)] 4 = mkF m 0 #[.val (.long x0), .second, .val (.long x1), .second] [] := by first | (simp [entryFrame, mkF, argsToLocals, Value.category]; done) | rfl
theorem d_minJ_0 : decode jdk_29_method_70_code 0 = .ok (.lload_n 0, 1) := by decide +kernel
theorem d_minJ_1 : decode jdk_29_method_70_code 1 = .ok (.lload_n 2, 1) := by decide +kernel
theorem d_minJ_2 : decode jdk_29_method_70_code 2 = .ok (.lcmp, 1) := by decide +kernel
theorem d_minJ_3 : decode jdk_29_method_70_code 3 = .ok (.ifCond .gt 7, 3) := by decide +kernel
theorem d_minJ_6 : decode jdk_29_method_70_code 6 = .ok (.lload_n 0, 1) := by decide +kernel
theorem d_minJ_7 : decode jdk_29_method_70_code 7 = .ok (.goto 4, 3) := by decide +kernel
theorem d_minJ_10 : decode jdk_29_method_70_code 10 = .ok (.lload_n 2, 1) := by decide +kernel
theorem d_minJ_11 : decode jdk_29_method_70_code 11 = .ok (.lreturn, 1) := by decide +kernel
set_option maxRecDepth 65536 in
set_option maxHeartbeats 4000000 in
theorem m_minJ (l : Launch) (Z : State) (a0 : Array Value) (hw : ∀ d ∈ tables_1, d.before a0 Z = true) (p0 p1 : Int64) (h0 : Heap)  :
    OMet l (⟨"java/lang/Math", "min", "(JJ)J"⟩ : MethodName) jdk_29_method_70_code 4 (Option.some FieldType.long) [] ({ frames := 0, cells := 0, slots := 0, locals := 0 } : Room) Z h0 [] #[(.long p0), (.long p1)] (fun v h' => v = some (.long (own_mn p0 p1)) ∧ h0 = h') := by
  refine OMet.of (own := "java/lang/Math") (nm := "min") (Jvm.Free.JP.mathPlain rfl (by decide +kernel)) rfl rfl ?_
  intro p e s m below meth c T0 P0 hby hml hret hnm
  refine Done.step (T' := T0) (g' := (mkF m 0 #[.val (.long p0), .second, .val (.long p1), .second] [])) (fun t kk => castTop (ef_minJ m p0 p1) kk) ?_
  refine Done.stepL (pc' := 11) (st' := [(.long (if p1 < p0 then p1 else p0))]) (fun t kk => ?_) ?_
  · show Steps p.tables e below (T0.setTop (mkF m 0 _ [])) t
    refine XS.lloadN P0.here P0.x rfl (hb hby d_minJ_0) rfl ?_
    show Steps p.tables e below (T0.setTop (mkF m 1 _ [(.long p0)])) t
    refine XS.lloadN P0.here P0.x rfl (hb hby d_minJ_1) rfl ?_
    show Steps p.tables e below (T0.setTop (mkF m 2 _ [(.long p1), (.long p0)])) t
    refine XS.lcmp P0.here P0.x rfl (hb hby d_minJ_2) rfl ?_
    show Steps p.tables e below (T0.setTop (mkF m 3 _ [(.int (lcmpW p0 p1))])) t
    suffices kk2 : Steps p.tables e below (T0.setTop (mkF m 11 #[.val (.long p0), .second, .val (.long p1), .second] [(.long (if p1 < p0 then p1 else p0))])) t by
      by_cases hc1 : p1 < p0
      · skip
        replace kk2 := Eq.mp (congrArg (fun z_ : Int64 => Steps p.tables e below (T0.setTop (mkF m 11 #[.val (.long p0), .second, .val (.long p1), .second] [(.long z_)])) t) (show (if p1 < p0 then p1 else p0) = p1 from if_pos hc1)) kk2
        show Steps p.tables e below (T0.setTop (mkF m 3 _ [(.int (lcmpW p0 p1))])) t
        refine XS.ifYes P0.here P0.x rfl (pc0 := 3) (pc' := 10) rfl (hb hby d_minJ_3) rfl (lcW_gt_t hc1) (by decide) (by decide) ?_
        show Steps p.tables e below (T0.setTop (mkF m 10 _ [])) t
        refine XS.lloadN P0.here P0.x rfl (hb hby d_minJ_10) rfl ?_
        exact kk2
      · skip
        replace kk2 := Eq.mp (congrArg (fun z_ : Int64 => Steps p.tables e below (T0.setTop (mkF m 11 #[.val (.long p0), .second, .val (.long p1), .second] [(.long z_)])) t) (show (if p1 < p0 then p1 else p0) = p0 from if_neg hc1)) kk2
        show Steps p.tables e below (T0.setTop (mkF m 3 _ [(.int (lcmpW p0 p1))])) t
        refine XS.ifNo P0.here P0.x rfl (hb hby d_minJ_3) rfl (lcW_gt_f hc1) ?_
        show Steps p.tables e below (T0.setTop (mkF m 6 _ [])) t
        refine XS.lloadN P0.here P0.x rfl (hb hby d_minJ_6) rfl ?_
        show Steps p.tables e below (T0.setTop (mkF m 7 _ [(.long p0)])) t
        refine XS.goto P0.here P0.x rfl (pc0 := 7) (pc' := 11) rfl (hb hby d_minJ_7) (by decide) (by decide) ?_
        exact kk2
    exact kk
  exact wRetJ P0 hret (hb hby d_minJ_11) ⟨rfl, rfl⟩
theorem ef_maxJ (m : MethodId) (x0 : Int64) (x1 : Int64) : entryFrame m #[(.long x0), (.long x1)] 4 = mkF m 0 #[.val (.long x0), .second, .val (.long x1), .second] [] := by first | (simp [entryFrame, mkF, argsToLocals, Value.category]; done) | rfl
theorem d_maxJ_0 : decode jdk_29_method_66_code 0 = .ok (.lload_n 0, 1) := by decide +kernel
theorem d_maxJ_1 : decode jdk_29_method_66_code 1 = .ok (.lload_n 2, 1) := by decide +kernel
theorem d_maxJ_2 : decode jdk_29_method_66_code 2 = .ok (.lcmp, 1) := by decide +kernel
theorem d_maxJ_3 : decode jdk_29_method_66_code 3 = .ok (.ifCond .lt 7, 3) := by decide +kernel
theorem d_maxJ_6 : decode jdk_29_method_66_code 6 = .ok (.lload_n 0, 1) := by decide +kernel
theorem d_maxJ_7 : decode jdk_29_method_66_code 7 = .ok (.goto 4, 3) := by decide +kernel
theorem d_maxJ_10 : decode jdk_29_method_66_code 10 = .ok (.lload_n 2, 1) := by decide +kernel
theorem d_maxJ_11 : decode jdk_29_method_66_code 11 = .ok (.lreturn, 1) := by decide +kernel
set_option maxRecDepth 65536 in
set_option maxHeartbeats 4000000 in
theorem m_maxJ (l : Launch) (Z : State) (a0 : Array Value) (hw : ∀ d ∈ tables_1, d.before a0 Z = true) (p0 p1 : Int64) (h0 : Heap)  :
    OMet l (⟨"java/lang/Math", "max", "(JJ)J"⟩ : MethodName) jdk_29_method_66_code 4 (Option.some FieldType.long) [] ({ frames := 0, cells := 0, slots := 0, locals := 0 } : Room) Z h0 [] #[(.long p0), (.long p1)] (fun v h' => v = some (.long (own_mx p0 p1)) ∧ h0 = h') := by
  refine OMet.of (own := "java/lang/Math") (nm := "max") (Jvm.Free.JP.mathPlain rfl (by decide +kernel)) rfl rfl ?_
  intro p e s m below meth c T0 P0 hby hml hret hnm
  refine Done.step (T' := T0) (g' := (mkF m 0 #[.val (.long p0), .second, .val (.long p1), .second] [])) (fun t kk => castTop (ef_maxJ m p0 p1) kk) ?_
  refine Done.stepL (pc' := 11) (st' := [(.long (if p0 < p1 then p1 else p0))]) (fun t kk => ?_) ?_
  · show Steps p.tables e below (T0.setTop (mkF m 0 _ [])) t
    refine XS.lloadN P0.here P0.x rfl (hb hby d_maxJ_0) rfl ?_
    show Steps p.tables e below (T0.setTop (mkF m 1 _ [(.long p0)])) t
    refine XS.lloadN P0.here P0.x rfl (hb hby d_maxJ_1) rfl ?_
    show Steps p.tables e below (T0.setTop (mkF m 2 _ [(.long p1), (.long p0)])) t
    refine XS.lcmp P0.here P0.x rfl (hb hby d_maxJ_2) rfl ?_
    show Steps p.tables e below (T0.setTop (mkF m 3 _ [(.int (lcmpW p0 p1))])) t
    suffices kk2 : Steps p.tables e below (T0.setTop (mkF m 11 #[.val (.long p0), .second, .val (.long p1), .second] [(.long (if p0 < p1 then p1 else p0))])) t by
      by_cases hc1 : p0 < p1
      · skip
        replace kk2 := Eq.mp (congrArg (fun z_ : Int64 => Steps p.tables e below (T0.setTop (mkF m 11 #[.val (.long p0), .second, .val (.long p1), .second] [(.long z_)])) t) (show (if p0 < p1 then p1 else p0) = p1 from if_pos hc1)) kk2
        show Steps p.tables e below (T0.setTop (mkF m 3 _ [(.int (lcmpW p0 p1))])) t
        refine XS.ifYes P0.here P0.x rfl (pc0 := 3) (pc' := 10) rfl (hb hby d_maxJ_3) rfl (lcW_lt_t hc1) (by decide) (by decide) ?_
        show Steps p.tables e below (T0.setTop (mkF m 10 _ [])) t
        refine XS.lloadN P0.here P0.x rfl (hb hby d_maxJ_10) rfl ?_
        exact kk2
      · skip
        replace kk2 := Eq.mp (congrArg (fun z_ : Int64 => Steps p.tables e below (T0.setTop (mkF m 11 #[.val (.long p0), .second, .val (.long p1), .second] [(.long z_)])) t) (show (if p0 < p1 then p1 else p0) = p0 from if_neg hc1)) kk2
        show Steps p.tables e below (T0.setTop (mkF m 3 _ [(.int (lcmpW p0 p1))])) t
        refine XS.ifNo P0.here P0.x rfl (hb hby d_maxJ_3) rfl (lcW_lt_f hc1) ?_
        show Steps p.tables e below (T0.setTop (mkF m 6 _ [])) t
        refine XS.lloadN P0.here P0.x rfl (hb hby d_maxJ_6) rfl ?_
        show Steps p.tables e below (T0.setTop (mkF m 7 _ [(.long p0)])) t
        refine XS.goto P0.here P0.x rfl (pc0 := 7) (pc' := 11) rfl (hb hby d_maxJ_7) (by decide) (by decide) ?_
        exact kk2
    exact kk
  exact wRetJ P0 hret (hb hby d_maxJ_11) ⟨rfl, rfl⟩
theorem ef_law (m : MethodId) (x0 : Int32) (x1 : Int32) (x2 : Int32) (x3 : Int32) (x4 : Int32) : entryFrame m #[(.int x0), (.int x1), (.int x2), (.int x3), (.int x4)] maxLocals = mkF m 0 #[.val (.int x0), .val (.int x1), .val (.int x2), .val (.int x3), .val (.int x4), .unset, .unset, .unset, .unset, .unset, .unset, .unset, .unset, .unset, .unset, .unset, .unset, .unset, .unset, .unset, .unset, .unset, .unset, .unset, .unset, .unset, .unset, .unset, .unset, .unset, .unset, .unset, .unset, .unset, .unset, .unset, .unset, .unset, .unset, .unset, .unset, .unset] [] := by first | (simp [entryFrame, mkF, argsToLocals, Value.category, maxLocals]; done) | rfl
set_option maxRecDepth 65536 in
set_option maxHeartbeats 4000000 in
theorem m_law (l : Launch) (Z : State) (a0 : Array Value) (hw : ∀ d ∈ tables_1, d.before a0 Z = true) (p0 p1 p2 p3 p4 : Int32) (h0 : Heap)  :
    OMet l x code maxLocals ret tables_1 room_1 Z h0 [] #[(.int p0), (.int p1), (.int p2), (.int p3), (.int p4)] (fun v h' => v = some (.int 1)) := by
  refine OMet.of (own := "com/example/urnwise/urnwise/sampler/SmallestKeysRemoveAllPinLaw") (nm := "law") (plainFor_of_name pn_1) rfl rfl ?_
  intro p e s m below meth c T0 P0 hby hml hret hnm
  refine Done.step (T' := T0) (g' := (mkF m 0 #[.val (.int p0), .val (.int p1), .val (.int p2), .val (.int p3), .val (.int p4), .unset, .unset, .unset, .unset, .unset, .unset, .unset, .unset, .unset, .unset, .unset, .unset, .unset, .unset, .unset, .unset, .unset, .unset, .unset, .unset, .unset, .unset, .unset, .unset, .unset, .unset, .unset, .unset, .unset, .unset, .unset, .unset, .unset, .unset, .unset, .unset, .unset] [])) (fun t kk => castTop (ef_law m p0 p1 p2 p3 p4) kk) ?_
  refine Done.step (T' := T0) (g' := (mkF m 47 #[.val (.int p0), .val (.int p1), .val (.int p2), .val (.int p3), .val (.int p4), .val (.int ((1 : Int32) + (p0 &&& (3 : Int32)))), .val (.int (((p0.toUInt32 >>> ((2 : Int32) &&& 31).toUInt32).toInt32) - (((p0.toUInt32 >>> ((2 : Int32) &&& 31).toUInt32).toInt32) / (5 : Int32)) * (5 : Int32))), .val (.int ((p1 &&& (-4 : Int32)) ||| (0 : Int32))), .val (.int ((p2 &&& (-4 : Int32)) ||| (1 : Int32))), .val (.int ((p3 &&& (-4 : Int32)) ||| (2 : Int32))), .val (.int ((p4 &&& (-4 : Int32)) ||| (3 : Int32))), .unset, .unset, .unset, .unset, .unset, .unset, .unset, .unset, .unset, .unset, .unset, .unset, .unset, .unset, .unset, .unset, .unset, .unset, .unset, .unset, .unset, .unset, .unset, .unset, .unset, .unset, .unset, .unset, .unset, .unset, .unset] [])) (fun t kk => ?_) ?_
  · show Steps p.tables e below (T0.setTop (mkF m 0 _ [])) t
    refine XS.iconst P0.here P0.x rfl (hb hby at_0) ?_
    show Steps p.tables e below (T0.setTop (mkF m 1 _ [(.int (1 : Int32))])) t
    refine XS.iloadN P0.here P0.x rfl (hb hby at_1) rfl ?_
    show Steps p.tables e below (T0.setTop (mkF m 2 _ [(.int p0), (.int (1 : Int32))])) t
    refine XS.iconst P0.here P0.x rfl (hb hby at_2) ?_
    show Steps p.tables e below (T0.setTop (mkF m 3 _ [(.int (3 : Int32)), (.int p0), (.int (1 : Int32))])) t
    refine XS.iand P0.here P0.x rfl (hb hby at_3) rfl ?_
    show Steps p.tables e below (T0.setTop (mkF m 4 _ [(.int (p0 &&& (3 : Int32))), (.int (1 : Int32))])) t
    refine XS.iadd P0.here P0.x rfl (hb hby at_4) rfl ?_
    show Steps p.tables e below (T0.setTop (mkF m 5 _ [(.int ((1 : Int32) + (p0 &&& (3 : Int32))))])) t
    refine XS.istore P0.here P0.x rfl (hb hby at_5) rfl (l' := #[.val (.int p0), .val (.int p1), .val (.int p2), .val (.int p3), .val (.int p4), .val (.int ((1 : Int32) + (p0 &&& (3 : Int32)))), .unset, .unset, .unset, .unset, .unset, .unset, .unset, .unset, .unset, .unset, .unset, .unset, .unset, .unset, .unset, .unset, .unset, .unset, .unset, .unset, .unset, .unset, .unset, .unset, .unset, .unset, .unset, .unset, .unset, .unset, .unset, .unset, .unset, .unset, .unset, .unset]) rfl ?_
    show Steps p.tables e below (T0.setTop (mkF m 7 _ [])) t
    refine XS.iloadN P0.here P0.x rfl (hb hby at_7) rfl ?_
    show Steps p.tables e below (T0.setTop (mkF m 8 _ [(.int p0)])) t
    refine XS.iconst P0.here P0.x rfl (hb hby at_8) ?_
    show Steps p.tables e below (T0.setTop (mkF m 9 _ [(.int (2 : Int32)), (.int p0)])) t
    refine XS.iushr P0.here P0.x rfl (hb hby at_9) rfl ?_
    show Steps p.tables e below (T0.setTop (mkF m 10 _ [(.int ((p0.toUInt32 >>> ((2 : Int32) &&& 31).toUInt32).toInt32))])) t
    refine XS.iconst P0.here P0.x rfl (hb hby at_10) ?_
    show Steps p.tables e below (T0.setTop (mkF m 11 _ [(.int (5 : Int32)), (.int ((p0.toUInt32 >>> ((2 : Int32) &&& 31).toUInt32).toInt32))])) t
    refine XS.irem P0.here P0.x rfl (hb hby at_11) rfl (by decide) ?_
    show Steps p.tables e below (T0.setTop (mkF m 12 _ [(.int (((p0.toUInt32 >>> ((2 : Int32) &&& 31).toUInt32).toInt32) - (((p0.toUInt32 >>> ((2 : Int32) &&& 31).toUInt32).toInt32) / (5 : Int32)) * (5 : Int32)))])) t
    refine XS.istore P0.here P0.x rfl (hb hby at_12) rfl (l' := #[.val (.int p0), .val (.int p1), .val (.int p2), .val (.int p3), .val (.int p4), .val (.int ((1 : Int32) + (p0 &&& (3 : Int32)))), .val (.int (((p0.toUInt32 >>> ((2 : Int32) &&& 31).toUInt32).toInt32) - (((p0.toUInt32 >>> ((2 : Int32) &&& 31).toUInt32).toInt32) / (5 : Int32)) * (5 : Int32))), .unset, .unset, .unset, .unset, .unset, .unset, .unset, .unset, .unset, .unset, .unset, .unset, .unset, .unset, .unset, .unset, .unset, .unset, .unset, .unset, .unset, .unset, .unset, .unset, .unset, .unset, .unset, .unset, .unset, .unset, .unset, .unset, .unset, .unset, .unset]) rfl ?_
    show Steps p.tables e below (T0.setTop (mkF m 14 _ [])) t
    refine XS.iloadN P0.here P0.x rfl (hb hby at_14) rfl ?_
    show Steps p.tables e below (T0.setTop (mkF m 15 _ [(.int p1)])) t
    refine XS.bipush P0.here P0.x rfl (hb hby at_15) ?_
    show Steps p.tables e below (T0.setTop (mkF m 17 _ [(.int (-4 : Int32)), (.int p1)])) t
    refine XS.iand P0.here P0.x rfl (hb hby at_17) rfl ?_
    show Steps p.tables e below (T0.setTop (mkF m 18 _ [(.int (p1 &&& (-4 : Int32)))])) t
    refine XS.iconst P0.here P0.x rfl (hb hby at_18) ?_
    show Steps p.tables e below (T0.setTop (mkF m 19 _ [(.int (0 : Int32)), (.int (p1 &&& (-4 : Int32)))])) t
    refine XS.ior P0.here P0.x rfl (hb hby at_19) rfl ?_
    show Steps p.tables e below (T0.setTop (mkF m 20 _ [(.int ((p1 &&& (-4 : Int32)) ||| (0 : Int32)))])) t
    refine XS.istore P0.here P0.x rfl (hb hby at_20) rfl (l' := #[.val (.int p0), .val (.int p1), .val (.int p2), .val (.int p3), .val (.int p4), .val (.int ((1 : Int32) + (p0 &&& (3 : Int32)))), .val (.int (((p0.toUInt32 >>> ((2 : Int32) &&& 31).toUInt32).toInt32) - (((p0.toUInt32 >>> ((2 : Int32) &&& 31).toUInt32).toInt32) / (5 : Int32)) * (5 : Int32))), .val (.int ((p1 &&& (-4 : Int32)) ||| (0 : Int32))), .unset, .unset, .unset, .unset, .unset, .unset, .unset, .unset, .unset, .unset, .unset, .unset, .unset, .unset, .unset, .unset, .unset, .unset, .unset, .unset, .unset, .unset, .unset, .unset, .unset, .unset, .unset, .unset, .unset, .unset, .unset, .unset, .unset, .unset]) rfl ?_
    show Steps p.tables e below (T0.setTop (mkF m 22 _ [])) t
    refine XS.iloadN P0.here P0.x rfl (hb hby at_22) rfl ?_
    show Steps p.tables e below (T0.setTop (mkF m 23 _ [(.int p2)])) t
    refine XS.bipush P0.here P0.x rfl (hb hby at_23) ?_
    show Steps p.tables e below (T0.setTop (mkF m 25 _ [(.int (-4 : Int32)), (.int p2)])) t
    refine XS.iand P0.here P0.x rfl (hb hby at_25) rfl ?_
    show Steps p.tables e below (T0.setTop (mkF m 26 _ [(.int (p2 &&& (-4 : Int32)))])) t
    refine XS.iconst P0.here P0.x rfl (hb hby at_26) ?_
    show Steps p.tables e below (T0.setTop (mkF m 27 _ [(.int (1 : Int32)), (.int (p2 &&& (-4 : Int32)))])) t
    refine XS.ior P0.here P0.x rfl (hb hby at_27) rfl ?_
    show Steps p.tables e below (T0.setTop (mkF m 28 _ [(.int ((p2 &&& (-4 : Int32)) ||| (1 : Int32)))])) t
    refine XS.istore P0.here P0.x rfl (hb hby at_28) rfl (l' := #[.val (.int p0), .val (.int p1), .val (.int p2), .val (.int p3), .val (.int p4), .val (.int ((1 : Int32) + (p0 &&& (3 : Int32)))), .val (.int (((p0.toUInt32 >>> ((2 : Int32) &&& 31).toUInt32).toInt32) - (((p0.toUInt32 >>> ((2 : Int32) &&& 31).toUInt32).toInt32) / (5 : Int32)) * (5 : Int32))), .val (.int ((p1 &&& (-4 : Int32)) ||| (0 : Int32))), .val (.int ((p2 &&& (-4 : Int32)) ||| (1 : Int32))), .unset, .unset, .unset, .unset, .unset, .unset, .unset, .unset, .unset, .unset, .unset, .unset, .unset, .unset, .unset, .unset, .unset, .unset, .unset, .unset, .unset, .unset, .unset, .unset, .unset, .unset, .unset, .unset, .unset, .unset, .unset, .unset, .unset]) rfl ?_
    show Steps p.tables e below (T0.setTop (mkF m 30 _ [])) t
    refine XS.iloadN P0.here P0.x rfl (hb hby at_30) rfl ?_
    show Steps p.tables e below (T0.setTop (mkF m 31 _ [(.int p3)])) t
    refine XS.bipush P0.here P0.x rfl (hb hby at_31) ?_
    show Steps p.tables e below (T0.setTop (mkF m 33 _ [(.int (-4 : Int32)), (.int p3)])) t
    refine XS.iand P0.here P0.x rfl (hb hby at_33) rfl ?_
    show Steps p.tables e below (T0.setTop (mkF m 34 _ [(.int (p3 &&& (-4 : Int32)))])) t
    refine XS.iconst P0.here P0.x rfl (hb hby at_34) ?_
    show Steps p.tables e below (T0.setTop (mkF m 35 _ [(.int (2 : Int32)), (.int (p3 &&& (-4 : Int32)))])) t
    refine XS.ior P0.here P0.x rfl (hb hby at_35) rfl ?_
    show Steps p.tables e below (T0.setTop (mkF m 36 _ [(.int ((p3 &&& (-4 : Int32)) ||| (2 : Int32)))])) t
    refine XS.istore P0.here P0.x rfl (hb hby at_36) rfl (l' := #[.val (.int p0), .val (.int p1), .val (.int p2), .val (.int p3), .val (.int p4), .val (.int ((1 : Int32) + (p0 &&& (3 : Int32)))), .val (.int (((p0.toUInt32 >>> ((2 : Int32) &&& 31).toUInt32).toInt32) - (((p0.toUInt32 >>> ((2 : Int32) &&& 31).toUInt32).toInt32) / (5 : Int32)) * (5 : Int32))), .val (.int ((p1 &&& (-4 : Int32)) ||| (0 : Int32))), .val (.int ((p2 &&& (-4 : Int32)) ||| (1 : Int32))), .val (.int ((p3 &&& (-4 : Int32)) ||| (2 : Int32))), .unset, .unset, .unset, .unset, .unset, .unset, .unset, .unset, .unset, .unset, .unset, .unset, .unset, .unset, .unset, .unset, .unset, .unset, .unset, .unset, .unset, .unset, .unset, .unset, .unset, .unset, .unset, .unset, .unset, .unset, .unset, .unset]) rfl ?_
    show Steps p.tables e below (T0.setTop (mkF m 38 _ [])) t
    refine XS.iload P0.here P0.x rfl (hb hby at_38) rfl ?_
    show Steps p.tables e below (T0.setTop (mkF m 40 _ [(.int p4)])) t
    refine XS.bipush P0.here P0.x rfl (hb hby at_40) ?_
    show Steps p.tables e below (T0.setTop (mkF m 42 _ [(.int (-4 : Int32)), (.int p4)])) t
    refine XS.iand P0.here P0.x rfl (hb hby at_42) rfl ?_
    show Steps p.tables e below (T0.setTop (mkF m 43 _ [(.int (p4 &&& (-4 : Int32)))])) t
    refine XS.iconst P0.here P0.x rfl (hb hby at_43) ?_
    show Steps p.tables e below (T0.setTop (mkF m 44 _ [(.int (3 : Int32)), (.int (p4 &&& (-4 : Int32)))])) t
    refine XS.ior P0.here P0.x rfl (hb hby at_44) rfl ?_
    show Steps p.tables e below (T0.setTop (mkF m 45 _ [(.int ((p4 &&& (-4 : Int32)) ||| (3 : Int32)))])) t
    refine XS.istore P0.here P0.x rfl (hb hby at_45) rfl (l' := #[.val (.int p0), .val (.int p1), .val (.int p2), .val (.int p3), .val (.int p4), .val (.int ((1 : Int32) + (p0 &&& (3 : Int32)))), .val (.int (((p0.toUInt32 >>> ((2 : Int32) &&& 31).toUInt32).toInt32) - (((p0.toUInt32 >>> ((2 : Int32) &&& 31).toUInt32).toInt32) / (5 : Int32)) * (5 : Int32))), .val (.int ((p1 &&& (-4 : Int32)) ||| (0 : Int32))), .val (.int ((p2 &&& (-4 : Int32)) ||| (1 : Int32))), .val (.int ((p3 &&& (-4 : Int32)) ||| (2 : Int32))), .val (.int ((p4 &&& (-4 : Int32)) ||| (3 : Int32))), .unset, .unset, .unset, .unset, .unset, .unset, .unset, .unset, .unset, .unset, .unset, .unset, .unset, .unset, .unset, .unset, .unset, .unset, .unset, .unset, .unset, .unset, .unset, .unset, .unset, .unset, .unset, .unset, .unset, .unset, .unset]) rfl ?_
    exact kk
  generalize g_cv : ((1 : Int32) + (p0 &&& (3 : Int32))) = cv
  have hcv : cv = 1 ∨ cv = 2 ∨ cv = 3 ∨ cv = 4 := by rw [← g_cv]; exact own_cv p0
  show Done _ _ _ _ _ _ _ _ _ _ _ _ _ _ _ T0 (mkF m 47 _ [])
  generalize g_nv : (((p0.toUInt32 >>> ((2 : Int32) &&& 31).toUInt32).toInt32) - (((p0.toUInt32 >>> ((2 : Int32) &&& 31).toUInt32).toInt32) / (5 : Int32)) * (5 : Int32)) = nv
  have hnv : nv = 0 ∨ nv = 1 ∨ nv = 2 ∨ nv = 3 ∨ nv = 4 := by rw [← g_nv]; exact own_nv p0
  show Done _ _ _ _ _ _ _ _ _ _ _ _ _ _ _ T0 (mkF m 47 _ [])
  generalize g_e0 : ((p1 &&& (-4 : Int32)) ||| (0 : Int32)) = e0
  have m0 : e0.toInt % 4 = 0 := by rw [← g_e0]; exact own_k0 p1
  show Done _ _ _ _ _ _ _ _ _ _ _ _ _ _ _ T0 (mkF m 47 _ [])
  generalize g_e1 : ((p2 &&& (-4 : Int32)) ||| (1 : Int32)) = e1
  have m1 : e1.toInt % 4 = 1 := by rw [← g_e1]; exact own_k1 p2
  show Done _ _ _ _ _ _ _ _ _ _ _ _ _ _ _ T0 (mkF m 47 _ [])
  generalize g_e2 : ((p3 &&& (-4 : Int32)) ||| (2 : Int32)) = e2
  have m2 : e2.toInt % 4 = 2 := by rw [← g_e2]; exact own_k2 p3
  show Done _ _ _ _ _ _ _ _ _ _ _ _ _ _ _ T0 (mkF m 47 _ [])
  generalize g_e3 : ((p4 &&& (-4 : Int32)) ||| (3 : Int32)) = e3
  have m3 : e3.toInt % 4 = 3 := by rw [← g_e3]; exact own_k3 p4
  show Done _ _ _ _ _ _ _ _ _ _ _ _ _ _ _ T0 (mkF m 47 _ [])
  have d01 : e0.toInt ≠ e1.toInt := by omega
  have d02 : e0.toInt ≠ e2.toInt := by omega
  have d03 : e0.toInt ≠ e3.toInt := by omega
  have d12 : e1.toInt ≠ e2.toInt := by omega
  have d13 : e1.toInt ≠ e3.toInt := by omega
  have d23 : e2.toInt ≠ e3.toInt := by omega
  clear m0 m1 m2 m3 g_cv g_nv g_e0 g_e1 g_e2 g_e3
  have tail : ∀ (T : State) (h : Heap) (o rr : Addr) (k n : Nat) (cv nv : Int32) (N : Nat) (of : Nat → Int32) (s0 s1 s2 s3 : Int64), Pos p l e room_1 s m #[(.int p0), (.int p1), (.int p2), (.int p3), (.int p4)] below meth c Z "com/example/urnwise/urnwise/sampler/SmallestKeysRemoveAllPinLaw" [] h0.size T h k n → k ≤ 16 → n ≤ 128 → Exa Z h o "com/example/urnwise/urnwise/sampler/SmallestKeys" → Fld Z h o "com/example/urnwise/urnwise/sampler/SmallestKeys" "size" "I" (.int 0) → Ar Z h rr .int N (fun i => .int (of i)) → (if nv < cv then nv else cv).toInt = (N : Int) → (0 < N → (of 0).toInt64 = (own_mn (own_mn s0 s1) (own_mn s2 s3))) → (1 < N → (of 1).toInt64 = (own_mn (own_mn (own_mx s0 s1) (own_mx s2 s3)) (own_mx (own_mn s0 s1) (own_mn s2 s3)))) → (2 < N → (of 2).toInt64 = (own_mx (own_mn (own_mx s0 s1) (own_mx s2 s3)) (own_mx (own_mn s0 s1) (own_mn s2 s3)))) → (3 < N → (of 3).toInt64 = (own_mx (own_mx s0 s1) (own_mx s2 s3))) → Done p l e room_1 s m #[(.int p0), (.int p1), (.int p2), (.int p3), (.int p4)] below meth c Z "com/example/urnwise/urnwise/sampler/SmallestKeysRemoveAllPinLaw" [] h0.size (fun v h' => v = some (.int 1)) T (mkF m 197 #[.val (.int p0), .val (.int p1), .val (.int p2), .val (.int p3), .val (.int p4), .val (.int cv), .val (.int nv), .val (.int e0), .val (.int e1), .val (.int e2), .val (.int e3), .val (.ref o), .val (.ref rr), .val (.long s0), .second, .val (.long s1), .second, .val (.long s2), .second, .val (.long s3), .second, .unset, .unset, .unset, .unset, .unset, .unset, .unset, .unset, .unset, .unset, .unset, .unset, .unset, .unset, .unset, .unset, .unset, .unset, .unset, .unset, .unset] []) := by
    intro T h o rr k n cv nv N of s0 s1 s2 s3 P hk hn Eo Fs A1 hm f0 f1 f2 f3
    have lN := A1.len
    refine Done.stepL (pc' := 201) (st' := [(.long s1), (.long s0)]) (fun t kk => ?_) ?_
    · show Steps p.tables e below (T.setTop (mkF m 197 _ [])) t
      refine XS.lload P.here P.x rfl (hb hby at_197) rfl ?_
      show Steps p.tables e below (T.setTop (mkF m 199 _ [(.long s0)])) t
      refine XS.lload P.here P.x rfl (hb hby at_199) rfl ?_
      exact kk
    refine wCallS P (m_minJ l Z a0 hw s0 s1 h) (tw29 hw) (tw30 hw) (tw13 hw) (tw31 hw) (by decide) (by rw [hml]; rfl) (lenOf pd_3 rfl) (argsL := [(.long s0), (.long s1)]) (rest := []) rfl rfl (W := 0) (Nat.le_of_eq rfl) (by decide) (by decide) (by show k + 0 ≤ 16; omega) (by show n + 0 ≤ 128; omega) (by simp) (hb hby at_201) rfl (k' := k) (n' := n) rfl rfl ?_
    rintro T1 _ _ P2 - ⟨rfl, rfl⟩
    show Done _ _ _ _ _ _ _ _ _ _ _ _ _ _ _ T1 (mkF m 204 _ [(.long (own_mn s0 s1))])
    refine Done.step (T' := T1) (g' := (mkF m 210 #[.val (.int p0), .val (.int p1), .val (.int p2), .val (.int p3), .val (.int p4), .val (.int cv), .val (.int nv), .val (.int e0), .val (.int e1), .val (.int e2), .val (.int e3), .val (.ref o), .val (.ref rr), .val (.long s0), .second, .val (.long s1), .second, .val (.long s2), .second, .val (.long s3), .second, .val (.long (own_mn s0 s1)), .second, .unset, .unset, .unset, .unset, .unset, .unset, .unset, .unset, .unset, .unset, .unset, .unset, .unset, .unset, .unset, .unset, .unset, .unset, .unset] [(.long s1), (.long s0)])) (fun t kk => ?_) ?_
    · show Steps p.tables e below (T1.setTop (mkF m 204 _ [(.long (own_mn s0 s1))])) t
      refine XS.lstore P2.here P2.x rfl (hb hby at_204) rfl (l' := #[.val (.int p0), .val (.int p1), .val (.int p2), .val (.int p3), .val (.int p4), .val (.int cv), .val (.int nv), .val (.int e0), .val (.int e1), .val (.int e2), .val (.int e3), .val (.ref o), .val (.ref rr), .val (.long s0), .second, .val (.long s1), .second, .val (.long s2), .second, .val (.long s3), .second, .val (.long (own_mn s0 s1)), .second, .unset, .unset, .unset, .unset, .unset, .unset, .unset, .unset, .unset, .unset, .unset, .unset, .unset, .unset, .unset, .unset, .unset, .unset, .unset]) rfl ?_
      show Steps p.tables e below (T1.setTop (mkF m 206 _ [])) t
      refine XS.lload P2.here P2.x rfl (hb hby at_206) rfl ?_
      show Steps p.tables e below (T1.setTop (mkF m 208 _ [(.long s0)])) t
      refine XS.lload P2.here P2.x rfl (hb hby at_208) rfl ?_
      exact kk
    refine wCallS P2 (m_maxJ l Z a0 hw s0 s1 h) (tw32 hw) (tw33 hw) (tw13 hw) (tw34 hw) (by decide) (by rw [hml]; rfl) (lenOf pd_3 rfl) (argsL := [(.long s0), (.long s1)]) (rest := []) rfl rfl (W := 0) (Nat.le_of_eq rfl) (by decide) (by decide) (by show k + 0 ≤ 16; omega) (by show n + 0 ≤ 128; omega) (by simp) (hb hby at_210) rfl (k' := k) (n' := n) rfl rfl ?_
    rintro T3 _ _ P4 - ⟨rfl, rfl⟩
    show Done _ _ _ _ _ _ _ _ _ _ _ _ _ _ _ T3 (mkF m 213 _ [(.long (own_mx s0 s1))])
    refine Done.step (T' := T3) (g' := (mkF m 219 #[.val (.int p0), .val (.int p1), .val (.int p2), .val (.int p3), .val (.int p4), .val (.int cv), .val (.int nv), .val (.int e0), .val (.int e1), .val (.int e2), .val (.int e3), .val (.ref o), .val (.ref rr), .val (.long s0), .second, .val (.long s1), .second, .val (.long s2), .second, .val (.long s3), .second, .val (.long (own_mn s0 s1)), .second, .val (.long (own_mx s0 s1)), .second, .unset, .unset, .unset, .unset, .unset, .unset, .unset, .unset, .unset, .unset, .unset, .unset, .unset, .unset, .unset, .unset, .unset] [(.long s3), (.long s2)])) (fun t kk => ?_) ?_
    · show Steps p.tables e below (T3.setTop (mkF m 213 _ [(.long (own_mx s0 s1))])) t
      refine XS.lstore P4.here P4.x rfl (hb hby at_213) rfl (l' := #[.val (.int p0), .val (.int p1), .val (.int p2), .val (.int p3), .val (.int p4), .val (.int cv), .val (.int nv), .val (.int e0), .val (.int e1), .val (.int e2), .val (.int e3), .val (.ref o), .val (.ref rr), .val (.long s0), .second, .val (.long s1), .second, .val (.long s2), .second, .val (.long s3), .second, .val (.long (own_mn s0 s1)), .second, .val (.long (own_mx s0 s1)), .second, .unset, .unset, .unset, .unset, .unset, .unset, .unset, .unset, .unset, .unset, .unset, .unset, .unset, .unset, .unset, .unset, .unset]) rfl ?_
      show Steps p.tables e below (T3.setTop (mkF m 215 _ [])) t
      refine XS.lload P4.here P4.x rfl (hb hby at_215) rfl ?_
      show Steps p.tables e below (T3.setTop (mkF m 217 _ [(.long s2)])) t
      refine XS.lload P4.here P4.x rfl (hb hby at_217) rfl ?_
      exact kk
    refine wCallS P4 (m_minJ l Z a0 hw s2 s3 h) (tw29 hw) (tw30 hw) (tw13 hw) (tw31 hw) (by decide) (by rw [hml]; rfl) (lenOf pd_3 rfl) (argsL := [(.long s2), (.long s3)]) (rest := []) rfl rfl (W := 0) (Nat.le_of_eq rfl) (by decide) (by decide) (by show k + 0 ≤ 16; omega) (by show n + 0 ≤ 128; omega) (by simp) (hb hby at_219) rfl (k' := k) (n' := n) rfl rfl ?_
    rintro T5 _ _ P6 - ⟨rfl, rfl⟩
    show Done _ _ _ _ _ _ _ _ _ _ _ _ _ _ _ T5 (mkF m 222 _ [(.long (own_mn s2 s3))])
    refine Done.step (T' := T5) (g' := (mkF m 228 #[.val (.int p0), .val (.int p1), .val (.int p2), .val (.int p3), .val (.int p4), .val (.int cv), .val (.int nv), .val (.int e0), .val (.int e1), .val (.int e2), .val (.int e3), .val (.ref o), .val (.ref rr), .val (.long s0), .second, .val (.long s1), .second, .val (.long s2), .second, .val (.long s3), .second, .val (.long (own_mn s0 s1)), .second, .val (.long (own_mx s0 s1)), .second, .val (.long (own_mn s2 s3)), .second, .unset, .unset, .unset, .unset, .unset, .unset, .unset, .unset, .unset, .unset, .unset, .unset, .unset, .unset, .unset] [(.long s3), (.long s2)])) (fun t kk => ?_) ?_
    · show Steps p.tables e below (T5.setTop (mkF m 222 _ [(.long (own_mn s2 s3))])) t
      refine XS.lstore P6.here P6.x rfl (hb hby at_222) rfl (l' := #[.val (.int p0), .val (.int p1), .val (.int p2), .val (.int p3), .val (.int p4), .val (.int cv), .val (.int nv), .val (.int e0), .val (.int e1), .val (.int e2), .val (.int e3), .val (.ref o), .val (.ref rr), .val (.long s0), .second, .val (.long s1), .second, .val (.long s2), .second, .val (.long s3), .second, .val (.long (own_mn s0 s1)), .second, .val (.long (own_mx s0 s1)), .second, .val (.long (own_mn s2 s3)), .second, .unset, .unset, .unset, .unset, .unset, .unset, .unset, .unset, .unset, .unset, .unset, .unset, .unset, .unset, .unset]) rfl ?_
      show Steps p.tables e below (T5.setTop (mkF m 224 _ [])) t
      refine XS.lload P6.here P6.x rfl (hb hby at_224) rfl ?_
      show Steps p.tables e below (T5.setTop (mkF m 226 _ [(.long s2)])) t
      refine XS.lload P6.here P6.x rfl (hb hby at_226) rfl ?_
      exact kk
    refine wCallS P6 (m_maxJ l Z a0 hw s2 s3 h) (tw32 hw) (tw33 hw) (tw13 hw) (tw34 hw) (by decide) (by rw [hml]; rfl) (lenOf pd_3 rfl) (argsL := [(.long s2), (.long s3)]) (rest := []) rfl rfl (W := 0) (Nat.le_of_eq rfl) (by decide) (by decide) (by show k + 0 ≤ 16; omega) (by show n + 0 ≤ 128; omega) (by simp) (hb hby at_228) rfl (k' := k) (n' := n) rfl rfl ?_
    rintro T7 _ _ P8 - ⟨rfl, rfl⟩
    show Done _ _ _ _ _ _ _ _ _ _ _ _ _ _ _ T7 (mkF m 231 _ [(.long (own_mx s2 s3))])
    refine Done.step (T' := T7) (g' := (mkF m 237 #[.val (.int p0), .val (.int p1), .val (.int p2), .val (.int p3), .val (.int p4), .val (.int cv), .val (.int nv), .val (.int e0), .val (.int e1), .val (.int e2), .val (.int e3), .val (.ref o), .val (.ref rr), .val (.long s0), .second, .val (.long s1), .second, .val (.long s2), .second, .val (.long s3), .second, .val (.long (own_mn s0 s1)), .second, .val (.long (own_mx s0 s1)), .second, .val (.long (own_mn s2 s3)), .second, .val (.long (own_mx s2 s3)), .second, .unset, .unset, .unset, .unset, .unset, .unset, .unset, .unset, .unset, .unset, .unset, .unset, .unset] [(.long (own_mn s2 s3)), (.long (own_mn s0 s1))])) (fun t kk => ?_) ?_
    · show Steps p.tables e below (T7.setTop (mkF m 231 _ [(.long (own_mx s2 s3))])) t
      refine XS.lstore P8.here P8.x rfl (hb hby at_231) rfl (l' := #[.val (.int p0), .val (.int p1), .val (.int p2), .val (.int p3), .val (.int p4), .val (.int cv), .val (.int nv), .val (.int e0), .val (.int e1), .val (.int e2), .val (.int e3), .val (.ref o), .val (.ref rr), .val (.long s0), .second, .val (.long s1), .second, .val (.long s2), .second, .val (.long s3), .second, .val (.long (own_mn s0 s1)), .second, .val (.long (own_mx s0 s1)), .second, .val (.long (own_mn s2 s3)), .second, .val (.long (own_mx s2 s3)), .second, .unset, .unset, .unset, .unset, .unset, .unset, .unset, .unset, .unset, .unset, .unset, .unset, .unset]) rfl ?_
      show Steps p.tables e below (T7.setTop (mkF m 233 _ [])) t
      refine XS.lload P8.here P8.x rfl (hb hby at_233) rfl ?_
      show Steps p.tables e below (T7.setTop (mkF m 235 _ [(.long (own_mn s0 s1))])) t
      refine XS.lload P8.here P8.x rfl (hb hby at_235) rfl ?_
      exact kk
    refine wCallS P8 (m_minJ l Z a0 hw (own_mn s0 s1) (own_mn s2 s3) h) (tw29 hw) (tw30 hw) (tw13 hw) (tw31 hw) (by decide) (by rw [hml]; rfl) (lenOf pd_3 rfl) (argsL := [(.long (own_mn s0 s1)), (.long (own_mn s2 s3))]) (rest := []) rfl rfl (W := 0) (Nat.le_of_eq rfl) (by decide) (by decide) (by show k + 0 ≤ 16; omega) (by show n + 0 ≤ 128; omega) (by simp) (hb hby at_237) rfl (k' := k) (n' := n) rfl rfl ?_
    rintro T9 _ _ P10 - ⟨rfl, rfl⟩
    show Done _ _ _ _ _ _ _ _ _ _ _ _ _ _ _ T9 (mkF m 240 _ [(.long (own_mn (own_mn s0 s1) (own_mn s2 s3)))])
    refine Done.step (T' := T9) (g' := (mkF m 246 #[.val (.int p0), .val (.int p1), .val (.int p2), .val (.int p3), .val (.int p4), .val (.int cv), .val (.int nv), .val (.int e0), .val (.int e1), .val (.int e2), .val (.int e3), .val (.ref o), .val (.ref rr), .val (.long s0), .second, .val (.long s1), .second, .val (.long s2), .second, .val (.long s3), .second, .val (.long (own_mn s0 s1)), .second, .val (.long (own_mx s0 s1)), .second, .val (.long (own_mn s2 s3)), .second, .val (.long (own_mx s2 s3)), .second, .val (.long (own_mn (own_mn s0 s1) (own_mn s2 s3))), .second, .unset, .unset, .unset, .unset, .unset, .unset, .unset, .unset, .unset, .unset, .unset] [(.long (own_mn s2 s3)), (.long (own_mn s0 s1))])) (fun t kk => ?_) ?_
    · show Steps p.tables e below (T9.setTop (mkF m 240 _ [(.long (own_mn (own_mn s0 s1) (own_mn s2 s3)))])) t
      refine XS.lstore P10.here P10.x rfl (hb hby at_240) rfl (l' := #[.val (.int p0), .val (.int p1), .val (.int p2), .val (.int p3), .val (.int p4), .val (.int cv), .val (.int nv), .val (.int e0), .val (.int e1), .val (.int e2), .val (.int e3), .val (.ref o), .val (.ref rr), .val (.long s0), .second, .val (.long s1), .second, .val (.long s2), .second, .val (.long s3), .second, .val (.long (own_mn s0 s1)), .second, .val (.long (own_mx s0 s1)), .second, .val (.long (own_mn s2 s3)), .second, .val (.long (own_mx s2 s3)), .second, .val (.long (own_mn (own_mn s0 s1) (own_mn s2 s3))), .second, .unset, .unset, .unset, .unset, .unset, .unset, .unset, .unset, .unset, .unset, .unset]) rfl ?_
      show Steps p.tables e below (T9.setTop (mkF m 242 _ [])) t
      refine XS.lload P10.here P10.x rfl (hb hby at_242) rfl ?_
      show Steps p.tables e below (T9.setTop (mkF m 244 _ [(.long (own_mn s0 s1))])) t
      refine XS.lload P10.here P10.x rfl (hb hby at_244) rfl ?_
      exact kk
    refine wCallS P10 (m_maxJ l Z a0 hw (own_mn s0 s1) (own_mn s2 s3) h) (tw32 hw) (tw33 hw) (tw13 hw) (tw34 hw) (by decide) (by rw [hml]; rfl) (lenOf pd_3 rfl) (argsL := [(.long (own_mn s0 s1)), (.long (own_mn s2 s3))]) (rest := []) rfl rfl (W := 0) (Nat.le_of_eq rfl) (by decide) (by decide) (by show k + 0 ≤ 16; omega) (by show n + 0 ≤ 128; omega) (by simp) (hb hby at_246) rfl (k' := k) (n' := n) rfl rfl ?_
    rintro T11 _ _ P12 - ⟨rfl, rfl⟩
    show Done _ _ _ _ _ _ _ _ _ _ _ _ _ _ _ T11 (mkF m 249 _ [(.long (own_mx (own_mn s0 s1) (own_mn s2 s3)))])
    refine Done.step (T' := T11) (g' := (mkF m 255 #[.val (.int p0), .val (.int p1), .val (.int p2), .val (.int p3), .val (.int p4), .val (.int cv), .val (.int nv), .val (.int e0), .val (.int e1), .val (.int e2), .val (.int e3), .val (.ref o), .val (.ref rr), .val (.long s0), .second, .val (.long s1), .second, .val (.long s2), .second, .val (.long s3), .second, .val (.long (own_mn s0 s1)), .second, .val (.long (own_mx s0 s1)), .second, .val (.long (own_mn s2 s3)), .second, .val (.long (own_mx s2 s3)), .second, .val (.long (own_mn (own_mn s0 s1) (own_mn s2 s3))), .second, .val (.long (own_mx (own_mn s0 s1) (own_mn s2 s3))), .second, .unset, .unset, .unset, .unset, .unset, .unset, .unset, .unset, .unset] [(.long (own_mx s2 s3)), (.long (own_mx s0 s1))])) (fun t kk => ?_) ?_
    · show Steps p.tables e below (T11.setTop (mkF m 249 _ [(.long (own_mx (own_mn s0 s1) (own_mn s2 s3)))])) t
      refine XS.lstore P12.here P12.x rfl (hb hby at_249) rfl (l' := #[.val (.int p0), .val (.int p1), .val (.int p2), .val (.int p3), .val (.int p4), .val (.int cv), .val (.int nv), .val (.int e0), .val (.int e1), .val (.int e2), .val (.int e3), .val (.ref o), .val (.ref rr), .val (.long s0), .second, .val (.long s1), .second, .val (.long s2), .second, .val (.long s3), .second, .val (.long (own_mn s0 s1)), .second, .val (.long (own_mx s0 s1)), .second, .val (.long (own_mn s2 s3)), .second, .val (.long (own_mx s2 s3)), .second, .val (.long (own_mn (own_mn s0 s1) (own_mn s2 s3))), .second, .val (.long (own_mx (own_mn s0 s1) (own_mn s2 s3))), .second, .unset, .unset, .unset, .unset, .unset, .unset, .unset, .unset, .unset]) rfl ?_
      show Steps p.tables e below (T11.setTop (mkF m 251 _ [])) t
      refine XS.lload P12.here P12.x rfl (hb hby at_251) rfl ?_
      show Steps p.tables e below (T11.setTop (mkF m 253 _ [(.long (own_mx s0 s1))])) t
      refine XS.lload P12.here P12.x rfl (hb hby at_253) rfl ?_
      exact kk
    refine wCallS P12 (m_minJ l Z a0 hw (own_mx s0 s1) (own_mx s2 s3) h) (tw29 hw) (tw30 hw) (tw13 hw) (tw31 hw) (by decide) (by rw [hml]; rfl) (lenOf pd_3 rfl) (argsL := [(.long (own_mx s0 s1)), (.long (own_mx s2 s3))]) (rest := []) rfl rfl (W := 0) (Nat.le_of_eq rfl) (by decide) (by decide) (by show k + 0 ≤ 16; omega) (by show n + 0 ≤ 128; omega) (by simp) (hb hby at_255) rfl (k' := k) (n' := n) rfl rfl ?_
    rintro T13 _ _ P14 - ⟨rfl, rfl⟩
    show Done _ _ _ _ _ _ _ _ _ _ _ _ _ _ _ T13 (mkF m 258 _ [(.long (own_mn (own_mx s0 s1) (own_mx s2 s3)))])
    refine Done.step (T' := T13) (g' := (mkF m 264 #[.val (.int p0), .val (.int p1), .val (.int p2), .val (.int p3), .val (.int p4), .val (.int cv), .val (.int nv), .val (.int e0), .val (.int e1), .val (.int e2), .val (.int e3), .val (.ref o), .val (.ref rr), .val (.long s0), .second, .val (.long s1), .second, .val (.long s2), .second, .val (.long s3), .second, .val (.long (own_mn s0 s1)), .second, .val (.long (own_mx s0 s1)), .second, .val (.long (own_mn s2 s3)), .second, .val (.long (own_mx s2 s3)), .second, .val (.long (own_mn (own_mn s0 s1) (own_mn s2 s3))), .second, .val (.long (own_mx (own_mn s0 s1) (own_mn s2 s3))), .second, .val (.long (own_mn (own_mx s0 s1) (own_mx s2 s3))), .second, .unset, .unset, .unset, .unset, .unset, .unset, .unset] [(.long (own_mx s2 s3)), (.long (own_mx s0 s1))])) (fun t kk => ?_) ?_
    · show Steps p.tables e below (T13.setTop (mkF m 258 _ [(.long (own_mn (own_mx s0 s1) (own_mx s2 s3)))])) t
      refine XS.lstore P14.here P14.x rfl (hb hby at_258) rfl (l' := #[.val (.int p0), .val (.int p1), .val (.int p2), .val (.int p3), .val (.int p4), .val (.int cv), .val (.int nv), .val (.int e0), .val (.int e1), .val (.int e2), .val (.int e3), .val (.ref o), .val (.ref rr), .val (.long s0), .second, .val (.long s1), .second, .val (.long s2), .second, .val (.long s3), .second, .val (.long (own_mn s0 s1)), .second, .val (.long (own_mx s0 s1)), .second, .val (.long (own_mn s2 s3)), .second, .val (.long (own_mx s2 s3)), .second, .val (.long (own_mn (own_mn s0 s1) (own_mn s2 s3))), .second, .val (.long (own_mx (own_mn s0 s1) (own_mn s2 s3))), .second, .val (.long (own_mn (own_mx s0 s1) (own_mx s2 s3))), .second, .unset, .unset, .unset, .unset, .unset, .unset, .unset]) rfl ?_
      show Steps p.tables e below (T13.setTop (mkF m 260 _ [])) t
      refine XS.lload P14.here P14.x rfl (hb hby at_260) rfl ?_
      show Steps p.tables e below (T13.setTop (mkF m 262 _ [(.long (own_mx s0 s1))])) t
      refine XS.lload P14.here P14.x rfl (hb hby at_262) rfl ?_
      exact kk
    refine wCallS P14 (m_maxJ l Z a0 hw (own_mx s0 s1) (own_mx s2 s3) h) (tw32 hw) (tw33 hw) (tw13 hw) (tw34 hw) (by decide) (by rw [hml]; rfl) (lenOf pd_3 rfl) (argsL := [(.long (own_mx s0 s1)), (.long (own_mx s2 s3))]) (rest := []) rfl rfl (W := 0) (Nat.le_of_eq rfl) (by decide) (by decide) (by show k + 0 ≤ 16; omega) (by show n + 0 ≤ 128; omega) (by simp) (hb hby at_264) rfl (k' := k) (n' := n) rfl rfl ?_
    rintro T15 _ _ P16 - ⟨rfl, rfl⟩
    show Done _ _ _ _ _ _ _ _ _ _ _ _ _ _ _ T15 (mkF m 267 _ [(.long (own_mx (own_mx s0 s1) (own_mx s2 s3)))])
    refine Done.step (T' := T15) (g' := (mkF m 273 #[.val (.int p0), .val (.int p1), .val (.int p2), .val (.int p3), .val (.int p4), .val (.int cv), .val (.int nv), .val (.int e0), .val (.int e1), .val (.int e2), .val (.int e3), .val (.ref o), .val (.ref rr), .val (.long s0), .second, .val (.long s1), .second, .val (.long s2), .second, .val (.long s3), .second, .val (.long (own_mn s0 s1)), .second, .val (.long (own_mx s0 s1)), .second, .val (.long (own_mn s2 s3)), .second, .val (.long (own_mx s2 s3)), .second, .val (.long (own_mn (own_mn s0 s1) (own_mn s2 s3))), .second, .val (.long (own_mx (own_mn s0 s1) (own_mn s2 s3))), .second, .val (.long (own_mn (own_mx s0 s1) (own_mx s2 s3))), .second, .val (.long (own_mx (own_mx s0 s1) (own_mx s2 s3))), .second, .unset, .unset, .unset, .unset, .unset] [(.long (own_mx (own_mn s0 s1) (own_mn s2 s3))), (.long (own_mn (own_mx s0 s1) (own_mx s2 s3)))])) (fun t kk => ?_) ?_
    · show Steps p.tables e below (T15.setTop (mkF m 267 _ [(.long (own_mx (own_mx s0 s1) (own_mx s2 s3)))])) t
      refine XS.lstore P16.here P16.x rfl (hb hby at_267) rfl (l' := #[.val (.int p0), .val (.int p1), .val (.int p2), .val (.int p3), .val (.int p4), .val (.int cv), .val (.int nv), .val (.int e0), .val (.int e1), .val (.int e2), .val (.int e3), .val (.ref o), .val (.ref rr), .val (.long s0), .second, .val (.long s1), .second, .val (.long s2), .second, .val (.long s3), .second, .val (.long (own_mn s0 s1)), .second, .val (.long (own_mx s0 s1)), .second, .val (.long (own_mn s2 s3)), .second, .val (.long (own_mx s2 s3)), .second, .val (.long (own_mn (own_mn s0 s1) (own_mn s2 s3))), .second, .val (.long (own_mx (own_mn s0 s1) (own_mn s2 s3))), .second, .val (.long (own_mn (own_mx s0 s1) (own_mx s2 s3))), .second, .val (.long (own_mx (own_mx s0 s1) (own_mx s2 s3))), .second, .unset, .unset, .unset, .unset, .unset]) rfl ?_
      show Steps p.tables e below (T15.setTop (mkF m 269 _ [])) t
      refine XS.lload P16.here P16.x rfl (hb hby at_269) rfl ?_
      show Steps p.tables e below (T15.setTop (mkF m 271 _ [(.long (own_mn (own_mx s0 s1) (own_mx s2 s3)))])) t
      refine XS.lload P16.here P16.x rfl (hb hby at_271) rfl ?_
      exact kk
    refine wCallS P16 (m_minJ l Z a0 hw (own_mn (own_mx s0 s1) (own_mx s2 s3)) (own_mx (own_mn s0 s1) (own_mn s2 s3)) h) (tw29 hw) (tw30 hw) (tw13 hw) (tw31 hw) (by decide) (by rw [hml]; rfl) (lenOf pd_3 rfl) (argsL := [(.long (own_mn (own_mx s0 s1) (own_mx s2 s3))), (.long (own_mx (own_mn s0 s1) (own_mn s2 s3)))]) (rest := []) rfl rfl (W := 0) (Nat.le_of_eq rfl) (by decide) (by decide) (by show k + 0 ≤ 16; omega) (by show n + 0 ≤ 128; omega) (by simp) (hb hby at_273) rfl (k' := k) (n' := n) rfl rfl ?_
    rintro T17 _ _ P18 - ⟨rfl, rfl⟩
    show Done _ _ _ _ _ _ _ _ _ _ _ _ _ _ _ T17 (mkF m 276 _ [(.long (own_mn (own_mn (own_mx s0 s1) (own_mx s2 s3)) (own_mx (own_mn s0 s1) (own_mn s2 s3))))])
    refine Done.step (T' := T17) (g' := (mkF m 282 #[.val (.int p0), .val (.int p1), .val (.int p2), .val (.int p3), .val (.int p4), .val (.int cv), .val (.int nv), .val (.int e0), .val (.int e1), .val (.int e2), .val (.int e3), .val (.ref o), .val (.ref rr), .val (.long s0), .second, .val (.long s1), .second, .val (.long s2), .second, .val (.long s3), .second, .val (.long (own_mn s0 s1)), .second, .val (.long (own_mx s0 s1)), .second, .val (.long (own_mn s2 s3)), .second, .val (.long (own_mx s2 s3)), .second, .val (.long (own_mn (own_mn s0 s1) (own_mn s2 s3))), .second, .val (.long (own_mx (own_mn s0 s1) (own_mn s2 s3))), .second, .val (.long (own_mn (own_mx s0 s1) (own_mx s2 s3))), .second, .val (.long (own_mx (own_mx s0 s1) (own_mx s2 s3))), .second, .val (.long (own_mn (own_mn (own_mx s0 s1) (own_mx s2 s3)) (own_mx (own_mn s0 s1) (own_mn s2 s3)))), .second, .unset, .unset, .unset] [(.long (own_mx (own_mn s0 s1) (own_mn s2 s3))), (.long (own_mn (own_mx s0 s1) (own_mx s2 s3)))])) (fun t kk => ?_) ?_
    · show Steps p.tables e below (T17.setTop (mkF m 276 _ [(.long (own_mn (own_mn (own_mx s0 s1) (own_mx s2 s3)) (own_mx (own_mn s0 s1) (own_mn s2 s3))))])) t
      refine XS.lstore P18.here P18.x rfl (hb hby at_276) rfl (l' := #[.val (.int p0), .val (.int p1), .val (.int p2), .val (.int p3), .val (.int p4), .val (.int cv), .val (.int nv), .val (.int e0), .val (.int e1), .val (.int e2), .val (.int e3), .val (.ref o), .val (.ref rr), .val (.long s0), .second, .val (.long s1), .second, .val (.long s2), .second, .val (.long s3), .second, .val (.long (own_mn s0 s1)), .second, .val (.long (own_mx s0 s1)), .second, .val (.long (own_mn s2 s3)), .second, .val (.long (own_mx s2 s3)), .second, .val (.long (own_mn (own_mn s0 s1) (own_mn s2 s3))), .second, .val (.long (own_mx (own_mn s0 s1) (own_mn s2 s3))), .second, .val (.long (own_mn (own_mx s0 s1) (own_mx s2 s3))), .second, .val (.long (own_mx (own_mx s0 s1) (own_mx s2 s3))), .second, .val (.long (own_mn (own_mn (own_mx s0 s1) (own_mx s2 s3)) (own_mx (own_mn s0 s1) (own_mn s2 s3)))), .second, .unset, .unset, .unset]) rfl ?_
      show Steps p.tables e below (T17.setTop (mkF m 278 _ [])) t
      refine XS.lload P18.here P18.x rfl (hb hby at_278) rfl ?_
      show Steps p.tables e below (T17.setTop (mkF m 280 _ [(.long (own_mn (own_mx s0 s1) (own_mx s2 s3)))])) t
      refine XS.lload P18.here P18.x rfl (hb hby at_280) rfl ?_
      exact kk
    refine wCallS P18 (m_maxJ l Z a0 hw (own_mn (own_mx s0 s1) (own_mx s2 s3)) (own_mx (own_mn s0 s1) (own_mn s2 s3)) h) (tw32 hw) (tw33 hw) (tw13 hw) (tw34 hw) (by decide) (by rw [hml]; rfl) (lenOf pd_3 rfl) (argsL := [(.long (own_mn (own_mx s0 s1) (own_mx s2 s3))), (.long (own_mx (own_mn s0 s1) (own_mn s2 s3)))]) (rest := []) rfl rfl (W := 0) (Nat.le_of_eq rfl) (by decide) (by decide) (by show k + 0 ≤ 16; omega) (by show n + 0 ≤ 128; omega) (by simp) (hb hby at_282) rfl (k' := k) (n' := n) rfl rfl ?_
    rintro T19 _ _ P20 - ⟨rfl, rfl⟩
    show Done _ _ _ _ _ _ _ _ _ _ _ _ _ _ _ T19 (mkF m 285 _ [(.long (own_mx (own_mn (own_mx s0 s1) (own_mx s2 s3)) (own_mx (own_mn s0 s1) (own_mn s2 s3))))])
    refine Done.step (T' := T19) (g' := (mkF m 291 #[.val (.int p0), .val (.int p1), .val (.int p2), .val (.int p3), .val (.int p4), .val (.int cv), .val (.int nv), .val (.int e0), .val (.int e1), .val (.int e2), .val (.int e3), .val (.ref o), .val (.ref rr), .val (.long s0), .second, .val (.long s1), .second, .val (.long s2), .second, .val (.long s3), .second, .val (.long (own_mn s0 s1)), .second, .val (.long (own_mx s0 s1)), .second, .val (.long (own_mn s2 s3)), .second, .val (.long (own_mx s2 s3)), .second, .val (.long (own_mn (own_mn s0 s1) (own_mn s2 s3))), .second, .val (.long (own_mx (own_mn s0 s1) (own_mn s2 s3))), .second, .val (.long (own_mn (own_mx s0 s1) (own_mx s2 s3))), .second, .val (.long (own_mx (own_mx s0 s1) (own_mx s2 s3))), .second, .val (.long (own_mn (own_mn (own_mx s0 s1) (own_mx s2 s3)) (own_mx (own_mn s0 s1) (own_mn s2 s3)))), .second, .val (.long (own_mx (own_mn (own_mx s0 s1) (own_mx s2 s3)) (own_mx (own_mn s0 s1) (own_mn s2 s3)))), .second, .unset] [(.int nv), (.int cv)])) (fun t kk => ?_) ?_
    · show Steps p.tables e below (T19.setTop (mkF m 285 _ [(.long (own_mx (own_mn (own_mx s0 s1) (own_mx s2 s3)) (own_mx (own_mn s0 s1) (own_mn s2 s3))))])) t
      refine XS.lstore P20.here P20.x rfl (hb hby at_285) rfl (l' := #[.val (.int p0), .val (.int p1), .val (.int p2), .val (.int p3), .val (.int p4), .val (.int cv), .val (.int nv), .val (.int e0), .val (.int e1), .val (.int e2), .val (.int e3), .val (.ref o), .val (.ref rr), .val (.long s0), .second, .val (.long s1), .second, .val (.long s2), .second, .val (.long s3), .second, .val (.long (own_mn s0 s1)), .second, .val (.long (own_mx s0 s1)), .second, .val (.long (own_mn s2 s3)), .second, .val (.long (own_mx s2 s3)), .second, .val (.long (own_mn (own_mn s0 s1) (own_mn s2 s3))), .second, .val (.long (own_mx (own_mn s0 s1) (own_mn s2 s3))), .second, .val (.long (own_mn (own_mx s0 s1) (own_mx s2 s3))), .second, .val (.long (own_mx (own_mx s0 s1) (own_mx s2 s3))), .second, .val (.long (own_mn (own_mn (own_mx s0 s1) (own_mx s2 s3)) (own_mx (own_mn s0 s1) (own_mn s2 s3)))), .second, .val (.long (own_mx (own_mn (own_mx s0 s1) (own_mx s2 s3)) (own_mx (own_mn s0 s1) (own_mn s2 s3)))), .second, .unset]) rfl ?_
      show Steps p.tables e below (T19.setTop (mkF m 287 _ [])) t
      refine XS.iload P20.here P20.x rfl (hb hby at_287) rfl ?_
      show Steps p.tables e below (T19.setTop (mkF m 289 _ [(.int cv)])) t
      refine XS.iload P20.here P20.x rfl (hb hby at_289) rfl ?_
      exact kk
    refine wCallS P20 (m_min l Z a0 hw cv nv h) (tw35 hw) (tw12 hw) (tw13 hw) (tw14 hw) (by decide) (by rw [hml]; rfl) (lenOf pd_1 rfl) (argsL := [(.int cv), (.int nv)]) (rest := []) rfl rfl (W := 0) (Nat.le_of_eq rfl) (by decide) (by decide) (by show k + 0 ≤ 16; omega) (by show n + 0 ≤ 128; omega) (by simp) (hb hby at_291) rfl (k' := k) (n' := n) rfl rfl ?_
    rintro T21 _ _ P22 - ⟨rfl, rfl⟩
    show Done _ _ _ _ _ _ _ _ _ _ _ _ _ _ _ T21 (mkF m 294 _ [(.int (if nv < cv then nv else cv))])
    generalize g_mw : (if nv < cv then nv else cv) = mw
    have hmw : mw.toInt = (N : Int) := by rw [← g_mw]; exact hm
    show Done _ _ _ _ _ _ _ _ _ _ _ _ _ _ _ T21 (mkF m 294 _ [(.int mw)])
    refine Done.step (T' := T21) (g' := (mkF m 298 #[.val (.int p0), .val (.int p1), .val (.int p2), .val (.int p3), .val (.int p4), .val (.int cv), .val (.int nv), .val (.int e0), .val (.int e1), .val (.int e2), .val (.int e3), .val (.ref o), .val (.ref rr), .val (.long s0), .second, .val (.long s1), .second, .val (.long s2), .second, .val (.long s3), .second, .val (.long (own_mn s0 s1)), .second, .val (.long (own_mx s0 s1)), .second, .val (.long (own_mn s2 s3)), .second, .val (.long (own_mx s2 s3)), .second, .val (.long (own_mn (own_mn s0 s1) (own_mn s2 s3))), .second, .val (.long (own_mx (own_mn s0 s1) (own_mn s2 s3))), .second, .val (.long (own_mn (own_mx s0 s1) (own_mx s2 s3))), .second, .val (.long (own_mx (own_mx s0 s1) (own_mx s2 s3))), .second, .val (.long (own_mn (own_mn (own_mx s0 s1) (own_mx s2 s3)) (own_mx (own_mn s0 s1) (own_mn s2 s3)))), .second, .val (.long (own_mx (own_mn (own_mx s0 s1) (own_mx s2 s3)) (own_mx (own_mn s0 s1) (own_mn s2 s3)))), .second, .val (.int mw)] [(.ref o)])) (fun t kk => ?_) ?_
    · show Steps p.tables e below (T21.setTop (mkF m 294 _ [(.int mw)])) t
      refine XS.istore P22.here P22.x rfl (hb hby at_294) rfl (l' := #[.val (.int p0), .val (.int p1), .val (.int p2), .val (.int p3), .val (.int p4), .val (.int cv), .val (.int nv), .val (.int e0), .val (.int e1), .val (.int e2), .val (.int e3), .val (.ref o), .val (.ref rr), .val (.long s0), .second, .val (.long s1), .second, .val (.long s2), .second, .val (.long s3), .second, .val (.long (own_mn s0 s1)), .second, .val (.long (own_mx s0 s1)), .second, .val (.long (own_mn s2 s3)), .second, .val (.long (own_mx s2 s3)), .second, .val (.long (own_mn (own_mn s0 s1) (own_mn s2 s3))), .second, .val (.long (own_mx (own_mn s0 s1) (own_mn s2 s3))), .second, .val (.long (own_mn (own_mx s0 s1) (own_mx s2 s3))), .second, .val (.long (own_mx (own_mx s0 s1) (own_mx s2 s3))), .second, .val (.long (own_mn (own_mn (own_mx s0 s1) (own_mx s2 s3)) (own_mx (own_mn s0 s1) (own_mn s2 s3)))), .second, .val (.long (own_mx (own_mn (own_mx s0 s1) (own_mx s2 s3)) (own_mx (own_mn s0 s1) (own_mn s2 s3)))), .second, .val (.int mw)]) rfl ?_
      show Steps p.tables e below (T21.setTop (mkF m 296 _ [])) t
      refine XS.aload P22.here P22.x rfl (hb hby at_296) rfl rfl ?_
      exact kk
    refine wCallV P22 (m_size l Z a0 hw o (0 : Int32) h Fs) (tw36 hw) (tw37 hw) (tw39 hw) (tw39 hw) (tw38 hw) (tw2 hw) (tw40 hw) (by decide) Eo (by rw [hml]; rfl) (lenOf pd_2 rfl) (argsL := []) (rest := []) rfl rfl (W := 0) (Nat.le_of_eq rfl) (by decide) (by decide) (by show k + 0 ≤ 16; omega) (by show n + 0 ≤ 128; omega) (by simp) (hb hby at_298) rfl (k' := k) (n' := n) rfl rfl ?_
    rintro T23 _ _ P24 - ⟨rfl, rfl⟩
    show Done _ _ _ _ _ _ _ _ _ _ _ _ _ _ _ T23 (mkF m 301 _ [(.int (0 : Int32))])
    refine Done.stepL (pc' := 308) (st' := [(.ref rr)]) (fun t kk => ?_) ?_
    · show Steps p.tables e below (T23.setTop (mkF m 301 _ [(.int (0 : Int32))])) t
      refine XS.ifYes P24.here P24.x rfl (pc0 := 301) (pc' := 306) rfl (hb hby at_301) rfl (i0W_eq_t (by decide)) (by decide) (by decide) ?_
      show Steps p.tables e below (T23.setTop (mkF m 306 _ [])) t
      refine XS.aload P24.here P24.x rfl (hb hby at_306) rfl rfl ?_
      exact kk
    refine wLen P24 A1 (z := (Int32.ofNat N)) (own_z lN) (hb hby at_308) rfl ?_
    show Done _ _ _ _ _ _ _ _ _ _ _ _ _ _ _ T23 (mkF m 309 _ [(.int (Int32.ofNat N))])
    refine Done.stepL (pc' := 319) (st' := [(.int (1 : Int32)), (.int mw)]) (fun t kk => ?_) ?_
    · show Steps p.tables e below (T23.setTop (mkF m 309 _ [(.int (Int32.ofNat N))])) t
      refine XS.iload P24.here P24.x rfl (hb hby at_309) rfl ?_
      show Steps p.tables e below (T23.setTop (mkF m 311 _ [(.int mw), (.int (Int32.ofNat N))])) t
      refine XS.icmpYes P24.here P24.x rfl (pc0 := 311) (pc' := 316) rfl (hb hby at_311) rfl (iiW_eq_t (Int32.toInt_inj.mp ((own_z lN).trans hmw.symm))) (by decide) (by decide) ?_
      show Steps p.tables e below (T23.setTop (mkF m 316 _ [])) t
      refine XS.iload P24.here P24.x rfl (hb hby at_316) rfl ?_
      show Steps p.tables e below (T23.setTop (mkF m 318 _ [(.int mw)])) t
      refine XS.iconst P24.here P24.x rfl (hb hby at_318) ?_
      exact kk
    by_cases c0 : mw < (1 : Int32)
    · have n0 := (own_lt' hmw (j := 1) (by decide)).mp c0
      refine Done.stepL (pc' := 393) (st' := [(.int (1 : Int32))]) (fun t kk => ?_) ?_
      · show Steps p.tables e below (T23.setTop (mkF m 319 _ [(.int (1 : Int32)), (.int mw)])) t
        refine XS.icmpYes P24.here P24.x rfl (pc0 := 319) (pc' := 335) rfl (hb hby at_319) rfl (iiW_lt_t c0) (by decide) (by decide) ?_
        show Steps p.tables e below (T23.setTop (mkF m 335 _ [])) t
        refine XS.iload P24.here P24.x rfl (hb hby at_335) rfl ?_
        show Steps p.tables e below (T23.setTop (mkF m 337 _ [(.int mw)])) t
        refine XS.iconst P24.here P24.x rfl (hb hby at_337) ?_
        show Steps p.tables e below (T23.setTop (mkF m 338 _ [(.int (2 : Int32)), (.int mw)])) t
        refine XS.icmpYes P24.here P24.x rfl (pc0 := 338) (pc' := 354) rfl (hb hby at_338) rfl (iiW_lt_t ((own_lt' hmw (j := 2) (by decide)).mpr (by omega))) (by decide) (by decide) ?_
        show Steps p.tables e below (T23.setTop (mkF m 354 _ [])) t
        refine XS.iload P24.here P24.x rfl (hb hby at_354) rfl ?_
        show Steps p.tables e below (T23.setTop (mkF m 356 _ [(.int mw)])) t
        refine XS.iconst P24.here P24.x rfl (hb hby at_356) ?_
        show Steps p.tables e below (T23.setTop (mkF m 357 _ [(.int (3 : Int32)), (.int mw)])) t
        refine XS.icmpYes P24.here P24.x rfl (pc0 := 357) (pc' := 373) rfl (hb hby at_357) rfl (iiW_lt_t ((own_lt' hmw (j := 3) (by decide)).mpr (by omega))) (by decide) (by decide) ?_
        show Steps p.tables e below (T23.setTop (mkF m 373 _ [])) t
        refine XS.iload P24.here P24.x rfl (hb hby at_373) rfl ?_
        show Steps p.tables e below (T23.setTop (mkF m 375 _ [(.int mw)])) t
        refine XS.iconst P24.here P24.x rfl (hb hby at_375) ?_
        show Steps p.tables e below (T23.setTop (mkF m 376 _ [(.int (4 : Int32)), (.int mw)])) t
        refine XS.icmpYes P24.here P24.x rfl (pc0 := 376) (pc' := 392) rfl (hb hby at_376) rfl (iiW_lt_t ((own_lt' hmw (j := 4) (by decide)).mpr (by omega))) (by decide) (by decide) ?_
        show Steps p.tables e below (T23.setTop (mkF m 392 _ [])) t
        refine XS.iconst P24.here P24.x rfl (hb hby at_392) ?_
        exact kk
      exact wRet P24 (t := .boolean) hret (narrow_01 (Or.inr rfl)) (Or.inl ⟨rfl, Or.inr (Or.inl rfl), _, rfl⟩) (hb hby at_393) rfl
    · have n0 : ¬ N < 1 := fun z_ => c0 ((own_lt' hmw (j := 1) (by decide)).mpr z_)
      refine Done.stepL (pc' := 325) (st' := [(.int (0 : Int32)), (.ref rr)]) (fun t kk => ?_) ?_
      · show Steps p.tables e below (T23.setTop (mkF m 319 _ [(.int (1 : Int32)), (.int mw)])) t
        refine XS.icmpNo P24.here P24.x rfl (hb hby at_319) rfl (iiW_lt_f (show ¬ (mw < (1 : Int32)) from c0)) ?_
        show Steps p.tables e below (T23.setTop (mkF m 322 _ [])) t
        refine XS.aload P24.here P24.x rfl (hb hby at_322) rfl rfl ?_
        show Steps p.tables e below (T23.setTop (mkF m 324 _ [(.ref rr)])) t
        refine XS.iconst P24.here P24.x rfl (hb hby at_324) ?_
        exact kk
      refine wIaload P24 A1 (j := (0 : Int32)) (i := 0) rfl (by omega) (v := (.int (of 0))) rfl (hb hby at_325) rfl ?_
      show Done _ _ _ _ _ _ _ _ _ _ _ _ _ _ _ T23 (mkF m 326 _ [(.int (of 0))])
      refine Done.stepL (pc' := 338) (st' := [(.int (2 : Int32)), (.int mw)]) (fun t kk => ?_) ?_
      · show Steps p.tables e below (T23.setTop (mkF m 326 _ [(.int (of 0))])) t
        refine XS.i2l P24.here P24.x rfl (hb hby at_326) rfl ?_
        show Steps p.tables e below (T23.setTop (mkF m 327 _ [(.long (of 0).toInt64)])) t
        refine XS.lload P24.here P24.x rfl (hb hby at_327) rfl ?_
        show Steps p.tables e below (T23.setTop (mkF m 329 _ [(.long (own_mn (own_mn s0 s1) (own_mn s2 s3))), (.long (of 0).toInt64)])) t
        refine XS.lcmp P24.here P24.x rfl (hb hby at_329) rfl ?_
        show Steps p.tables e below (T23.setTop (mkF m 330 _ [(.int (lcmpW (of 0).toInt64 (own_mn (own_mn s0 s1) (own_mn s2 s3))))])) t
        refine XS.ifYes P24.here P24.x rfl (pc0 := 330) (pc' := 335) rfl (hb hby at_330) rfl (lcW_eq_t (f0 (by omega))) (by decide) (by decide) ?_
        show Steps p.tables e below (T23.setTop (mkF m 335 _ [])) t
        refine XS.iload P24.here P24.x rfl (hb hby at_335) rfl ?_
        show Steps p.tables e below (T23.setTop (mkF m 337 _ [(.int mw)])) t
        refine XS.iconst P24.here P24.x rfl (hb hby at_337) ?_
        exact kk
      by_cases c1 : mw < (2 : Int32)
      · have n1 := (own_lt' hmw (j := 2) (by decide)).mp c1
        refine Done.stepL (pc' := 393) (st' := [(.int (1 : Int32))]) (fun t kk => ?_) ?_
        · show Steps p.tables e below (T23.setTop (mkF m 338 _ [(.int (2 : Int32)), (.int mw)])) t
          refine XS.icmpYes P24.here P24.x rfl (pc0 := 338) (pc' := 354) rfl (hb hby at_338) rfl (iiW_lt_t c1) (by decide) (by decide) ?_
          show Steps p.tables e below (T23.setTop (mkF m 354 _ [])) t
          refine XS.iload P24.here P24.x rfl (hb hby at_354) rfl ?_
          show Steps p.tables e below (T23.setTop (mkF m 356 _ [(.int mw)])) t
          refine XS.iconst P24.here P24.x rfl (hb hby at_356) ?_
          show Steps p.tables e below (T23.setTop (mkF m 357 _ [(.int (3 : Int32)), (.int mw)])) t
          refine XS.icmpYes P24.here P24.x rfl (pc0 := 357) (pc' := 373) rfl (hb hby at_357) rfl (iiW_lt_t ((own_lt' hmw (j := 3) (by decide)).mpr (by omega))) (by decide) (by decide) ?_
          show Steps p.tables e below (T23.setTop (mkF m 373 _ [])) t
          refine XS.iload P24.here P24.x rfl (hb hby at_373) rfl ?_
          show Steps p.tables e below (T23.setTop (mkF m 375 _ [(.int mw)])) t
          refine XS.iconst P24.here P24.x rfl (hb hby at_375) ?_
          show Steps p.tables e below (T23.setTop (mkF m 376 _ [(.int (4 : Int32)), (.int mw)])) t
          refine XS.icmpYes P24.here P24.x rfl (pc0 := 376) (pc' := 392) rfl (hb hby at_376) rfl (iiW_lt_t ((own_lt' hmw (j := 4) (by decide)).mpr (by omega))) (by decide) (by decide) ?_
          show Steps p.tables e below (T23.setTop (mkF m 392 _ [])) t
          refine XS.iconst P24.here P24.x rfl (hb hby at_392) ?_
          exact kk
        exact wRet P24 (t := .boolean) hret (narrow_01 (Or.inr rfl)) (Or.inl ⟨rfl, Or.inr (Or.inl rfl), _, rfl⟩) (hb hby at_393) rfl
      · have n1 : ¬ N < 2 := fun z_ => c1 ((own_lt' hmw (j := 2) (by decide)).mpr z_)
        refine Done.stepL (pc' := 344) (st' := [(.int (1 : Int32)), (.ref rr)]) (fun t kk => ?_) ?_
        · show Steps p.tables e below (T23.setTop (mkF m 338 _ [(.int (2 : Int32)), (.int mw)])) t
          refine XS.icmpNo P24.here P24.x rfl (hb hby at_338) rfl (iiW_lt_f (show ¬ (mw < (2 : Int32)) from c1)) ?_
          show Steps p.tables e below (T23.setTop (mkF m 341 _ [])) t
          refine XS.aload P24.here P24.x rfl (hb hby at_341) rfl rfl ?_
          show Steps p.tables e below (T23.setTop (mkF m 343 _ [(.ref rr)])) t
          refine XS.iconst P24.here P24.x rfl (hb hby at_343) ?_
          exact kk
        refine wIaload P24 A1 (j := (1 : Int32)) (i := 1) rfl (by omega) (v := (.int (of 1))) rfl (hb hby at_344) rfl ?_
        show Done _ _ _ _ _ _ _ _ _ _ _ _ _ _ _ T23 (mkF m 345 _ [(.int (of 1))])
        refine Done.stepL (pc' := 357) (st' := [(.int (3 : Int32)), (.int mw)]) (fun t kk => ?_) ?_
        · show Steps p.tables e below (T23.setTop (mkF m 345 _ [(.int (of 1))])) t
          refine XS.i2l P24.here P24.x rfl (hb hby at_345) rfl ?_
          show Steps p.tables e below (T23.setTop (mkF m 346 _ [(.long (of 1).toInt64)])) t
          refine XS.lload P24.here P24.x rfl (hb hby at_346) rfl ?_
          show Steps p.tables e below (T23.setTop (mkF m 348 _ [(.long (own_mn (own_mn (own_mx s0 s1) (own_mx s2 s3)) (own_mx (own_mn s0 s1) (own_mn s2 s3)))), (.long (of 1).toInt64)])) t
          refine XS.lcmp P24.here P24.x rfl (hb hby at_348) rfl ?_
          show Steps p.tables e below (T23.setTop (mkF m 349 _ [(.int (lcmpW (of 1).toInt64 (own_mn (own_mn (own_mx s0 s1) (own_mx s2 s3)) (own_mx (own_mn s0 s1) (own_mn s2 s3)))))])) t
          refine XS.ifYes P24.here P24.x rfl (pc0 := 349) (pc' := 354) rfl (hb hby at_349) rfl (lcW_eq_t (f1 (by omega))) (by decide) (by decide) ?_
          show Steps p.tables e below (T23.setTop (mkF m 354 _ [])) t
          refine XS.iload P24.here P24.x rfl (hb hby at_354) rfl ?_
          show Steps p.tables e below (T23.setTop (mkF m 356 _ [(.int mw)])) t
          refine XS.iconst P24.here P24.x rfl (hb hby at_356) ?_
          exact kk
        by_cases c2 : mw < (3 : Int32)
        · have n2 := (own_lt' hmw (j := 3) (by decide)).mp c2
          refine Done.stepL (pc' := 393) (st' := [(.int (1 : Int32))]) (fun t kk => ?_) ?_
          · show Steps p.tables e below (T23.setTop (mkF m 357 _ [(.int (3 : Int32)), (.int mw)])) t
            refine XS.icmpYes P24.here P24.x rfl (pc0 := 357) (pc' := 373) rfl (hb hby at_357) rfl (iiW_lt_t c2) (by decide) (by decide) ?_
            show Steps p.tables e below (T23.setTop (mkF m 373 _ [])) t
            refine XS.iload P24.here P24.x rfl (hb hby at_373) rfl ?_
            show Steps p.tables e below (T23.setTop (mkF m 375 _ [(.int mw)])) t
            refine XS.iconst P24.here P24.x rfl (hb hby at_375) ?_
            show Steps p.tables e below (T23.setTop (mkF m 376 _ [(.int (4 : Int32)), (.int mw)])) t
            refine XS.icmpYes P24.here P24.x rfl (pc0 := 376) (pc' := 392) rfl (hb hby at_376) rfl (iiW_lt_t ((own_lt' hmw (j := 4) (by decide)).mpr (by omega))) (by decide) (by decide) ?_
            show Steps p.tables e below (T23.setTop (mkF m 392 _ [])) t
            refine XS.iconst P24.here P24.x rfl (hb hby at_392) ?_
            exact kk
          exact wRet P24 (t := .boolean) hret (narrow_01 (Or.inr rfl)) (Or.inl ⟨rfl, Or.inr (Or.inl rfl), _, rfl⟩) (hb hby at_393) rfl
        · have n2 : ¬ N < 3 := fun z_ => c2 ((own_lt' hmw (j := 3) (by decide)).mpr z_)
          refine Done.stepL (pc' := 363) (st' := [(.int (2 : Int32)), (.ref rr)]) (fun t kk => ?_) ?_
          · show Steps p.tables e below (T23.setTop (mkF m 357 _ [(.int (3 : Int32)), (.int mw)])) t
            refine XS.icmpNo P24.here P24.x rfl (hb hby at_357) rfl (iiW_lt_f (show ¬ (mw < (3 : Int32)) from c2)) ?_
            show Steps p.tables e below (T23.setTop (mkF m 360 _ [])) t
            refine XS.aload P24.here P24.x rfl (hb hby at_360) rfl rfl ?_
            show Steps p.tables e below (T23.setTop (mkF m 362 _ [(.ref rr)])) t
            refine XS.iconst P24.here P24.x rfl (hb hby at_362) ?_
            exact kk
          refine wIaload P24 A1 (j := (2 : Int32)) (i := 2) rfl (by omega) (v := (.int (of 2))) rfl (hb hby at_363) rfl ?_
          show Done _ _ _ _ _ _ _ _ _ _ _ _ _ _ _ T23 (mkF m 364 _ [(.int (of 2))])
          refine Done.stepL (pc' := 376) (st' := [(.int (4 : Int32)), (.int mw)]) (fun t kk => ?_) ?_
          · show Steps p.tables e below (T23.setTop (mkF m 364 _ [(.int (of 2))])) t
            refine XS.i2l P24.here P24.x rfl (hb hby at_364) rfl ?_
            show Steps p.tables e below (T23.setTop (mkF m 365 _ [(.long (of 2).toInt64)])) t
            refine XS.lload P24.here P24.x rfl (hb hby at_365) rfl ?_
            show Steps p.tables e below (T23.setTop (mkF m 367 _ [(.long (own_mx (own_mn (own_mx s0 s1) (own_mx s2 s3)) (own_mx (own_mn s0 s1) (own_mn s2 s3)))), (.long (of 2).toInt64)])) t
            refine XS.lcmp P24.here P24.x rfl (hb hby at_367) rfl ?_
            show Steps p.tables e below (T23.setTop (mkF m 368 _ [(.int (lcmpW (of 2).toInt64 (own_mx (own_mn (own_mx s0 s1) (own_mx s2 s3)) (own_mx (own_mn s0 s1) (own_mn s2 s3)))))])) t
            refine XS.ifYes P24.here P24.x rfl (pc0 := 368) (pc' := 373) rfl (hb hby at_368) rfl (lcW_eq_t (f2 (by omega))) (by decide) (by decide) ?_
            show Steps p.tables e below (T23.setTop (mkF m 373 _ [])) t
            refine XS.iload P24.here P24.x rfl (hb hby at_373) rfl ?_
            show Steps p.tables e below (T23.setTop (mkF m 375 _ [(.int mw)])) t
            refine XS.iconst P24.here P24.x rfl (hb hby at_375) ?_
            exact kk
          by_cases c3 : mw < (4 : Int32)
          · have n3 := (own_lt' hmw (j := 4) (by decide)).mp c3
            refine Done.stepL (pc' := 393) (st' := [(.int (1 : Int32))]) (fun t kk => ?_) ?_
            · show Steps p.tables e below (T23.setTop (mkF m 376 _ [(.int (4 : Int32)), (.int mw)])) t
              refine XS.icmpYes P24.here P24.x rfl (pc0 := 376) (pc' := 392) rfl (hb hby at_376) rfl (iiW_lt_t c3) (by decide) (by decide) ?_
              show Steps p.tables e below (T23.setTop (mkF m 392 _ [])) t
              refine XS.iconst P24.here P24.x rfl (hb hby at_392) ?_
              exact kk
            exact wRet P24 (t := .boolean) hret (narrow_01 (Or.inr rfl)) (Or.inl ⟨rfl, Or.inr (Or.inl rfl), _, rfl⟩) (hb hby at_393) rfl
          · have n3 : ¬ N < 4 := fun z_ => c3 ((own_lt' hmw (j := 4) (by decide)).mpr z_)
            refine Done.stepL (pc' := 382) (st' := [(.int (3 : Int32)), (.ref rr)]) (fun t kk => ?_) ?_
            · show Steps p.tables e below (T23.setTop (mkF m 376 _ [(.int (4 : Int32)), (.int mw)])) t
              refine XS.icmpNo P24.here P24.x rfl (hb hby at_376) rfl (iiW_lt_f (show ¬ (mw < (4 : Int32)) from c3)) ?_
              show Steps p.tables e below (T23.setTop (mkF m 379 _ [])) t
              refine XS.aload P24.here P24.x rfl (hb hby at_379) rfl rfl ?_
              show Steps p.tables e below (T23.setTop (mkF m 381 _ [(.ref rr)])) t
              refine XS.iconst P24.here P24.x rfl (hb hby at_381) ?_
              exact kk
            refine wIaload P24 A1 (j := (3 : Int32)) (i := 3) rfl (by omega) (v := (.int (of 3))) rfl (hb hby at_382) rfl ?_
            show Done _ _ _ _ _ _ _ _ _ _ _ _ _ _ _ T23 (mkF m 383 _ [(.int (of 3))])
            refine Done.stepL (pc' := 393) (st' := [(.int (1 : Int32))]) (fun t kk => ?_) ?_
            · show Steps p.tables e below (T23.setTop (mkF m 383 _ [(.int (of 3))])) t
              refine XS.i2l P24.here P24.x rfl (hb hby at_383) rfl ?_
              show Steps p.tables e below (T23.setTop (mkF m 384 _ [(.long (of 3).toInt64)])) t
              refine XS.lload P24.here P24.x rfl (hb hby at_384) rfl ?_
              show Steps p.tables e below (T23.setTop (mkF m 386 _ [(.long (own_mx (own_mx s0 s1) (own_mx s2 s3))), (.long (of 3).toInt64)])) t
              refine XS.lcmp P24.here P24.x rfl (hb hby at_386) rfl ?_
              show Steps p.tables e below (T23.setTop (mkF m 387 _ [(.int (lcmpW (of 3).toInt64 (own_mx (own_mx s0 s1) (own_mx s2 s3))))])) t
              refine XS.ifYes P24.here P24.x rfl (pc0 := 387) (pc' := 392) rfl (hb hby at_387) rfl (lcW_eq_t (f3 (by omega))) (by decide) (by decide) ?_
              show Steps p.tables e below (T23.setTop (mkF m 392 _ [])) t
              refine XS.iconst P24.here P24.x rfl (hb hby at_392) ?_
              exact kk
            exact wRet P24 (t := .boolean) hret (narrow_01 (Or.inr rfl)) (Or.inl ⟨rfl, Or.inr (Or.inl rfl), _, rfl⟩) (hb hby at_393) rfl
  rcases hcv with rfl | rfl | rfl | rfl
  · show Done _ _ _ _ _ _ _ _ _ _ _ _ _ _ _ T0 (mkF m 47 _ [])
    refine wNew P0 (tw0 hw) (tw1 hw) (tw2 hw) (hb hby at_47) rfl (by decide) (by decide) (k' := 1) (n' := 4) rfl rfl (fun T25 h27 b28 g29 lt30 P26 E31 X32 D33 => ?_)
    have ge_b28 : h0.size ≤ b28 := by have := P0.ge; omega
    have F34 : Fld Z h27 b28 "com/example/urnwise/urnwise/sampler/SmallestKeys" "capacity" "I" (.int (0 : Int32)) := D33 (Or.inr (tw10 hw)) (ty := .int) (by decide)
    have F35 : Fld Z h27 b28 "com/example/urnwise/urnwise/sampler/SmallestKeys" "keys" "[D" .null := D33 (Or.inl (tw17 hw)) (ty := (.array .double)) (by decide)
    have F36 : Fld Z h27 b28 "com/example/urnwise/urnwise/sampler/SmallestKeys" "indices" "[I" .null := D33 (Or.inl (tw20 hw)) (ty := (.array .int)) (by decide)
    have F37 : Fld Z h27 b28 "com/example/urnwise/urnwise/sampler/SmallestKeys" "size" "I" (.int (0 : Int32)) := D33 (Or.inl (tw27 hw)) (ty := .int) (by decide)
    show Done _ _ _ _ _ _ _ _ _ _ _ _ _ _ _ T25 (mkF m 50 _ [(.ref b28)])
    refine Done.stepL (pc' := 53) (st' := [(.int (1 : Int32)), (.ref b28), (.ref b28)]) (fun t kk => ?_) ?_
    · show Steps p.tables e below (T25.setTop (mkF m 50 _ [(.ref b28)])) t
      refine XS.dup P26.here P26.x rfl (hb hby at_50) rfl rfl ?_
      show Steps p.tables e below (T25.setTop (mkF m 51 _ [(.ref b28), (.ref b28)])) t
      refine XS.iload P26.here P26.x rfl (hb hby at_51) rfl ?_
      exact kk
    refine wCallI P26 (m_hpInit l Z a0 hw b28 (1 : Int32) 1 h27 X32 F34 F35 F36 (by decide) (by decide) F37) rfl (tw3 hw) (tw4 hw) (tw2 hw) (tw5 hw) (by decide) (a := b28) (by rw [hml]; rfl) (lenOf pd_4 rfl) (argsL := [(.int (1 : Int32))]) (rest := [(.ref b28)]) rfl rfl (W := 1) (Nat.le_of_eq rfl) (by decide) (by decide) (by decide) (by decide) (allS (Or.inr ge_b28) all0) (hb hby at_53) rfl (k' := 3) (n' := 36) rfl rfl ?_
    rintro T38 h53 _ P39 K54 ⟨rfl, b40, b41, q42, q43, q44, q45, q46, F47, F48, F49, F50, A51, A52⟩
    have szh53 : h27.size ≤ h53.size := K54.1
    have ge_b40 : h0.size ≤ b40 := by have := q42; have := P26.ge; omega
    have ge_b41 : h0.size ≤ b41 := by have := q43; have := P26.ge; omega
    have dK0 : ∀ i, i < 1 → DInt ((fun _ => (0 : Int)) i) ((fun _ => (0 : UInt64)) i) := fun i _ => dint_c0
    show Done _ _ _ _ _ _ _ _ _ _ _ _ _ _ _ T38 (mkF m 56 _ [(.ref b28)])
    refine Done.step (T' := T38) (g' := (mkF m 58 #[.val (.int p0), .val (.int p1), .val (.int p2), .val (.int p3), .val (.int p4), .val (.int (1 : Int32)), .val (.int nv), .val (.int e0), .val (.int e1), .val (.int e2), .val (.int e3), .val (.ref b28), .unset, .unset, .unset, .unset, .unset, .unset, .unset, .unset, .unset, .unset, .unset, .unset, .unset, .unset, .unset, .unset, .unset, .unset, .unset, .unset, .unset, .unset, .unset, .unset, .unset, .unset, .unset, .unset, .unset, .unset] [])) (fun t kk => ?_) ?_
    · show Steps p.tables e below (T38.setTop (mkF m 56 _ [(.ref b28)])) t
      refine XS.astore P39.here P39.x rfl (hb hby at_56) rfl rfl (l' := #[.val (.int p0), .val (.int p1), .val (.int p2), .val (.int p3), .val (.int p4), .val (.int (1 : Int32)), .val (.int nv), .val (.int e0), .val (.int e1), .val (.int e2), .val (.int e3), .val (.ref b28), .unset, .unset, .unset, .unset, .unset, .unset, .unset, .unset, .unset, .unset, .unset, .unset, .unset, .unset, .unset, .unset, .unset, .unset, .unset, .unset, .unset, .unset, .unset, .unset, .unset, .unset, .unset, .unset, .unset, .unset]) rfl ?_
      exact kk
    rcases hnv with rfl | hnv
    · refine Done.stepL (pc' := 124) (st' := [(.ref b28)]) (fun t kk => ?_) ?_
      · show Steps p.tables e below (T38.setTop (mkF m 58 _ [])) t
        refine XS.iload P39.here P39.x rfl (hb hby at_58) rfl ?_
        show Steps p.tables e below (T38.setTop (mkF m 60 _ [(.int (0 : Int32))])) t
        refine XS.iconst P39.here P39.x rfl (hb hby at_60) ?_
        show Steps p.tables e below (T38.setTop (mkF m 61 _ [(.int (1 : Int32)), (.int (0 : Int32))])) t
        refine XS.icmpYes P39.here P39.x rfl (pc0 := 61) (pc' := 74) rfl (hb hby at_61) rfl (iiW_lt_t (by decide)) (by decide) (by decide) ?_
        show Steps p.tables e below (T38.setTop (mkF m 74 _ [])) t
        refine XS.iload P39.here P39.x rfl (hb hby at_74) rfl ?_
        show Steps p.tables e below (T38.setTop (mkF m 76 _ [(.int (0 : Int32))])) t
        refine XS.iconst P39.here P39.x rfl (hb hby at_76) ?_
        show Steps p.tables e below (T38.setTop (mkF m 77 _ [(.int (2 : Int32)), (.int (0 : Int32))])) t
        refine XS.icmpYes P39.here P39.x rfl (pc0 := 77) (pc' := 90) rfl (hb hby at_77) rfl (iiW_lt_t (by decide)) (by decide) (by decide) ?_
        show Steps p.tables e below (T38.setTop (mkF m 90 _ [])) t
        refine XS.iload P39.here P39.x rfl (hb hby at_90) rfl ?_
        show Steps p.tables e below (T38.setTop (mkF m 92 _ [(.int (0 : Int32))])) t
        refine XS.iconst P39.here P39.x rfl (hb hby at_92) ?_
        show Steps p.tables e below (T38.setTop (mkF m 93 _ [(.int (3 : Int32)), (.int (0 : Int32))])) t
        refine XS.icmpYes P39.here P39.x rfl (pc0 := 93) (pc' := 106) rfl (hb hby at_93) rfl (iiW_lt_t (by decide)) (by decide) (by decide) ?_
        show Steps p.tables e below (T38.setTop (mkF m 106 _ [])) t
        refine XS.iload P39.here P39.x rfl (hb hby at_106) rfl ?_
        show Steps p.tables e below (T38.setTop (mkF m 108 _ [(.int (0 : Int32))])) t
        refine XS.iconst P39.here P39.x rfl (hb hby at_108) ?_
        show Steps p.tables e below (T38.setTop (mkF m 109 _ [(.int (4 : Int32)), (.int (0 : Int32))])) t
        refine XS.icmpYes P39.here P39.x rfl (pc0 := 109) (pc' := 122) rfl (hb hby at_109) rfl (iiW_lt_t (by decide)) (by decide) (by decide) ?_
        show Steps p.tables e below (T38.setTop (mkF m 122 _ [])) t
        refine XS.aload P39.here P39.x rfl (hb hby at_122) rfl rfl ?_
        exact kk
      have f59 := (X32.keep K54)
      refine wCallV P39 (m_ra l Z a0 hw b28 b40 b41 (0 : Int32) 1 0 (fun _ => (0 : UInt64)) (fun _ => (0 : Int)) (fun _ => (0 : Int32)) (1 : Int32) h53 f59 F48 F49 F47 F50 A51 A52 (by first | assumption | exact Ne.symm (by assumption) | exact adr_ne (by omega)) (by first | assumption | exact Ne.symm (by assumption) | exact adr_ne (by omega)) q44 (by decide) rfl dK0 (by decide) (by decide)) (tw21 hw) (tw22 hw) (tw24 hw) (tw24 hw) (tw23 hw) (tw2 hw) (tw25 hw) (by decide) f59 (by rw [hml]; rfl) (lenOf pd_5 rfl) (argsL := []) (rest := []) rfl rfl (W := 0) (Nat.le_of_eq rfl) (by decide) (by decide) (by decide) (by decide) (allS (Or.inr ge_b28) (allS (Or.inr ge_b40) (allS (Or.inr ge_b41) all0))) (hb hby at_124) rfl (k' := 4) (n' := 40) rfl rfl ?_
      rintro T55 h60 _ P56 K61 ⟨rr, of, rfl, ltr, F58, A57, hof⟩
      have szh60 : h53.size ≤ h60.size := K61.1
      show Done _ _ _ _ _ _ _ _ _ _ _ _ _ _ _ T55 (mkF m 127 _ [(.ref rr)])
      refine Done.step (T' := T55) (g' := (mkF m 197 #[.val (.int p0), .val (.int p1), .val (.int p2), .val (.int p3), .val (.int p4), .val (.int (1 : Int32)), .val (.int (0 : Int32)), .val (.int e0), .val (.int e1), .val (.int e2), .val (.int e3), .val (.ref b28), .val (.ref rr), .val (.long (9223372036854775807 : Int64)), .second, .val (.long (9223372036854775807 : Int64)), .second, .val (.long (9223372036854775807 : Int64)), .second, .val (.long (9223372036854775807 : Int64)), .second, .unset, .unset, .unset, .unset, .unset, .unset, .unset, .unset, .unset, .unset, .unset, .unset, .unset, .unset, .unset, .unset, .unset, .unset, .unset, .unset, .unset] [])) (fun t kk => ?_) ?_
      · show Steps p.tables e below (T55.setTop (mkF m 127 _ [(.ref rr)])) t
        refine XS.astore P56.here P56.x rfl (hb hby at_127) rfl rfl (l' := #[.val (.int p0), .val (.int p1), .val (.int p2), .val (.int p3), .val (.int p4), .val (.int (1 : Int32)), .val (.int (0 : Int32)), .val (.int e0), .val (.int e1), .val (.int e2), .val (.int e3), .val (.ref b28), .val (.ref rr), .unset, .unset, .unset, .unset, .unset, .unset, .unset, .unset, .unset, .unset, .unset, .unset, .unset, .unset, .unset, .unset, .unset, .unset, .unset, .unset, .unset, .unset, .unset, .unset, .unset, .unset, .unset, .unset, .unset]) rfl ?_
        show Steps p.tables e below (T55.setTop (mkF m 129 _ [])) t
        refine XS.iload P56.here P56.x rfl (hb hby at_129) rfl ?_
        show Steps p.tables e below (T55.setTop (mkF m 131 _ [(.int (0 : Int32))])) t
        refine XS.iconst P56.here P56.x rfl (hb hby at_131) ?_
        show Steps p.tables e below (T55.setTop (mkF m 132 _ [(.int (1 : Int32)), (.int (0 : Int32))])) t
        refine XS.icmpYes P56.here P56.x rfl (pc0 := 132) (pc' := 141) rfl (hb hby at_132) rfl (iiW_lt_t (by decide)) (by decide) (by decide) ?_
        show Steps p.tables e below (T55.setTop (mkF m 141 _ [])) t
        refine pLdcJ P56 (tw28 hw) (hb hby at_141) rfl ?_
        show Steps p.tables e below (T55.setTop (mkF m 144 _ [(.long (9223372036854775807 : Int64))])) t
        refine XS.lstore P56.here P56.x rfl (hb hby at_144) rfl (l' := #[.val (.int p0), .val (.int p1), .val (.int p2), .val (.int p3), .val (.int p4), .val (.int (1 : Int32)), .val (.int (0 : Int32)), .val (.int e0), .val (.int e1), .val (.int e2), .val (.int e3), .val (.ref b28), .val (.ref rr), .val (.long (9223372036854775807 : Int64)), .second, .unset, .unset, .unset, .unset, .unset, .unset, .unset, .unset, .unset, .unset, .unset, .unset, .unset, .unset, .unset, .unset, .unset, .unset, .unset, .unset, .unset, .unset, .unset, .unset, .unset, .unset, .unset]) rfl ?_
        show Steps p.tables e below (T55.setTop (mkF m 146 _ [])) t
        refine XS.iload P56.here P56.x rfl (hb hby at_146) rfl ?_
        show Steps p.tables e below (T55.setTop (mkF m 148 _ [(.int (0 : Int32))])) t
        refine XS.iconst P56.here P56.x rfl (hb hby at_148) ?_
        show Steps p.tables e below (T55.setTop (mkF m 149 _ [(.int (2 : Int32)), (.int (0 : Int32))])) t
        refine XS.icmpYes P56.here P56.x rfl (pc0 := 149) (pc' := 158) rfl (hb hby at_149) rfl (iiW_lt_t (by decide)) (by decide) (by decide) ?_
        show Steps p.tables e below (T55.setTop (mkF m 158 _ [])) t
        refine pLdcJ P56 (tw28 hw) (hb hby at_158) rfl ?_
        show Steps p.tables e below (T55.setTop (mkF m 161 _ [(.long (9223372036854775807 : Int64))])) t
        refine XS.lstore P56.here P56.x rfl (hb hby at_161) rfl (l' := #[.val (.int p0), .val (.int p1), .val (.int p2), .val (.int p3), .val (.int p4), .val (.int (1 : Int32)), .val (.int (0 : Int32)), .val (.int e0), .val (.int e1), .val (.int e2), .val (.int e3), .val (.ref b28), .val (.ref rr), .val (.long (9223372036854775807 : Int64)), .second, .val (.long (9223372036854775807 : Int64)), .second, .unset, .unset, .unset, .unset, .unset, .unset, .unset, .unset, .unset, .unset, .unset, .unset, .unset, .unset, .unset, .unset, .unset, .unset, .unset, .unset, .unset, .unset, .unset, .unset, .unset]) rfl ?_
        show Steps p.tables e below (T55.setTop (mkF m 163 _ [])) t
        refine XS.iload P56.here P56.x rfl (hb hby at_163) rfl ?_
        show Steps p.tables e below (T55.setTop (mkF m 165 _ [(.int (0 : Int32))])) t
        refine XS.iconst P56.here P56.x rfl (hb hby at_165) ?_
        show Steps p.tables e below (T55.setTop (mkF m 166 _ [(.int (3 : Int32)), (.int (0 : Int32))])) t
        refine XS.icmpYes P56.here P56.x rfl (pc0 := 166) (pc' := 175) rfl (hb hby at_166) rfl (iiW_lt_t (by decide)) (by decide) (by decide) ?_
        show Steps p.tables e below (T55.setTop (mkF m 175 _ [])) t
        refine pLdcJ P56 (tw28 hw) (hb hby at_175) rfl ?_
        show Steps p.tables e below (T55.setTop (mkF m 178 _ [(.long (9223372036854775807 : Int64))])) t
        refine XS.lstore P56.here P56.x rfl (hb hby at_178) rfl (l' := #[.val (.int p0), .val (.int p1), .val (.int p2), .val (.int p3), .val (.int p4), .val (.int (1 : Int32)), .val (.int (0 : Int32)), .val (.int e0), .val (.int e1), .val (.int e2), .val (.int e3), .val (.ref b28), .val (.ref rr), .val (.long (9223372036854775807 : Int64)), .second, .val (.long (9223372036854775807 : Int64)), .second, .val (.long (9223372036854775807 : Int64)), .second, .unset, .unset, .unset, .unset, .unset, .unset, .unset, .unset, .unset, .unset, .unset, .unset, .unset, .unset, .unset, .unset, .unset, .unset, .unset, .unset, .unset, .unset, .unset]) rfl ?_
        show Steps p.tables e below (T55.setTop (mkF m 180 _ [])) t
        refine XS.iload P56.here P56.x rfl (hb hby at_180) rfl ?_
        show Steps p.tables e below (T55.setTop (mkF m 182 _ [(.int (0 : Int32))])) t
        refine XS.iconst P56.here P56.x rfl (hb hby at_182) ?_
        show Steps p.tables e below (T55.setTop (mkF m 183 _ [(.int (4 : Int32)), (.int (0 : Int32))])) t
        refine XS.icmpYes P56.here P56.x rfl (pc0 := 183) (pc' := 192) rfl (hb hby at_183) rfl (iiW_lt_t (by decide)) (by decide) (by decide) ?_
        show Steps p.tables e below (T55.setTop (mkF m 192 _ [])) t
        refine pLdcJ P56 (tw28 hw) (hb hby at_192) rfl ?_
        show Steps p.tables e below (T55.setTop (mkF m 195 _ [(.long (9223372036854775807 : Int64))])) t
        refine XS.lstore P56.here P56.x rfl (hb hby at_195) rfl (l' := #[.val (.int p0), .val (.int p1), .val (.int p2), .val (.int p3), .val (.int p4), .val (.int (1 : Int32)), .val (.int (0 : Int32)), .val (.int e0), .val (.int e1), .val (.int e2), .val (.int e3), .val (.ref b28), .val (.ref rr), .val (.long (9223372036854775807 : Int64)), .second, .val (.long (9223372036854775807 : Int64)), .second, .val (.long (9223372036854775807 : Int64)), .second, .val (.long (9223372036854775807 : Int64)), .second, .unset, .unset, .unset, .unset, .unset, .unset, .unset, .unset, .unset, .unset, .unset, .unset, .unset, .unset, .unset, .unset, .unset, .unset, .unset, .unset, .unset]) rfl ?_
        exact kk
      have f62 := (f59.keep K61)
      exact tail _ _ _ rr _ _ (1 : Int32) (0 : Int32) 0 of (9223372036854775807 : Int64) (9223372036854775807 : Int64) (9223372036854775807 : Int64) (9223372036854775807 : Int64) P56 (by decide) (by decide) f62 F58 A57 (by decide) (fun hh => absurd hh (by decide)) (fun hh => absurd hh (by decide)) (fun hh => absurd hh (by decide)) (fun hh => absurd hh (by decide))
    · have nlt0 : ¬ (nv < (1 : Int32)) := by rcases hnv with rfl | rfl | rfl | rfl <;> decide
      refine Done.stepL (pc' := 71) (st' := [(.int e0), (.double (FP.i2d e0)), (.ref b28)]) (fun t kk => ?_) ?_
      · show Steps p.tables e below (T38.setTop (mkF m 58 _ [])) t
        refine XS.iload P39.here P39.x rfl (hb hby at_58) rfl ?_
        show Steps p.tables e below (T38.setTop (mkF m 60 _ [(.int nv)])) t
        refine XS.iconst P39.here P39.x rfl (hb hby at_60) ?_
        show Steps p.tables e below (T38.setTop (mkF m 61 _ [(.int (1 : Int32)), (.int nv)])) t
        refine XS.icmpNo P39.here P39.x rfl (hb hby at_61) rfl (iiW_lt_f nlt0) ?_
        show Steps p.tables e below (T38.setTop (mkF m 64 _ [])) t
        refine XS.aload P39.here P39.x rfl (hb hby at_64) rfl rfl ?_
        show Steps p.tables e below (T38.setTop (mkF m 66 _ [(.ref b28)])) t
        refine XS.iload P39.here P39.x rfl (hb hby at_66) rfl ?_
        show Steps p.tables e below (T38.setTop (mkF m 68 _ [(.int e0), (.ref b28)])) t
        refine XS.i2dS P39.here P39.x rfl (hb hby at_68) rfl rfl ?_
        show Steps p.tables e below (T38.setTop (mkF m 69 _ [(.double (FP.i2d e0)), (.ref b28)])) t
        refine XS.iload P39.here P39.x rfl (hb hby at_69) rfl ?_
        exact kk
      have f73 := (X32.keep K54)
      refine wCallV P39 (m_offA l Z a0 hw b28 b40 b41 (0 : Int32) 1 0 (fun _ => (0 : UInt64)) (fun _ => (0 : Int)) (fun _ => (0 : Int32)) (1 : Int32) (FP.i2d e0) e0 e0.toInt (1 : Int32) h53 f73 F48 F49 F47 F50 A51 A52 (by first | assumption | exact Ne.symm (by assumption) | exact adr_ne (by omega)) (by first | assumption | exact Ne.symm (by assumption) | exact adr_ne (by omega)) q44 (by decide) rfl dK0 (i2d_int e0) (by decide) (by decide) (by decide)) (tw41 hw) (tw42 hw) (tw44 hw) (tw44 hw) (tw43 hw) (tw2 hw) (tw45 hw) (by decide) f73 (by rw [hml]; rfl) (lenOf pd_6 rfl) (argsL := [(.double (FP.i2d e0)), (.int e0)]) (rest := []) rfl rfl (W := 0) (Nat.le_of_eq rfl) (by decide) (by decide) (by decide) (by decide) (allS (Or.inr ge_b28) (allS (Or.inr ge_b40) (allS (Or.inr ge_b41) all0))) (hb hby at_71) rfl (k' := 3) (n' := 36) rfl rfl ?_
      rintro T63 h74 _ P64 K75 ⟨rfl, kf72, F65, F66, F67, F68, A69, dK71, A70⟩
      have szh74 : h53.size ≤ h74.size := K75.1
      generalize gK1 : (own_of 0 true (fun _ => (0 : Int)) (fun _ => (0 : Int32)) e0.toInt e0).1 = K1 at dK71
      generalize gJ1 : (own_of 0 true (fun _ => (0 : Int)) (fun _ => (0 : Int32)) e0.toInt e0).2 = J1 at A70
      show Done _ _ _ _ _ _ _ _ _ _ _ _ _ _ _ T63 (mkF m 74 _ [])
      rcases hnv with rfl | hnv
      · refine Done.stepL (pc' := 124) (st' := [(.ref b28)]) (fun t kk => ?_) ?_
        · show Steps p.tables e below (T63.setTop (mkF m 74 _ [])) t
          refine XS.iload P64.here P64.x rfl (hb hby at_74) rfl ?_
          show Steps p.tables e below (T63.setTop (mkF m 76 _ [(.int (1 : Int32))])) t
          refine XS.iconst P64.here P64.x rfl (hb hby at_76) ?_
          show Steps p.tables e below (T63.setTop (mkF m 77 _ [(.int (2 : Int32)), (.int (1 : Int32))])) t
          refine XS.icmpYes P64.here P64.x rfl (pc0 := 77) (pc' := 90) rfl (hb hby at_77) rfl (iiW_lt_t (by decide)) (by decide) (by decide) ?_
          show Steps p.tables e below (T63.setTop (mkF m 90 _ [])) t
          refine XS.iload P64.here P64.x rfl (hb hby at_90) rfl ?_
          show Steps p.tables e below (T63.setTop (mkF m 92 _ [(.int (1 : Int32))])) t
          refine XS.iconst P64.here P64.x rfl (hb hby at_92) ?_
          show Steps p.tables e below (T63.setTop (mkF m 93 _ [(.int (3 : Int32)), (.int (1 : Int32))])) t
          refine XS.icmpYes P64.here P64.x rfl (pc0 := 93) (pc' := 106) rfl (hb hby at_93) rfl (iiW_lt_t (by decide)) (by decide) (by decide) ?_
          show Steps p.tables e below (T63.setTop (mkF m 106 _ [])) t
          refine XS.iload P64.here P64.x rfl (hb hby at_106) rfl ?_
          show Steps p.tables e below (T63.setTop (mkF m 108 _ [(.int (1 : Int32))])) t
          refine XS.iconst P64.here P64.x rfl (hb hby at_108) ?_
          show Steps p.tables e below (T63.setTop (mkF m 109 _ [(.int (4 : Int32)), (.int (1 : Int32))])) t
          refine XS.icmpYes P64.here P64.x rfl (pc0 := 109) (pc' := 122) rfl (hb hby at_109) rfl (iiW_lt_t (by decide)) (by decide) (by decide) ?_
          show Steps p.tables e below (T63.setTop (mkF m 122 _ [])) t
          refine XS.aload P64.here P64.x rfl (hb hby at_122) rfl rfl ?_
          exact kk
        have f80 := (f73.keep K75)
        refine wCallV P64 (m_ra l Z a0 hw b28 b40 b41 (1 : Int32) 1 1 kf72 K1 J1 (1 : Int32) h74 f80 F66 F67 F65 F68 A69 A70 (by first | assumption | exact Ne.symm (by assumption) | exact adr_ne (by omega)) (by first | assumption | exact Ne.symm (by assumption) | exact adr_ne (by omega)) q44 (by decide) rfl dK71 (by decide) (by decide)) (tw21 hw) (tw22 hw) (tw24 hw) (tw24 hw) (tw23 hw) (tw2 hw) (tw25 hw) (by decide) f80 (by rw [hml]; rfl) (lenOf pd_5 rfl) (argsL := []) (rest := []) rfl rfl (W := 0) (Nat.le_of_eq rfl) (by decide) (by decide) (by decide) (by decide) (allS (Or.inr ge_b28) (allS (Or.inr ge_b40) (allS (Or.inr ge_b41) all0))) (hb hby at_124) rfl (k' := 4) (n' := 40) rfl rfl ?_
        rintro T76 h81 _ P77 K82 ⟨rr, of, rfl, ltr, F79, A78, hof⟩
        have szh81 : h74.size ≤ h81.size := K82.1
        show Done _ _ _ _ _ _ _ _ _ _ _ _ _ _ _ T76 (mkF m 127 _ [(.ref rr)])
        refine Done.step (T' := T76) (g' := (mkF m 197 #[.val (.int p0), .val (.int p1), .val (.int p2), .val (.int p3), .val (.int p4), .val (.int (1 : Int32)), .val (.int (1 : Int32)), .val (.int e0), .val (.int e1), .val (.int e2), .val (.int e3), .val (.ref b28), .val (.ref rr), .val (.long e0.toInt64), .second, .val (.long (9223372036854775807 : Int64)), .second, .val (.long (9223372036854775807 : Int64)), .second, .val (.long (9223372036854775807 : Int64)), .second, .unset, .unset, .unset, .unset, .unset, .unset, .unset, .unset, .unset, .unset, .unset, .unset, .unset, .unset, .unset, .unset, .unset, .unset, .unset, .unset, .unset] [])) (fun t kk => ?_) ?_
        · show Steps p.tables e below (T76.setTop (mkF m 127 _ [(.ref rr)])) t
          refine XS.astore P77.here P77.x rfl (hb hby at_127) rfl rfl (l' := #[.val (.int p0), .val (.int p1), .val (.int p2), .val (.int p3), .val (.int p4), .val (.int (1 : Int32)), .val (.int (1 : Int32)), .val (.int e0), .val (.int e1), .val (.int e2), .val (.int e3), .val (.ref b28), .val (.ref rr), .unset, .unset, .unset, .unset, .unset, .unset, .unset, .unset, .unset, .unset, .unset, .unset, .unset, .unset, .unset, .unset, .unset, .unset, .unset, .unset, .unset, .unset, .unset, .unset, .unset, .unset, .unset, .unset, .unset]) rfl ?_
          show Steps p.tables e below (T76.setTop (mkF m 129 _ [])) t
          refine XS.iload P77.here P77.x rfl (hb hby at_129) rfl ?_
          show Steps p.tables e below (T76.setTop (mkF m 131 _ [(.int (1 : Int32))])) t
          refine XS.iconst P77.here P77.x rfl (hb hby at_131) ?_
          show Steps p.tables e below (T76.setTop (mkF m 132 _ [(.int (1 : Int32)), (.int (1 : Int32))])) t
          refine XS.icmpNo P77.here P77.x rfl (hb hby at_132) rfl (iiW_lt_f (by decide)) ?_
          show Steps p.tables e below (T76.setTop (mkF m 135 _ [])) t
          refine XS.iload P77.here P77.x rfl (hb hby at_135) rfl ?_
          show Steps p.tables e below (T76.setTop (mkF m 137 _ [(.int e0)])) t
          refine XS.i2l P77.here P77.x rfl (hb hby at_137) rfl ?_
          show Steps p.tables e below (T76.setTop (mkF m 138 _ [(.long e0.toInt64)])) t
          refine XS.goto P77.here P77.x rfl (pc0 := 138) (pc' := 144) rfl (hb hby at_138) (by decide) (by decide) ?_
          show Steps p.tables e below (T76.setTop (mkF m 144 _ [(.long e0.toInt64)])) t
          refine XS.lstore P77.here P77.x rfl (hb hby at_144) rfl (l' := #[.val (.int p0), .val (.int p1), .val (.int p2), .val (.int p3), .val (.int p4), .val (.int (1 : Int32)), .val (.int (1 : Int32)), .val (.int e0), .val (.int e1), .val (.int e2), .val (.int e3), .val (.ref b28), .val (.ref rr), .val (.long e0.toInt64), .second, .unset, .unset, .unset, .unset, .unset, .unset, .unset, .unset, .unset, .unset, .unset, .unset, .unset, .unset, .unset, .unset, .unset, .unset, .unset, .unset, .unset, .unset, .unset, .unset, .unset, .unset, .unset]) rfl ?_
          show Steps p.tables e below (T76.setTop (mkF m 146 _ [])) t
          refine XS.iload P77.here P77.x rfl (hb hby at_146) rfl ?_
          show Steps p.tables e below (T76.setTop (mkF m 148 _ [(.int (1 : Int32))])) t
          refine XS.iconst P77.here P77.x rfl (hb hby at_148) ?_
          show Steps p.tables e below (T76.setTop (mkF m 149 _ [(.int (2 : Int32)), (.int (1 : Int32))])) t
          refine XS.icmpYes P77.here P77.x rfl (pc0 := 149) (pc' := 158) rfl (hb hby at_149) rfl (iiW_lt_t (by decide)) (by decide) (by decide) ?_
          show Steps p.tables e below (T76.setTop (mkF m 158 _ [])) t
          refine pLdcJ P77 (tw28 hw) (hb hby at_158) rfl ?_
          show Steps p.tables e below (T76.setTop (mkF m 161 _ [(.long (9223372036854775807 : Int64))])) t
          refine XS.lstore P77.here P77.x rfl (hb hby at_161) rfl (l' := #[.val (.int p0), .val (.int p1), .val (.int p2), .val (.int p3), .val (.int p4), .val (.int (1 : Int32)), .val (.int (1 : Int32)), .val (.int e0), .val (.int e1), .val (.int e2), .val (.int e3), .val (.ref b28), .val (.ref rr), .val (.long e0.toInt64), .second, .val (.long (9223372036854775807 : Int64)), .second, .unset, .unset, .unset, .unset, .unset, .unset, .unset, .unset, .unset, .unset, .unset, .unset, .unset, .unset, .unset, .unset, .unset, .unset, .unset, .unset, .unset, .unset, .unset, .unset, .unset]) rfl ?_
          show Steps p.tables e below (T76.setTop (mkF m 163 _ [])) t
          refine XS.iload P77.here P77.x rfl (hb hby at_163) rfl ?_
          show Steps p.tables e below (T76.setTop (mkF m 165 _ [(.int (1 : Int32))])) t
          refine XS.iconst P77.here P77.x rfl (hb hby at_165) ?_
          show Steps p.tables e below (T76.setTop (mkF m 166 _ [(.int (3 : Int32)), (.int (1 : Int32))])) t
          refine XS.icmpYes P77.here P77.x rfl (pc0 := 166) (pc' := 175) rfl (hb hby at_166) rfl (iiW_lt_t (by decide)) (by decide) (by decide) ?_
          show Steps p.tables e below (T76.setTop (mkF m 175 _ [])) t
          refine pLdcJ P77 (tw28 hw) (hb hby at_175) rfl ?_
          show Steps p.tables e below (T76.setTop (mkF m 178 _ [(.long (9223372036854775807 : Int64))])) t
          refine XS.lstore P77.here P77.x rfl (hb hby at_178) rfl (l' := #[.val (.int p0), .val (.int p1), .val (.int p2), .val (.int p3), .val (.int p4), .val (.int (1 : Int32)), .val (.int (1 : Int32)), .val (.int e0), .val (.int e1), .val (.int e2), .val (.int e3), .val (.ref b28), .val (.ref rr), .val (.long e0.toInt64), .second, .val (.long (9223372036854775807 : Int64)), .second, .val (.long (9223372036854775807 : Int64)), .second, .unset, .unset, .unset, .unset, .unset, .unset, .unset, .unset, .unset, .unset, .unset, .unset, .unset, .unset, .unset, .unset, .unset, .unset, .unset, .unset, .unset, .unset, .unset]) rfl ?_
          show Steps p.tables e below (T76.setTop (mkF m 180 _ [])) t
          refine XS.iload P77.here P77.x rfl (hb hby at_180) rfl ?_
          show Steps p.tables e below (T76.setTop (mkF m 182 _ [(.int (1 : Int32))])) t
          refine XS.iconst P77.here P77.x rfl (hb hby at_182) ?_
          show Steps p.tables e below (T76.setTop (mkF m 183 _ [(.int (4 : Int32)), (.int (1 : Int32))])) t
          refine XS.icmpYes P77.here P77.x rfl (pc0 := 183) (pc' := 192) rfl (hb hby at_183) rfl (iiW_lt_t (by decide)) (by decide) (by decide) ?_
          show Steps p.tables e below (T76.setTop (mkF m 192 _ [])) t
          refine pLdcJ P77 (tw28 hw) (hb hby at_192) rfl ?_
          show Steps p.tables e below (T76.setTop (mkF m 195 _ [(.long (9223372036854775807 : Int64))])) t
          refine XS.lstore P77.here P77.x rfl (hb hby at_195) rfl (l' := #[.val (.int p0), .val (.int p1), .val (.int p2), .val (.int p3), .val (.int p4), .val (.int (1 : Int32)), .val (.int (1 : Int32)), .val (.int e0), .val (.int e1), .val (.int e2), .val (.int e3), .val (.ref b28), .val (.ref rr), .val (.long e0.toInt64), .second, .val (.long (9223372036854775807 : Int64)), .second, .val (.long (9223372036854775807 : Int64)), .second, .val (.long (9223372036854775807 : Int64)), .second, .unset, .unset, .unset, .unset, .unset, .unset, .unset, .unset, .unset, .unset, .unset, .unset, .unset, .unset, .unset, .unset, .unset, .unset, .unset, .unset, .unset]) rfl ?_
          exact kk
        have f83 := (f80.keep K82)
        have fin := own_fin_1_1 e0  K1 J1 gK1 gJ1 of hof
        exact tail _ _ _ rr _ _ (1 : Int32) (1 : Int32) 1 of e0.toInt64 (9223372036854775807 : Int64) (9223372036854775807 : Int64) (9223372036854775807 : Int64) P77 (by decide) (by decide) f83 F79 A78 (by decide) (fun _ => fin) (fun hh => absurd hh (by decide)) (fun hh => absurd hh (by decide)) (fun hh => absurd hh (by decide))
      · have nlt1 : ¬ (nv < (2 : Int32)) := by rcases hnv with rfl | rfl | rfl <;> decide
        refine Done.stepL (pc' := 87) (st' := [(.int e1), (.double (FP.i2d e1)), (.ref b28)]) (fun t kk => ?_) ?_
        · show Steps p.tables e below (T63.setTop (mkF m 74 _ [])) t
          refine XS.iload P64.here P64.x rfl (hb hby at_74) rfl ?_
          show Steps p.tables e below (T63.setTop (mkF m 76 _ [(.int nv)])) t
          refine XS.iconst P64.here P64.x rfl (hb hby at_76) ?_
          show Steps p.tables e below (T63.setTop (mkF m 77 _ [(.int (2 : Int32)), (.int nv)])) t
          refine XS.icmpNo P64.here P64.x rfl (hb hby at_77) rfl (iiW_lt_f nlt1) ?_
          show Steps p.tables e below (T63.setTop (mkF m 80 _ [])) t
          refine XS.aload P64.here P64.x rfl (hb hby at_80) rfl rfl ?_
          show Steps p.tables e below (T63.setTop (mkF m 82 _ [(.ref b28)])) t
          refine XS.iload P64.here P64.x rfl (hb hby at_82) rfl ?_
          show Steps p.tables e below (T63.setTop (mkF m 84 _ [(.int e1), (.ref b28)])) t
          refine XS.i2dS P64.here P64.x rfl (hb hby at_84) rfl rfl ?_
          show Steps p.tables e below (T63.setTop (mkF m 85 _ [(.double (FP.i2d e1)), (.ref b28)])) t
          refine XS.iload P64.here P64.x rfl (hb hby at_85) rfl ?_
          exact kk
        have f94 := (f73.keep K75)
        refine wCallV P64 (m_offB l Z a0 hw b28 b40 b41 (1 : Int32) 1 1 kf72 K1 J1 (1 : Int32) (FP.i2d e1) e1 e1.toInt h74 f94 F66 F67 F65 F68 A69 A70 (by first | assumption | exact Ne.symm (by assumption) | exact adr_ne (by omega)) (by first | assumption | exact Ne.symm (by assumption) | exact adr_ne (by omega)) q44 (by decide) rfl dK71 (i2d_int e1) (by decide) (by decide) (by decide)) (tw41 hw) (tw42 hw) (tw44 hw) (tw44 hw) (tw43 hw) (tw2 hw) (tw45 hw) (by decide) f94 (by rw [hml]; rfl) (lenOf pd_6 rfl) (argsL := [(.double (FP.i2d e1)), (.int e1)]) (rest := []) rfl rfl (W := 0) (Nat.le_of_eq rfl) (by decide) (by decide) (by decide) (by decide) (allS (Or.inr ge_b40) (allS (Or.inr ge_b41) all0)) (hb hby at_87) rfl (k' := 3) (n' := 36) rfl rfl ?_
        rintro T84 h95 _ P85 K96 ⟨rfl, kf93, F86, F87, F88, F89, A90, dK92, A91⟩
        have szh95 : h74.size ≤ h95.size := K96.1
        generalize gK2 : (own_of 1 false K1 J1 e1.toInt e1).1 = K2 at dK92
        generalize gJ2 : (own_of 1 false K1 J1 e1.toInt e1).2 = J2 at A91
        show Done _ _ _ _ _ _ _ _ _ _ _ _ _ _ _ T84 (mkF m 90 _ [])
        rcases hnv with rfl | hnv
        · refine Done.stepL (pc' := 124) (st' := [(.ref b28)]) (fun t kk => ?_) ?_
          · show Steps p.tables e below (T84.setTop (mkF m 90 _ [])) t
            refine XS.iload P85.here P85.x rfl (hb hby at_90) rfl ?_
            show Steps p.tables e below (T84.setTop (mkF m 92 _ [(.int (2 : Int32))])) t
            refine XS.iconst P85.here P85.x rfl (hb hby at_92) ?_
            show Steps p.tables e below (T84.setTop (mkF m 93 _ [(.int (3 : Int32)), (.int (2 : Int32))])) t
            refine XS.icmpYes P85.here P85.x rfl (pc0 := 93) (pc' := 106) rfl (hb hby at_93) rfl (iiW_lt_t (by decide)) (by decide) (by decide) ?_
            show Steps p.tables e below (T84.setTop (mkF m 106 _ [])) t
            refine XS.iload P85.here P85.x rfl (hb hby at_106) rfl ?_
            show Steps p.tables e below (T84.setTop (mkF m 108 _ [(.int (2 : Int32))])) t
            refine XS.iconst P85.here P85.x rfl (hb hby at_108) ?_
            show Steps p.tables e below (T84.setTop (mkF m 109 _ [(.int (4 : Int32)), (.int (2 : Int32))])) t
            refine XS.icmpYes P85.here P85.x rfl (pc0 := 109) (pc' := 122) rfl (hb hby at_109) rfl (iiW_lt_t (by decide)) (by decide) (by decide) ?_
            show Steps p.tables e below (T84.setTop (mkF m 122 _ [])) t
            refine XS.aload P85.here P85.x rfl (hb hby at_122) rfl rfl ?_
            exact kk
          have f101 := (f94.keep K96)
          refine wCallV P85 (m_ra l Z a0 hw b28 b40 b41 (1 : Int32) 1 1 kf93 K2 J2 (1 : Int32) h95 f101 F87 F88 F86 F89 A90 A91 (by first | assumption | exact Ne.symm (by assumption) | exact adr_ne (by omega)) (by first | assumption | exact Ne.symm (by assumption) | exact adr_ne (by omega)) q44 (by decide) rfl dK92 (by decide) (by decide)) (tw21 hw) (tw22 hw) (tw24 hw) (tw24 hw) (tw23 hw) (tw2 hw) (tw25 hw) (by decide) f101 (by rw [hml]; rfl) (lenOf pd_5 rfl) (argsL := []) (rest := []) rfl rfl (W := 0) (Nat.le_of_eq rfl) (by decide) (by decide) (by decide) (by decide) (allS (Or.inr ge_b28) (allS (Or.inr ge_b40) (allS (Or.inr ge_b41) all0))) (hb hby at_124) rfl (k' := 4) (n' := 40) rfl rfl ?_
          rintro T97 h102 _ P98 K103 ⟨rr, of, rfl, ltr, F100, A99, hof⟩
          have szh102 : h95.size ≤ h102.size := K103.1
          show Done _ _ _ _ _ _ _ _ _ _ _ _ _ _ _ T97 (mkF m 127 _ [(.ref rr)])
          refine Done.step (T' := T97) (g' := (mkF m 197 #[.val (.int p0), .val (.int p1), .val (.int p2), .val (.int p3), .val (.int p4), .val (.int (1 : Int32)), .val (.int (2 : Int32)), .val (.int e0), .val (.int e1), .val (.int e2), .val (.int e3), .val (.ref b28), .val (.ref rr), .val (.long e0.toInt64), .second, .val (.long e1.toInt64), .second, .val (.long (9223372036854775807 : Int64)), .second, .val (.long (9223372036854775807 : Int64)), .second, .unset, .unset, .unset, .unset, .unset, .unset, .unset, .unset, .unset, .unset, .unset, .unset, .unset, .unset, .unset, .unset, .unset, .unset, .unset, .unset, .unset] [])) (fun t kk => ?_) ?_
          · show Steps p.tables e below (T97.setTop (mkF m 127 _ [(.ref rr)])) t
            refine XS.astore P98.here P98.x rfl (hb hby at_127) rfl rfl (l' := #[.val (.int p0), .val (.int p1), .val (.int p2), .val (.int p3), .val (.int p4), .val (.int (1 : Int32)), .val (.int (2 : Int32)), .val (.int e0), .val (.int e1), .val (.int e2), .val (.int e3), .val (.ref b28), .val (.ref rr), .unset, .unset, .unset, .unset, .unset, .unset, .unset, .unset, .unset, .unset, .unset, .unset, .unset, .unset, .unset, .unset, .unset, .unset, .unset, .unset, .unset, .unset, .unset, .unset, .unset, .unset, .unset, .unset, .unset]) rfl ?_
            show Steps p.tables e below (T97.setTop (mkF m 129 _ [])) t
            refine XS.iload P98.here P98.x rfl (hb hby at_129) rfl ?_
            show Steps p.tables e below (T97.setTop (mkF m 131 _ [(.int (2 : Int32))])) t
            refine XS.iconst P98.here P98.x rfl (hb hby at_131) ?_
            show Steps p.tables e below (T97.setTop (mkF m 132 _ [(.int (1 : Int32)), (.int (2 : Int32))])) t
            refine XS.icmpNo P98.here P98.x rfl (hb hby at_132) rfl (iiW_lt_f (by decide)) ?_
            show Steps p.tables e below (T97.setTop (mkF m 135 _ [])) t
            refine XS.iload P98.here P98.x rfl (hb hby at_135) rfl ?_
            show Steps p.tables e below (T97.setTop (mkF m 137 _ [(.int e0)])) t
            refine XS.i2l P98.here P98.x rfl (hb hby at_137) rfl ?_
            show Steps p.tables e below (T97.setTop (mkF m 138 _ [(.long e0.toInt64)])) t
            refine XS.goto P98.here P98.x rfl (pc0 := 138) (pc' := 144) rfl (hb hby at_138) (by decide) (by decide) ?_
            show Steps p.tables e below (T97.setTop (mkF m 144 _ [(.long e0.toInt64)])) t
            refine XS.lstore P98.here P98.x rfl (hb hby at_144) rfl (l' := #[.val (.int p0), .val (.int p1), .val (.int p2), .val (.int p3), .val (.int p4), .val (.int (1 : Int32)), .val (.int (2 : Int32)), .val (.int e0), .val (.int e1), .val (.int e2), .val (.int e3), .val (.ref b28), .val (.ref rr), .val (.long e0.toInt64), .second, .unset, .unset, .unset, .unset, .unset, .unset, .unset, .unset, .unset, .unset, .unset, .unset, .unset, .unset, .unset, .unset, .unset, .unset, .unset, .unset, .unset, .unset, .unset, .unset, .unset, .unset, .unset]) rfl ?_
            show Steps p.tables e below (T97.setTop (mkF m 146 _ [])) t
            refine XS.iload P98.here P98.x rfl (hb hby at_146) rfl ?_
            show Steps p.tables e below (T97.setTop (mkF m 148 _ [(.int (2 : Int32))])) t
            refine XS.iconst P98.here P98.x rfl (hb hby at_148) ?_
            show Steps p.tables e below (T97.setTop (mkF m 149 _ [(.int (2 : Int32)), (.int (2 : Int32))])) t
            refine XS.icmpNo P98.here P98.x rfl (hb hby at_149) rfl (iiW_lt_f (by decide)) ?_
            show Steps p.tables e below (T97.setTop (mkF m 152 _ [])) t
            refine XS.iload P98.here P98.x rfl (hb hby at_152) rfl ?_
            show Steps p.tables e below (T97.setTop (mkF m 154 _ [(.int e1)])) t
            refine XS.i2l P98.here P98.x rfl (hb hby at_154) rfl ?_
            show Steps p.tables e below (T97.setTop (mkF m 155 _ [(.long e1.toInt64)])) t
            refine XS.goto P98.here P98.x rfl (pc0 := 155) (pc' := 161) rfl (hb hby at_155) (by decide) (by decide) ?_
            show Steps p.tables e below (T97.setTop (mkF m 161 _ [(.long e1.toInt64)])) t
            refine XS.lstore P98.here P98.x rfl (hb hby at_161) rfl (l' := #[.val (.int p0), .val (.int p1), .val (.int p2), .val (.int p3), .val (.int p4), .val (.int (1 : Int32)), .val (.int (2 : Int32)), .val (.int e0), .val (.int e1), .val (.int e2), .val (.int e3), .val (.ref b28), .val (.ref rr), .val (.long e0.toInt64), .second, .val (.long e1.toInt64), .second, .unset, .unset, .unset, .unset, .unset, .unset, .unset, .unset, .unset, .unset, .unset, .unset, .unset, .unset, .unset, .unset, .unset, .unset, .unset, .unset, .unset, .unset, .unset, .unset, .unset]) rfl ?_
            show Steps p.tables e below (T97.setTop (mkF m 163 _ [])) t
            refine XS.iload P98.here P98.x rfl (hb hby at_163) rfl ?_
            show Steps p.tables e below (T97.setTop (mkF m 165 _ [(.int (2 : Int32))])) t
            refine XS.iconst P98.here P98.x rfl (hb hby at_165) ?_
            show Steps p.tables e below (T97.setTop (mkF m 166 _ [(.int (3 : Int32)), (.int (2 : Int32))])) t
            refine XS.icmpYes P98.here P98.x rfl (pc0 := 166) (pc' := 175) rfl (hb hby at_166) rfl (iiW_lt_t (by decide)) (by decide) (by decide) ?_
            show Steps p.tables e below (T97.setTop (mkF m 175 _ [])) t
            refine pLdcJ P98 (tw28 hw) (hb hby at_175) rfl ?_
            show Steps p.tables e below (T97.setTop (mkF m 178 _ [(.long (9223372036854775807 : Int64))])) t
            refine XS.lstore P98.here P98.x rfl (hb hby at_178) rfl (l' := #[.val (.int p0), .val (.int p1), .val (.int p2), .val (.int p3), .val (.int p4), .val (.int (1 : Int32)), .val (.int (2 : Int32)), .val (.int e0), .val (.int e1), .val (.int e2), .val (.int e3), .val (.ref b28), .val (.ref rr), .val (.long e0.toInt64), .second, .val (.long e1.toInt64), .second, .val (.long (9223372036854775807 : Int64)), .second, .unset, .unset, .unset, .unset, .unset, .unset, .unset, .unset, .unset, .unset, .unset, .unset, .unset, .unset, .unset, .unset, .unset, .unset, .unset, .unset, .unset, .unset, .unset]) rfl ?_
            show Steps p.tables e below (T97.setTop (mkF m 180 _ [])) t
            refine XS.iload P98.here P98.x rfl (hb hby at_180) rfl ?_
            show Steps p.tables e below (T97.setTop (mkF m 182 _ [(.int (2 : Int32))])) t
            refine XS.iconst P98.here P98.x rfl (hb hby at_182) ?_
            show Steps p.tables e below (T97.setTop (mkF m 183 _ [(.int (4 : Int32)), (.int (2 : Int32))])) t
            refine XS.icmpYes P98.here P98.x rfl (pc0 := 183) (pc' := 192) rfl (hb hby at_183) rfl (iiW_lt_t (by decide)) (by decide) (by decide) ?_
            show Steps p.tables e below (T97.setTop (mkF m 192 _ [])) t
            refine pLdcJ P98 (tw28 hw) (hb hby at_192) rfl ?_
            show Steps p.tables e below (T97.setTop (mkF m 195 _ [(.long (9223372036854775807 : Int64))])) t
            refine XS.lstore P98.here P98.x rfl (hb hby at_195) rfl (l' := #[.val (.int p0), .val (.int p1), .val (.int p2), .val (.int p3), .val (.int p4), .val (.int (1 : Int32)), .val (.int (2 : Int32)), .val (.int e0), .val (.int e1), .val (.int e2), .val (.int e3), .val (.ref b28), .val (.ref rr), .val (.long e0.toInt64), .second, .val (.long e1.toInt64), .second, .val (.long (9223372036854775807 : Int64)), .second, .val (.long (9223372036854775807 : Int64)), .second, .unset, .unset, .unset, .unset, .unset, .unset, .unset, .unset, .unset, .unset, .unset, .unset, .unset, .unset, .unset, .unset, .unset, .unset, .unset, .unset, .unset]) rfl ?_
            exact kk
          have f104 := (f101.keep K103)
          have fin := own_fin_1_2 e0 e1 d01 K1 J1 gK1 gJ1 K2 J2 gK2 gJ2 of hof
          exact tail _ _ _ rr _ _ (1 : Int32) (2 : Int32) 1 of e0.toInt64 e1.toInt64 (9223372036854775807 : Int64) (9223372036854775807 : Int64) P98 (by decide) (by decide) f104 F100 A99 (by decide) (fun _ => fin) (fun hh => absurd hh (by decide)) (fun hh => absurd hh (by decide)) (fun hh => absurd hh (by decide))
        · have nlt2 : ¬ (nv < (3 : Int32)) := by rcases hnv with rfl | rfl <;> decide
          refine Done.stepL (pc' := 103) (st' := [(.int e2), (.double (FP.i2d e2)), (.ref b28)]) (fun t kk => ?_) ?_
          · show Steps p.tables e below (T84.setTop (mkF m 90 _ [])) t
            refine XS.iload P85.here P85.x rfl (hb hby at_90) rfl ?_
            show Steps p.tables e below (T84.setTop (mkF m 92 _ [(.int nv)])) t
            refine XS.iconst P85.here P85.x rfl (hb hby at_92) ?_
            show Steps p.tables e below (T84.setTop (mkF m 93 _ [(.int (3 : Int32)), (.int nv)])) t
            refine XS.icmpNo P85.here P85.x rfl (hb hby at_93) rfl (iiW_lt_f nlt2) ?_
            show Steps p.tables e below (T84.setTop (mkF m 96 _ [])) t
            refine XS.aload P85.here P85.x rfl (hb hby at_96) rfl rfl ?_
            show Steps p.tables e below (T84.setTop (mkF m 98 _ [(.ref b28)])) t
            refine XS.iload P85.here P85.x rfl (hb hby at_98) rfl ?_
            show Steps p.tables e below (T84.setTop (mkF m 100 _ [(.int e2), (.ref b28)])) t
            refine XS.i2dS P85.here P85.x rfl (hb hby at_100) rfl rfl ?_
            show Steps p.tables e below (T84.setTop (mkF m 101 _ [(.double (FP.i2d e2)), (.ref b28)])) t
            refine XS.iload P85.here P85.x rfl (hb hby at_101) rfl ?_
            exact kk
          have f115 := (f94.keep K96)
          refine wCallV P85 (m_offB l Z a0 hw b28 b40 b41 (1 : Int32) 1 1 kf93 K2 J2 (1 : Int32) (FP.i2d e2) e2 e2.toInt h95 f115 F87 F88 F86 F89 A90 A91 (by first | assumption | exact Ne.symm (by assumption) | exact adr_ne (by omega)) (by first | assumption | exact Ne.symm (by assumption) | exact adr_ne (by omega)) q44 (by decide) rfl dK92 (i2d_int e2) (by decide) (by decide) (by decide)) (tw41 hw) (tw42 hw) (tw44 hw) (tw44 hw) (tw43 hw) (tw2 hw) (tw45 hw) (by decide) f115 (by rw [hml]; rfl) (lenOf pd_6 rfl) (argsL := [(.double (FP.i2d e2)), (.int e2)]) (rest := []) rfl rfl (W := 0) (Nat.le_of_eq rfl) (by decide) (by decide) (by decide) (by decide) (allS (Or.inr ge_b40) (allS (Or.inr ge_b41) all0)) (hb hby at_103) rfl (k' := 3) (n' := 36) rfl rfl ?_
          rintro T105 h116 _ P106 K117 ⟨rfl, kf114, F107, F108, F109, F110, A111, dK113, A112⟩
          have szh116 : h95.size ≤ h116.size := K117.1
          generalize gK3 : (own_of 1 false K2 J2 e2.toInt e2).1 = K3 at dK113
          generalize gJ3 : (own_of 1 false K2 J2 e2.toInt e2).2 = J3 at A112
          show Done _ _ _ _ _ _ _ _ _ _ _ _ _ _ _ T105 (mkF m 106 _ [])
          rcases hnv with rfl | rfl
          · refine Done.stepL (pc' := 124) (st' := [(.ref b28)]) (fun t kk => ?_) ?_
            · show Steps p.tables e below (T105.setTop (mkF m 106 _ [])) t
              refine XS.iload P106.here P106.x rfl (hb hby at_106) rfl ?_
              show Steps p.tables e below (T105.setTop (mkF m 108 _ [(.int (3 : Int32))])) t
              refine XS.iconst P106.here P106.x rfl (hb hby at_108) ?_
              show Steps p.tables e below (T105.setTop (mkF m 109 _ [(.int (4 : Int32)), (.int (3 : Int32))])) t
              refine XS.icmpYes P106.here P106.x rfl (pc0 := 109) (pc' := 122) rfl (hb hby at_109) rfl (iiW_lt_t (by decide)) (by decide) (by decide) ?_
              show Steps p.tables e below (T105.setTop (mkF m 122 _ [])) t
              refine XS.aload P106.here P106.x rfl (hb hby at_122) rfl rfl ?_
              exact kk
            have f122 := (f115.keep K117)
            refine wCallV P106 (m_ra l Z a0 hw b28 b40 b41 (1 : Int32) 1 1 kf114 K3 J3 (1 : Int32) h116 f122 F108 F109 F107 F110 A111 A112 (by first | assumption | exact Ne.symm (by assumption) | exact adr_ne (by omega)) (by first | assumption | exact Ne.symm (by assumption) | exact adr_ne (by omega)) q44 (by decide) rfl dK113 (by decide) (by decide)) (tw21 hw) (tw22 hw) (tw24 hw) (tw24 hw) (tw23 hw) (tw2 hw) (tw25 hw) (by decide) f122 (by rw [hml]; rfl) (lenOf pd_5 rfl) (argsL := []) (rest := []) rfl rfl (W := 0) (Nat.le_of_eq rfl) (by decide) (by decide) (by decide) (by decide) (allS (Or.inr ge_b28) (allS (Or.inr ge_b40) (allS (Or.inr ge_b41) all0))) (hb hby at_124) rfl (k' := 4) (n' := 40) rfl rfl ?_
            rintro T118 h123 _ P119 K124 ⟨rr, of, rfl, ltr, F121, A120, hof⟩
            have szh123 : h116.size ≤ h123.size := K124.1
            show Done _ _ _ _ _ _ _ _ _ _ _ _ _ _ _ T118 (mkF m 127 _ [(.ref rr)])
            refine Done.step (T' := T118) (g' := (mkF m 197 #[.val (.int p0), .val (.int p1), .val (.int p2), .val (.int p3), .val (.int p4), .val (.int (1 : Int32)), .val (.int (3 : Int32)), .val (.int e0), .val (.int e1), .val (.int e2), .val (.int e3), .val (.ref b28), .val (.ref rr), .val (.long e0.toInt64), .second, .val (.long e1.toInt64), .second, .val (.long e2.toInt64), .second, .val (.long (9223372036854775807 : Int64)), .second, .unset, .unset, .unset, .unset, .unset, .unset, .unset, .unset, .unset, .unset, .unset, .unset, .unset, .unset, .unset, .unset, .unset, .unset, .unset, .unset, .unset] [])) (fun t kk => ?_) ?_
            · show Steps p.tables e below (T118.setTop (mkF m 127 _ [(.ref rr)])) t
              refine XS.astore P119.here P119.x rfl (hb hby at_127) rfl rfl (l' := #[.val (.int p0), .val (.int p1), .val (.int p2), .val (.int p3), .val (.int p4), .val (.int (1 : Int32)), .val (.int (3 : Int32)), .val (.int e0), .val (.int e1), .val (.int e2), .val (.int e3), .val (.ref b28), .val (.ref rr), .unset, .unset, .unset, .unset, .unset, .unset, .unset, .unset, .unset, .unset, .unset, .unset, .unset, .unset, .unset, .unset, .unset, .unset, .unset, .unset, .unset, .unset, .unset, .unset, .unset, .unset, .unset, .unset, .unset]) rfl ?_
              show Steps p.tables e below (T118.setTop (mkF m 129 _ [])) t
              refine XS.iload P119.here P119.x rfl (hb hby at_129) rfl ?_
              show Steps p.tables e below (T118.setTop (mkF m 131 _ [(.int (3 : Int32))])) t
              refine XS.iconst P119.here P119.x rfl (hb hby at_131) ?_
              show Steps p.tables e below (T118.setTop (mkF m 132 _ [(.int (1 : Int32)), (.int (3 : Int32))])) t
              refine XS.icmpNo P119.here P119.x rfl (hb hby at_132) rfl (iiW_lt_f (by decide)) ?_
              show Steps p.tables e below (T118.setTop (mkF m 135 _ [])) t
              refine XS.iload P119.here P119.x rfl (hb hby at_135) rfl ?_
              show Steps p.tables e below (T118.setTop (mkF m 137 _ [(.int e0)])) t
              refine XS.i2l P119.here P119.x rfl (hb hby at_137) rfl ?_
              show Steps p.tables e below (T118.setTop (mkF m 138 _ [(.long e0.toInt64)])) t
              refine XS.goto P119.here P119.x rfl (pc0 := 138) (pc' := 144) rfl (hb hby at_138) (by decide) (by decide) ?_
              show Steps p.tables e below (T118.setTop (mkF m 144 _ [(.long e0.toInt64)])) t
              refine XS.lstore P119.here P119.x rfl (hb hby at_144) rfl (l' := #[.val (.int p0), .val (.int p1), .val (.int p2), .val (.int p3), .val (.int p4), .val (.int (1 : Int32)), .val (.int (3 : Int32)), .val (.int e0), .val (.int e1), .val (.int e2), .val (.int e3), .val (.ref b28), .val (.ref rr), .val (.long e0.toInt64), .second, .unset, .unset, .unset, .unset, .unset, .unset, .unset, .unset, .unset, .unset, .unset, .unset, .unset, .unset, .unset, .unset, .unset, .unset, .unset, .unset, .unset, .unset, .unset, .unset, .unset, .unset, .unset]) rfl ?_
              show Steps p.tables e below (T118.setTop (mkF m 146 _ [])) t
              refine XS.iload P119.here P119.x rfl (hb hby at_146) rfl ?_
              show Steps p.tables e below (T118.setTop (mkF m 148 _ [(.int (3 : Int32))])) t
              refine XS.iconst P119.here P119.x rfl (hb hby at_148) ?_
              show Steps p.tables e below (T118.setTop (mkF m 149 _ [(.int (2 : Int32)), (.int (3 : Int32))])) t
              refine XS.icmpNo P119.here P119.x rfl (hb hby at_149) rfl (iiW_lt_f (by decide)) ?_
              show Steps p.tables e below (T118.setTop (mkF m 152 _ [])) t
              refine XS.iload P119.here P119.x rfl (hb hby at_152) rfl ?_
              show Steps p.tables e below (T118.setTop (mkF m 154 _ [(.int e1)])) t
              refine XS.i2l P119.here P119.x rfl (hb hby at_154) rfl ?_
              show Steps p.tables e below (T118.setTop (mkF m 155 _ [(.long e1.toInt64)])) t
              refine XS.goto P119.here P119.x rfl (pc0 := 155) (pc' := 161) rfl (hb hby at_155) (by decide) (by decide) ?_
              show Steps p.tables e below (T118.setTop (mkF m 161 _ [(.long e1.toInt64)])) t
              refine XS.lstore P119.here P119.x rfl (hb hby at_161) rfl (l' := #[.val (.int p0), .val (.int p1), .val (.int p2), .val (.int p3), .val (.int p4), .val (.int (1 : Int32)), .val (.int (3 : Int32)), .val (.int e0), .val (.int e1), .val (.int e2), .val (.int e3), .val (.ref b28), .val (.ref rr), .val (.long e0.toInt64), .second, .val (.long e1.toInt64), .second, .unset, .unset, .unset, .unset, .unset, .unset, .unset, .unset, .unset, .unset, .unset, .unset, .unset, .unset, .unset, .unset, .unset, .unset, .unset, .unset, .unset, .unset, .unset, .unset, .unset]) rfl ?_
              show Steps p.tables e below (T118.setTop (mkF m 163 _ [])) t
              refine XS.iload P119.here P119.x rfl (hb hby at_163) rfl ?_
              show Steps p.tables e below (T118.setTop (mkF m 165 _ [(.int (3 : Int32))])) t
              refine XS.iconst P119.here P119.x rfl (hb hby at_165) ?_
              show Steps p.tables e below (T118.setTop (mkF m 166 _ [(.int (3 : Int32)), (.int (3 : Int32))])) t
              refine XS.icmpNo P119.here P119.x rfl (hb hby at_166) rfl (iiW_lt_f (by decide)) ?_
              show Steps p.tables e below (T118.setTop (mkF m 169 _ [])) t
              refine XS.iload P119.here P119.x rfl (hb hby at_169) rfl ?_
              show Steps p.tables e below (T118.setTop (mkF m 171 _ [(.int e2)])) t
              refine XS.i2l P119.here P119.x rfl (hb hby at_171) rfl ?_
              show Steps p.tables e below (T118.setTop (mkF m 172 _ [(.long e2.toInt64)])) t
              refine XS.goto P119.here P119.x rfl (pc0 := 172) (pc' := 178) rfl (hb hby at_172) (by decide) (by decide) ?_
              show Steps p.tables e below (T118.setTop (mkF m 178 _ [(.long e2.toInt64)])) t
              refine XS.lstore P119.here P119.x rfl (hb hby at_178) rfl (l' := #[.val (.int p0), .val (.int p1), .val (.int p2), .val (.int p3), .val (.int p4), .val (.int (1 : Int32)), .val (.int (3 : Int32)), .val (.int e0), .val (.int e1), .val (.int e2), .val (.int e3), .val (.ref b28), .val (.ref rr), .val (.long e0.toInt64), .second, .val (.long e1.toInt64), .second, .val (.long e2.toInt64), .second, .unset, .unset, .unset, .unset, .unset, .unset, .unset, .unset, .unset, .unset, .unset, .unset, .unset, .unset, .unset, .unset, .unset, .unset, .unset, .unset, .unset, .unset, .unset]) rfl ?_
              show Steps p.tables e below (T118.setTop (mkF m 180 _ [])) t
              refine XS.iload P119.here P119.x rfl (hb hby at_180) rfl ?_
              show Steps p.tables e below (T118.setTop (mkF m 182 _ [(.int (3 : Int32))])) t
              refine XS.iconst P119.here P119.x rfl (hb hby at_182) ?_
              show Steps p.tables e below (T118.setTop (mkF m 183 _ [(.int (4 : Int32)), (.int (3 : Int32))])) t
              refine XS.icmpYes P119.here P119.x rfl (pc0 := 183) (pc' := 192) rfl (hb hby at_183) rfl (iiW_lt_t (by decide)) (by decide) (by decide) ?_
              show Steps p.tables e below (T118.setTop (mkF m 192 _ [])) t
              refine pLdcJ P119 (tw28 hw) (hb hby at_192) rfl ?_
              show Steps p.tables e below (T118.setTop (mkF m 195 _ [(.long (9223372036854775807 : Int64))])) t
              refine XS.lstore P119.here P119.x rfl (hb hby at_195) rfl (l' := #[.val (.int p0), .val (.int p1), .val (.int p2), .val (.int p3), .val (.int p4), .val (.int (1 : Int32)), .val (.int (3 : Int32)), .val (.int e0), .val (.int e1), .val (.int e2), .val (.int e3), .val (.ref b28), .val (.ref rr), .val (.long e0.toInt64), .second, .val (.long e1.toInt64), .second, .val (.long e2.toInt64), .second, .val (.long (9223372036854775807 : Int64)), .second, .unset, .unset, .unset, .unset, .unset, .unset, .unset, .unset, .unset, .unset, .unset, .unset, .unset, .unset, .unset, .unset, .unset, .unset, .unset, .unset, .unset]) rfl ?_
              exact kk
            have f125 := (f122.keep K124)
            have fin := own_fin_1_3 e0 e1 e2 d01 d02 d12 K1 J1 gK1 gJ1 K2 J2 gK2 gJ2 K3 J3 gK3 gJ3 of hof
            exact tail _ _ _ rr _ _ (1 : Int32) (3 : Int32) 1 of e0.toInt64 e1.toInt64 e2.toInt64 (9223372036854775807 : Int64) P119 (by decide) (by decide) f125 F121 A120 (by decide) (fun _ => fin) (fun hh => absurd hh (by decide)) (fun hh => absurd hh (by decide)) (fun hh => absurd hh (by decide))
          · refine Done.stepL (pc' := 119) (st' := [(.int e3), (.double (FP.i2d e3)), (.ref b28)]) (fun t kk => ?_) ?_
            · show Steps p.tables e below (T105.setTop (mkF m 106 _ [])) t
              refine XS.iload P106.here P106.x rfl (hb hby at_106) rfl ?_
              show Steps p.tables e below (T105.setTop (mkF m 108 _ [(.int (4 : Int32))])) t
              refine XS.iconst P106.here P106.x rfl (hb hby at_108) ?_
              show Steps p.tables e below (T105.setTop (mkF m 109 _ [(.int (4 : Int32)), (.int (4 : Int32))])) t
              refine XS.icmpNo P106.here P106.x rfl (hb hby at_109) rfl (iiW_lt_f (by decide)) ?_
              show Steps p.tables e below (T105.setTop (mkF m 112 _ [])) t
              refine XS.aload P106.here P106.x rfl (hb hby at_112) rfl rfl ?_
              show Steps p.tables e below (T105.setTop (mkF m 114 _ [(.ref b28)])) t
              refine XS.iload P106.here P106.x rfl (hb hby at_114) rfl ?_
              show Steps p.tables e below (T105.setTop (mkF m 116 _ [(.int e3), (.ref b28)])) t
              refine XS.i2dS P106.here P106.x rfl (hb hby at_116) rfl rfl ?_
              show Steps p.tables e below (T105.setTop (mkF m 117 _ [(.double (FP.i2d e3)), (.ref b28)])) t
              refine XS.iload P106.here P106.x rfl (hb hby at_117) rfl ?_
              exact kk
            have f136 := (f115.keep K117)
            refine wCallV P106 (m_offB l Z a0 hw b28 b40 b41 (1 : Int32) 1 1 kf114 K3 J3 (1 : Int32) (FP.i2d e3) e3 e3.toInt h116 f136 F108 F109 F107 F110 A111 A112 (by first | assumption | exact Ne.symm (by assumption) | exact adr_ne (by omega)) (by first | assumption | exact Ne.symm (by assumption) | exact adr_ne (by omega)) q44 (by decide) rfl dK113 (i2d_int e3) (by decide) (by decide) (by decide)) (tw41 hw) (tw42 hw) (tw44 hw) (tw44 hw) (tw43 hw) (tw2 hw) (tw45 hw) (by decide) f136 (by rw [hml]; rfl) (lenOf pd_6 rfl) (argsL := [(.double (FP.i2d e3)), (.int e3)]) (rest := []) rfl rfl (W := 0) (Nat.le_of_eq rfl) (by decide) (by decide) (by decide) (by decide) (allS (Or.inr ge_b40) (allS (Or.inr ge_b41) all0)) (hb hby at_119) rfl (k' := 3) (n' := 36) rfl rfl ?_
            rintro T126 h137 _ P127 K138 ⟨rfl, kf135, F128, F129, F130, F131, A132, dK134, A133⟩
            have szh137 : h116.size ≤ h137.size := K138.1
            generalize gK4 : (own_of 1 false K3 J3 e3.toInt e3).1 = K4 at dK134
            generalize gJ4 : (own_of 1 false K3 J3 e3.toInt e3).2 = J4 at A133
            show Done _ _ _ _ _ _ _ _ _ _ _ _ _ _ _ T126 (mkF m 122 _ [])
            refine Done.stepL (pc' := 124) (st' := [(.ref b28)]) (fun t kk => ?_) ?_
            · show Steps p.tables e below (T126.setTop (mkF m 122 _ [])) t
              refine XS.aload P127.here P127.x rfl (hb hby at_122) rfl rfl ?_
              exact kk
            have f143 := (f136.keep K138)
            refine wCallV P127 (m_ra l Z a0 hw b28 b40 b41 (1 : Int32) 1 1 kf135 K4 J4 (1 : Int32) h137 f143 F129 F130 F128 F131 A132 A133 (by first | assumption | exact Ne.symm (by assumption) | exact adr_ne (by omega)) (by first | assumption | exact Ne.symm (by assumption) | exact adr_ne (by omega)) q44 (by decide) rfl dK134 (by decide) (by decide)) (tw21 hw) (tw22 hw) (tw24 hw) (tw24 hw) (tw23 hw) (tw2 hw) (tw25 hw) (by decide) f143 (by rw [hml]; rfl) (lenOf pd_5 rfl) (argsL := []) (rest := []) rfl rfl (W := 0) (Nat.le_of_eq rfl) (by decide) (by decide) (by decide) (by decide) (allS (Or.inr ge_b28) (allS (Or.inr ge_b40) (allS (Or.inr ge_b41) all0))) (hb hby at_124) rfl (k' := 4) (n' := 40) rfl rfl ?_
            rintro T139 h144 _ P140 K145 ⟨rr, of, rfl, ltr, F142, A141, hof⟩
            have szh144 : h137.size ≤ h144.size := K145.1
            show Done _ _ _ _ _ _ _ _ _ _ _ _ _ _ _ T139 (mkF m 127 _ [(.ref rr)])
            refine Done.step (T' := T139) (g' := (mkF m 197 #[.val (.int p0), .val (.int p1), .val (.int p2), .val (.int p3), .val (.int p4), .val (.int (1 : Int32)), .val (.int (4 : Int32)), .val (.int e0), .val (.int e1), .val (.int e2), .val (.int e3), .val (.ref b28), .val (.ref rr), .val (.long e0.toInt64), .second, .val (.long e1.toInt64), .second, .val (.long e2.toInt64), .second, .val (.long e3.toInt64), .second, .unset, .unset, .unset, .unset, .unset, .unset, .unset, .unset, .unset, .unset, .unset, .unset, .unset, .unset, .unset, .unset, .unset, .unset, .unset, .unset, .unset] [])) (fun t kk => ?_) ?_
            · show Steps p.tables e below (T139.setTop (mkF m 127 _ [(.ref rr)])) t
              refine XS.astore P140.here P140.x rfl (hb hby at_127) rfl rfl (l' := #[.val (.int p0), .val (.int p1), .val (.int p2), .val (.int p3), .val (.int p4), .val (.int (1 : Int32)), .val (.int (4 : Int32)), .val (.int e0), .val (.int e1), .val (.int e2), .val (.int e3), .val (.ref b28), .val (.ref rr), .unset, .unset, .unset, .unset, .unset, .unset, .unset, .unset, .unset, .unset, .unset, .unset, .unset, .unset, .unset, .unset, .unset, .unset, .unset, .unset, .unset, .unset, .unset, .unset, .unset, .unset, .unset, .unset, .unset]) rfl ?_
              show Steps p.tables e below (T139.setTop (mkF m 129 _ [])) t
              refine XS.iload P140.here P140.x rfl (hb hby at_129) rfl ?_
              show Steps p.tables e below (T139.setTop (mkF m 131 _ [(.int (4 : Int32))])) t
              refine XS.iconst P140.here P140.x rfl (hb hby at_131) ?_
              show Steps p.tables e below (T139.setTop (mkF m 132 _ [(.int (1 : Int32)), (.int (4 : Int32))])) t
              refine XS.icmpNo P140.here P140.x rfl (hb hby at_132) rfl (iiW_lt_f (by decide)) ?_
              show Steps p.tables e below (T139.setTop (mkF m 135 _ [])) t
              refine XS.iload P140.here P140.x rfl (hb hby at_135) rfl ?_
              show Steps p.tables e below (T139.setTop (mkF m 137 _ [(.int e0)])) t
              refine XS.i2l P140.here P140.x rfl (hb hby at_137) rfl ?_
              show Steps p.tables e below (T139.setTop (mkF m 138 _ [(.long e0.toInt64)])) t
              refine XS.goto P140.here P140.x rfl (pc0 := 138) (pc' := 144) rfl (hb hby at_138) (by decide) (by decide) ?_
              show Steps p.tables e below (T139.setTop (mkF m 144 _ [(.long e0.toInt64)])) t
              refine XS.lstore P140.here P140.x rfl (hb hby at_144) rfl (l' := #[.val (.int p0), .val (.int p1), .val (.int p2), .val (.int p3), .val (.int p4), .val (.int (1 : Int32)), .val (.int (4 : Int32)), .val (.int e0), .val (.int e1), .val (.int e2), .val (.int e3), .val (.ref b28), .val (.ref rr), .val (.long e0.toInt64), .second, .unset, .unset, .unset, .unset, .unset, .unset, .unset, .unset, .unset, .unset, .unset, .unset, .unset, .unset, .unset, .unset, .unset, .unset, .unset, .unset, .unset, .unset, .unset, .unset, .unset, .unset, .unset]) rfl ?_
              show Steps p.tables e below (T139.setTop (mkF m 146 _ [])) t
              refine XS.iload P140.here P140.x rfl (hb hby at_146) rfl ?_
              show Steps p.tables e below (T139.setTop (mkF m 148 _ [(.int (4 : Int32))])) t
              refine XS.iconst P140.here P140.x rfl (hb hby at_148) ?_
              show Steps p.tables e below (T139.setTop (mkF m 149 _ [(.int (2 : Int32)), (.int (4 : Int32))])) t
              refine XS.icmpNo P140.here P140.x rfl (hb hby at_149) rfl (iiW_lt_f (by decide)) ?_
              show Steps p.tables e below (T139.setTop (mkF m 152 _ [])) t
              refine XS.iload P140.here P140.x rfl (hb hby at_152) rfl ?_
              show Steps p.tables e below (T139.setTop (mkF m 154 _ [(.int e1)])) t
              refine XS.i2l P140.here P140.x rfl (hb hby at_154) rfl ?_
              show Steps p.tables e below (T139.setTop (mkF m 155 _ [(.long e1.toInt64)])) t
              refine XS.goto P140.here P140.x rfl (pc0 := 155) (pc' := 161) rfl (hb hby at_155) (by decide) (by decide) ?_
              show Steps p.tables e below (T139.setTop (mkF m 161 _ [(.long e1.toInt64)])) t
              refine XS.lstore P140.here P140.x rfl (hb hby at_161) rfl (l' := #[.val (.int p0), .val (.int p1), .val (.int p2), .val (.int p3), .val (.int p4), .val (.int (1 : Int32)), .val (.int (4 : Int32)), .val (.int e0), .val (.int e1), .val (.int e2), .val (.int e3), .val (.ref b28), .val (.ref rr), .val (.long e0.toInt64), .second, .val (.long e1.toInt64), .second, .unset, .unset, .unset, .unset, .unset, .unset, .unset, .unset, .unset, .unset, .unset, .unset, .unset, .unset, .unset, .unset, .unset, .unset, .unset, .unset, .unset, .unset, .unset, .unset, .unset]) rfl ?_
              show Steps p.tables e below (T139.setTop (mkF m 163 _ [])) t
              refine XS.iload P140.here P140.x rfl (hb hby at_163) rfl ?_
              show Steps p.tables e below (T139.setTop (mkF m 165 _ [(.int (4 : Int32))])) t
              refine XS.iconst P140.here P140.x rfl (hb hby at_165) ?_
              show Steps p.tables e below (T139.setTop (mkF m 166 _ [(.int (3 : Int32)), (.int (4 : Int32))])) t
              refine XS.icmpNo P140.here P140.x rfl (hb hby at_166) rfl (iiW_lt_f (by decide)) ?_
              show Steps p.tables e below (T139.setTop (mkF m 169 _ [])) t
              refine XS.iload P140.here P140.x rfl (hb hby at_169) rfl ?_
              show Steps p.tables e below (T139.setTop (mkF m 171 _ [(.int e2)])) t
              refine XS.i2l P140.here P140.x rfl (hb hby at_171) rfl ?_
              show Steps p.tables e below (T139.setTop (mkF m 172 _ [(.long e2.toInt64)])) t
              refine XS.goto P140.here P140.x rfl (pc0 := 172) (pc' := 178) rfl (hb hby at_172) (by decide) (by decide) ?_
              show Steps p.tables e below (T139.setTop (mkF m 178 _ [(.long e2.toInt64)])) t
              refine XS.lstore P140.here P140.x rfl (hb hby at_178) rfl (l' := #[.val (.int p0), .val (.int p1), .val (.int p2), .val (.int p3), .val (.int p4), .val (.int (1 : Int32)), .val (.int (4 : Int32)), .val (.int e0), .val (.int e1), .val (.int e2), .val (.int e3), .val (.ref b28), .val (.ref rr), .val (.long e0.toInt64), .second, .val (.long e1.toInt64), .second, .val (.long e2.toInt64), .second, .unset, .unset, .unset, .unset, .unset, .unset, .unset, .unset, .unset, .unset, .unset, .unset, .unset, .unset, .unset, .unset, .unset, .unset, .unset, .unset, .unset, .unset, .unset]) rfl ?_
              show Steps p.tables e below (T139.setTop (mkF m 180 _ [])) t
              refine XS.iload P140.here P140.x rfl (hb hby at_180) rfl ?_
              show Steps p.tables e below (T139.setTop (mkF m 182 _ [(.int (4 : Int32))])) t
              refine XS.iconst P140.here P140.x rfl (hb hby at_182) ?_
              show Steps p.tables e below (T139.setTop (mkF m 183 _ [(.int (4 : Int32)), (.int (4 : Int32))])) t
              refine XS.icmpNo P140.here P140.x rfl (hb hby at_183) rfl (iiW_lt_f (by decide)) ?_
              show Steps p.tables e below (T139.setTop (mkF m 186 _ [])) t
              refine XS.iload P140.here P140.x rfl (hb hby at_186) rfl ?_
              show Steps p.tables e below (T139.setTop (mkF m 188 _ [(.int e3)])) t
              refine XS.i2l P140.here P140.x rfl (hb hby at_188) rfl ?_
              show Steps p.tables e below (T139.setTop (mkF m 189 _ [(.long e3.toInt64)])) t
              refine XS.goto P140.here P140.x rfl (pc0 := 189) (pc' := 195) rfl (hb hby at_189) (by decide) (by decide) ?_
              show Steps p.tables e below (T139.setTop (mkF m 195 _ [(.long e3.toInt64)])) t
              refine XS.lstore P140.here P140.x rfl (hb hby at_195) rfl (l' := #[.val (.int p0), .val (.int p1), .val (.int p2), .val (.int p3), .val (.int p4), .val (.int (1 : Int32)), .val (.int (4 : Int32)), .val (.int e0), .val (.int e1), .val (.int e2), .val (.int e3), .val (.ref b28), .val (.ref rr), .val (.long e0.toInt64), .second, .val (.long e1.toInt64), .second, .val (.long e2.toInt64), .second, .val (.long e3.toInt64), .second, .unset, .unset, .unset, .unset, .unset, .unset, .unset, .unset, .unset, .unset, .unset, .unset, .unset, .unset, .unset, .unset, .unset, .unset, .unset, .unset, .unset]) rfl ?_
              exact kk
            have f146 := (f143.keep K145)
            have fin := own_fin_1_4 e0 e1 e2 e3 d01 d02 d03 d12 d13 d23 K1 J1 gK1 gJ1 K2 J2 gK2 gJ2 K3 J3 gK3 gJ3 K4 J4 gK4 gJ4 of hof
            exact tail _ _ _ rr _ _ (1 : Int32) (4 : Int32) 1 of e0.toInt64 e1.toInt64 e2.toInt64 e3.toInt64 P140 (by decide) (by decide) f146 F142 A141 (by decide) (fun _ => fin) (fun hh => absurd hh (by decide)) (fun hh => absurd hh (by decide)) (fun hh => absurd hh (by decide))
  · show Done _ _ _ _ _ _ _ _ _ _ _ _ _ _ _ T0 (mkF m 47 _ [])
    refine wNew P0 (tw0 hw) (tw1 hw) (tw2 hw) (hb hby at_47) rfl (by decide) (by decide) (k' := 1) (n' := 4) rfl rfl (fun T147 h149 b150 g151 lt152 P148 E153 X154 D155 => ?_)
    have ge_b150 : h0.size ≤ b150 := by have := P0.ge; omega
    have F156 : Fld Z h149 b150 "com/example/urnwise/urnwise/sampler/SmallestKeys" "capacity" "I" (.int (0 : Int32)) := D155 (Or.inr (tw10 hw)) (ty := .int) (by decide)
    have F157 : Fld Z h149 b150 "com/example/urnwise/urnwise/sampler/SmallestKeys" "keys" "[D" .null := D155 (Or.inl (tw17 hw)) (ty := (.array .double)) (by decide)
    have F158 : Fld Z h149 b150 "com/example/urnwise/urnwise/sampler/SmallestKeys" "indices" "[I" .null := D155 (Or.inl (tw20 hw)) (ty := (.array .int)) (by decide)
    have F159 : Fld Z h149 b150 "com/example/urnwise/urnwise/sampler/SmallestKeys" "size" "I" (.int (0 : Int32)) := D155 (Or.inl (tw27 hw)) (ty := .int) (by decide)
    show Done _ _ _ _ _ _ _ _ _ _ _ _ _ _ _ T147 (mkF m 50 _ [(.ref b150)])
    refine Done.stepL (pc' := 53) (st' := [(.int (2 : Int32)), (.ref b150), (.ref b150)]) (fun t kk => ?_) ?_
    · show Steps p.tables e below (T147.setTop (mkF m 50 _ [(.ref b150)])) t
      refine XS.dup P148.here P148.x rfl (hb hby at_50) rfl rfl ?_
      show Steps p.tables e below (T147.setTop (mkF m 51 _ [(.ref b150), (.ref b150)])) t
      refine XS.iload P148.here P148.x rfl (hb hby at_51) rfl ?_
      exact kk
    refine wCallI P148 (m_hpInit l Z a0 hw b150 (2 : Int32) 2 h149 X154 F156 F157 F158 (by decide) (by decide) F159) rfl (tw3 hw) (tw4 hw) (tw2 hw) (tw5 hw) (by decide) (a := b150) (by rw [hml]; rfl) (lenOf pd_4 rfl) (argsL := [(.int (2 : Int32))]) (rest := [(.ref b150)]) rfl rfl (W := 1) (Nat.le_of_eq rfl) (by decide) (by decide) (by decide) (by decide) (allS (Or.inr ge_b150) all0) (hb hby at_53) rfl (k' := 3) (n' := 36) rfl rfl ?_
    rintro T160 h175 _ P161 K176 ⟨rfl, b162, b163, q164, q165, q166, q167, q168, F169, F170, F171, F172, A173, A174⟩
    have szh175 : h149.size ≤ h175.size := K176.1
    have ge_b162 : h0.size ≤ b162 := by have := q164; have := P148.ge; omega
    have ge_b163 : h0.size ≤ b163 := by have := q165; have := P148.ge; omega
    have dK0 : ∀ i, i < 2 → DInt ((fun _ => (0 : Int)) i) ((fun _ => (0 : UInt64)) i) := fun i _ => dint_c0
    show Done _ _ _ _ _ _ _ _ _ _ _ _ _ _ _ T160 (mkF m 56 _ [(.ref b150)])
    refine Done.step (T' := T160) (g' := (mkF m 58 #[.val (.int p0), .val (.int p1), .val (.int p2), .val (.int p3), .val (.int p4), .val (.int (2 : Int32)), .val (.int nv), .val (.int e0), .val (.int e1), .val (.int e2), .val (.int e3), .val (.ref b150), .unset, .unset, .unset, .unset, .unset, .unset, .unset, .unset, .unset, .unset, .unset, .unset, .unset, .unset, .unset, .unset, .unset, .unset, .unset, .unset, .unset, .unset, .unset, .unset, .unset, .unset, .unset, .unset, .unset, .unset] [])) (fun t kk => ?_) ?_
    · show Steps p.tables e below (T160.setTop (mkF m 56 _ [(.ref b150)])) t
      refine XS.astore P161.here P161.x rfl (hb hby at_56) rfl rfl (l' := #[.val (.int p0), .val (.int p1), .val (.int p2), .val (.int p3), .val (.int p4), .val (.int (2 : Int32)), .val (.int nv), .val (.int e0), .val (.int e1), .val (.int e2), .val (.int e3), .val (.ref b150), .unset, .unset, .unset, .unset, .unset, .unset, .unset, .unset, .unset, .unset, .unset, .unset, .unset, .unset, .unset, .unset, .unset, .unset, .unset, .unset, .unset, .unset, .unset, .unset, .unset, .unset, .unset, .unset, .unset, .unset]) rfl ?_
      exact kk
    rcases hnv with rfl | hnv
    · refine Done.stepL (pc' := 124) (st' := [(.ref b150)]) (fun t kk => ?_) ?_
      · show Steps p.tables e below (T160.setTop (mkF m 58 _ [])) t
        refine XS.iload P161.here P161.x rfl (hb hby at_58) rfl ?_
        show Steps p.tables e below (T160.setTop (mkF m 60 _ [(.int (0 : Int32))])) t
        refine XS.iconst P161.here P161.x rfl (hb hby at_60) ?_
        show Steps p.tables e below (T160.setTop (mkF m 61 _ [(.int (1 : Int32)), (.int (0 : Int32))])) t
        refine XS.icmpYes P161.here P161.x rfl (pc0 := 61) (pc' := 74) rfl (hb hby at_61) rfl (iiW_lt_t (by decide)) (by decide) (by decide) ?_
        show Steps p.tables e below (T160.setTop (mkF m 74 _ [])) t
        refine XS.iload P161.here P161.x rfl (hb hby at_74) rfl ?_
        show Steps p.tables e below (T160.setTop (mkF m 76 _ [(.int (0 : Int32))])) t
        refine XS.iconst P161.here P161.x rfl (hb hby at_76) ?_
        show Steps p.tables e below (T160.setTop (mkF m 77 _ [(.int (2 : Int32)), (.int (0 : Int32))])) t
        refine XS.icmpYes P161.here P161.x rfl (pc0 := 77) (pc' := 90) rfl (hb hby at_77) rfl (iiW_lt_t (by decide)) (by decide) (by decide) ?_
        show Steps p.tables e below (T160.setTop (mkF m 90 _ [])) t
        refine XS.iload P161.here P161.x rfl (hb hby at_90) rfl ?_
        show Steps p.tables e below (T160.setTop (mkF m 92 _ [(.int (0 : Int32))])) t
        refine XS.iconst P161.here P161.x rfl (hb hby at_92) ?_
        show Steps p.tables e below (T160.setTop (mkF m 93 _ [(.int (3 : Int32)), (.int (0 : Int32))])) t
        refine XS.icmpYes P161.here P161.x rfl (pc0 := 93) (pc' := 106) rfl (hb hby at_93) rfl (iiW_lt_t (by decide)) (by decide) (by decide) ?_
        show Steps p.tables e below (T160.setTop (mkF m 106 _ [])) t
        refine XS.iload P161.here P161.x rfl (hb hby at_106) rfl ?_
        show Steps p.tables e below (T160.setTop (mkF m 108 _ [(.int (0 : Int32))])) t
        refine XS.iconst P161.here P161.x rfl (hb hby at_108) ?_
        show Steps p.tables e below (T160.setTop (mkF m 109 _ [(.int (4 : Int32)), (.int (0 : Int32))])) t
        refine XS.icmpYes P161.here P161.x rfl (pc0 := 109) (pc' := 122) rfl (hb hby at_109) rfl (iiW_lt_t (by decide)) (by decide) (by decide) ?_
        show Steps p.tables e below (T160.setTop (mkF m 122 _ [])) t
        refine XS.aload P161.here P161.x rfl (hb hby at_122) rfl rfl ?_
        exact kk
      have f181 := (X154.keep K176)
      refine wCallV P161 (m_ra l Z a0 hw b150 b162 b163 (0 : Int32) 2 0 (fun _ => (0 : UInt64)) (fun _ => (0 : Int)) (fun _ => (0 : Int32)) (2 : Int32) h175 f181 F170 F171 F169 F172 A173 A174 (by first | assumption | exact Ne.symm (by assumption) | exact adr_ne (by omega)) (by first | assumption | exact Ne.symm (by assumption) | exact adr_ne (by omega)) q166 (by decide) rfl dK0 (by decide) (by decide)) (tw21 hw) (tw22 hw) (tw24 hw) (tw24 hw) (tw23 hw) (tw2 hw) (tw25 hw) (by decide) f181 (by rw [hml]; rfl) (lenOf pd_5 rfl) (argsL := []) (rest := []) rfl rfl (W := 0) (Nat.le_of_eq rfl) (by decide) (by decide) (by decide) (by decide) (allS (Or.inr ge_b150) (allS (Or.inr ge_b162) (allS (Or.inr ge_b163) all0))) (hb hby at_124) rfl (k' := 4) (n' := 40) rfl rfl ?_
      rintro T177 h182 _ P178 K183 ⟨rr, of, rfl, ltr, F180, A179, hof⟩
      have szh182 : h175.size ≤ h182.size := K183.1
      show Done _ _ _ _ _ _ _ _ _ _ _ _ _ _ _ T177 (mkF m 127 _ [(.ref rr)])
      refine Done.step (T' := T177) (g' := (mkF m 197 #[.val (.int p0), .val (.int p1), .val (.int p2), .val (.int p3), .val (.int p4), .val (.int (2 : Int32)), .val (.int (0 : Int32)), .val (.int e0), .val (.int e1), .val (.int e2), .val (.int e3), .val (.ref b150), .val (.ref rr), .val (.long (9223372036854775807 : Int64)), .second, .val (.long (9223372036854775807 : Int64)), .second, .val (.long (9223372036854775807 : Int64)), .second, .val (.long (9223372036854775807 : Int64)), .second, .unset, .unset, .unset, .unset, .unset, .unset, .unset, .unset, .unset, .unset, .unset, .unset, .unset, .unset, .unset, .unset, .unset, .unset, .unset, .unset, .unset] [])) (fun t kk => ?_) ?_
      · show Steps p.tables e below (T177.setTop (mkF m 127 _ [(.ref rr)])) t
        refine XS.astore P178.here P178.x rfl (hb hby at_127) rfl rfl (l' := #[.val (.int p0), .val (.int p1), .val (.int p2), .val (.int p3), .val (.int p4), .val (.int (2 : Int32)), .val (.int (0 : Int32)), .val (.int e0), .val (.int e1), .val (.int e2), .val (.int e3), .val (.ref b150), .val (.ref rr), .unset, .unset, .unset, .unset, .unset, .unset, .unset, .unset, .unset, .unset, .unset, .unset, .unset, .unset, .unset, .unset, .unset, .unset, .unset, .unset, .unset, .unset, .unset, .unset, .unset, .unset, .unset, .unset, .unset]) rfl ?_
        show Steps p.tables e below (T177.setTop (mkF m 129 _ [])) t
        refine XS.iload P178.here P178.x rfl (hb hby at_129) rfl ?_
        show Steps p.tables e below (T177.setTop (mkF m 131 _ [(.int (0 : Int32))])) t
        refine XS.iconst P178.here P178.x rfl (hb hby at_131) ?_
        show Steps p.tables e below (T177.setTop (mkF m 132 _ [(.int (1 : Int32)), (.int (0 : Int32))])) t
        refine XS.icmpYes P178.here P178.x rfl (pc0 := 132) (pc' := 141) rfl (hb hby at_132) rfl (iiW_lt_t (by decide)) (by decide) (by decide) ?_
        show Steps p.tables e below (T177.setTop (mkF m 141 _ [])) t
        refine pLdcJ P178 (tw28 hw) (hb hby at_141) rfl ?_
        show Steps p.tables e below (T177.setTop (mkF m 144 _ [(.long (9223372036854775807 : Int64))])) t
        refine XS.lstore P178.here P178.x rfl (hb hby at_144) rfl (l' := #[.val (.int p0), .val (.int p1), .val (.int p2), .val (.int p3), .val (.int p4), .val (.int (2 : Int32)), .val (.int (0 : Int32)), .val (.int e0), .val (.int e1), .val (.int e2), .val (.int e3), .val (.ref b150), .val (.ref rr), .val (.long (9223372036854775807 : Int64)), .second, .unset, .unset, .unset, .unset, .unset, .unset, .unset, .unset, .unset, .unset, .unset, .unset, .unset, .unset, .unset, .unset, .unset, .unset, .unset, .unset, .unset, .unset, .unset, .unset, .unset, .unset, .unset]) rfl ?_
        show Steps p.tables e below (T177.setTop (mkF m 146 _ [])) t
        refine XS.iload P178.here P178.x rfl (hb hby at_146) rfl ?_
        show Steps p.tables e below (T177.setTop (mkF m 148 _ [(.int (0 : Int32))])) t
        refine XS.iconst P178.here P178.x rfl (hb hby at_148) ?_
        show Steps p.tables e below (T177.setTop (mkF m 149 _ [(.int (2 : Int32)), (.int (0 : Int32))])) t
        refine XS.icmpYes P178.here P178.x rfl (pc0 := 149) (pc' := 158) rfl (hb hby at_149) rfl (iiW_lt_t (by decide)) (by decide) (by decide) ?_
        show Steps p.tables e below (T177.setTop (mkF m 158 _ [])) t
        refine pLdcJ P178 (tw28 hw) (hb hby at_158) rfl ?_
        show Steps p.tables e below (T177.setTop (mkF m 161 _ [(.long (9223372036854775807 : Int64))])) t
        refine XS.lstore P178.here P178.x rfl (hb hby at_161) rfl (l' := #[.val (.int p0), .val (.int p1), .val (.int p2), .val (.int p3), .val (.int p4), .val (.int (2 : Int32)), .val (.int (0 : Int32)), .val (.int e0), .val (.int e1), .val (.int e2), .val (.int e3), .val (.ref b150), .val (.ref rr), .val (.long (9223372036854775807 : Int64)), .second, .val (.long (9223372036854775807 : Int64)), .second, .unset, .unset, .unset, .unset, .unset, .unset, .unset, .unset, .unset, .unset, .unset, .unset, .unset, .unset, .unset, .unset, .unset, .unset, .unset, .unset, .unset, .unset, .unset, .unset, .unset]) rfl ?_
        show Steps p.tables e below (T177.setTop (mkF m 163 _ [])) t
        refine XS.iload P178.here P178.x rfl (hb hby at_163) rfl ?_
        show Steps p.tables e below (T177.setTop (mkF m 165 _ [(.int (0 : Int32))])) t
        refine XS.iconst P178.here P178.x rfl (hb hby at_165) ?_
        show Steps p.tables e below (T177.setTop (mkF m 166 _ [(.int (3 : Int32)), (.int (0 : Int32))])) t
        refine XS.icmpYes P178.here P178.x rfl (pc0 := 166) (pc' := 175) rfl (hb hby at_166) rfl (iiW_lt_t (by decide)) (by decide) (by decide) ?_
        show Steps p.tables e below (T177.setTop (mkF m 175 _ [])) t
        refine pLdcJ P178 (tw28 hw) (hb hby at_175) rfl ?_
        show Steps p.tables e below (T177.setTop (mkF m 178 _ [(.long (9223372036854775807 : Int64))])) t
        refine XS.lstore P178.here P178.x rfl (hb hby at_178) rfl (l' := #[.val (.int p0), .val (.int p1), .val (.int p2), .val (.int p3), .val (.int p4), .val (.int (2 : Int32)), .val (.int (0 : Int32)), .val (.int e0), .val (.int e1), .val (.int e2), .val (.int e3), .val (.ref b150), .val (.ref rr), .val (.long (9223372036854775807 : Int64)), .second, .val (.long (9223372036854775807 : Int64)), .second, .val (.long (9223372036854775807 : Int64)), .second, .unset, .unset, .unset, .unset, .unset, .unset, .unset, .unset, .unset, .unset, .unset, .unset, .unset, .unset, .unset, .unset, .unset, .unset, .unset, .unset, .unset, .unset, .unset]) rfl ?_
        show Steps p.tables e below (T177.setTop (mkF m 180 _ [])) t
        refine XS.iload P178.here P178.x rfl (hb hby at_180) rfl ?_
        show Steps p.tables e below (T177.setTop (mkF m 182 _ [(.int (0 : Int32))])) t
        refine XS.iconst P178.here P178.x rfl (hb hby at_182) ?_
        show Steps p.tables e below (T177.setTop (mkF m 183 _ [(.int (4 : Int32)), (.int (0 : Int32))])) t
        refine XS.icmpYes P178.here P178.x rfl (pc0 := 183) (pc' := 192) rfl (hb hby at_183) rfl (iiW_lt_t (by decide)) (by decide) (by decide) ?_
        show Steps p.tables e below (T177.setTop (mkF m 192 _ [])) t
        refine pLdcJ P178 (tw28 hw) (hb hby at_192) rfl ?_
        show Steps p.tables e below (T177.setTop (mkF m 195 _ [(.long (9223372036854775807 : Int64))])) t
        refine XS.lstore P178.here P178.x rfl (hb hby at_195) rfl (l' := #[.val (.int p0), .val (.int p1), .val (.int p2), .val (.int p3), .val (.int p4), .val (.int (2 : Int32)), .val (.int (0 : Int32)), .val (.int e0), .val (.int e1), .val (.int e2), .val (.int e3), .val (.ref b150), .val (.ref rr), .val (.long (9223372036854775807 : Int64)), .second, .val (.long (9223372036854775807 : Int64)), .second, .val (.long (9223372036854775807 : Int64)), .second, .val (.long (9223372036854775807 : Int64)), .second, .unset, .unset, .unset, .unset, .unset, .unset, .unset, .unset, .unset, .unset, .unset, .unset, .unset, .unset, .unset, .unset, .unset, .unset, .unset, .unset, .unset]) rfl ?_
        exact kk
      have f184 := (f181.keep K183)
      exact tail _ _ _ rr _ _ (2 : Int32) (0 : Int32) 0 of (9223372036854775807 : Int64) (9223372036854775807 : Int64) (9223372036854775807 : Int64) (9223372036854775807 : Int64) P178 (by decide) (by decide) f184 F180 A179 (by decide) (fun hh => absurd hh (by decide)) (fun hh => absurd hh (by decide)) (fun hh => absurd hh (by decide)) (fun hh => absurd hh (by decide))
    · have nlt0 : ¬ (nv < (1 : Int32)) := by rcases hnv with rfl | rfl | rfl | rfl <;> decide
      refine Done.stepL (pc' := 71) (st' := [(.int e0), (.double (FP.i2d e0)), (.ref b150)]) (fun t kk => ?_) ?_
      · show Steps p.tables e below (T160.setTop (mkF m 58 _ [])) t
        refine XS.iload P161.here P161.x rfl (hb hby at_58) rfl ?_
        show Steps p.tables e below (T160.setTop (mkF m 60 _ [(.int nv)])) t
        refine XS.iconst P161.here P161.x rfl (hb hby at_60) ?_
        show Steps p.tables e below (T160.setTop (mkF m 61 _ [(.int (1 : Int32)), (.int nv)])) t
        refine XS.icmpNo P161.here P161.x rfl (hb hby at_61) rfl (iiW_lt_f nlt0) ?_
        show Steps p.tables e below (T160.setTop (mkF m 64 _ [])) t
        refine XS.aload P161.here P161.x rfl (hb hby at_64) rfl rfl ?_
        show Steps p.tables e below (T160.setTop (mkF m 66 _ [(.ref b150)])) t
        refine XS.iload P161.here P161.x rfl (hb hby at_66) rfl ?_
        show Steps p.tables e below (T160.setTop (mkF m 68 _ [(.int e0), (.ref b150)])) t
        refine XS.i2dS P161.here P161.x rfl (hb hby at_68) rfl rfl ?_
        show Steps p.tables e below (T160.setTop (mkF m 69 _ [(.double (FP.i2d e0)), (.ref b150)])) t
        refine XS.iload P161.here P161.x rfl (hb hby at_69) rfl ?_
        exact kk
      have f195 := (X154.keep K176)
      refine wCallV P161 (m_offA l Z a0 hw b150 b162 b163 (0 : Int32) 2 0 (fun _ => (0 : UInt64)) (fun _ => (0 : Int)) (fun _ => (0 : Int32)) (2 : Int32) (FP.i2d e0) e0 e0.toInt (1 : Int32) h175 f195 F170 F171 F169 F172 A173 A174 (by first | assumption | exact Ne.symm (by assumption) | exact adr_ne (by omega)) (by first | assumption | exact Ne.symm (by assumption) | exact adr_ne (by omega)) q166 (by decide) rfl dK0 (i2d_int e0) (by decide) (by decide) (by decide)) (tw41 hw) (tw42 hw) (tw44 hw) (tw44 hw) (tw43 hw) (tw2 hw) (tw45 hw) (by decide) f195 (by rw [hml]; rfl) (lenOf pd_6 rfl) (argsL := [(.double (FP.i2d e0)), (.int e0)]) (rest := []) rfl rfl (W := 0) (Nat.le_of_eq rfl) (by decide) (by decide) (by decide) (by decide) (allS (Or.inr ge_b150) (allS (Or.inr ge_b162) (allS (Or.inr ge_b163) all0))) (hb hby at_71) rfl (k' := 3) (n' := 36) rfl rfl ?_
      rintro T185 h196 _ P186 K197 ⟨rfl, kf194, F187, F188, F189, F190, A191, dK193, A192⟩
      have szh196 : h175.size ≤ h196.size := K197.1
      generalize gK1 : (own_of 0 true (fun _ => (0 : Int)) (fun _ => (0 : Int32)) e0.toInt e0).1 = K1 at dK193
      generalize gJ1 : (own_of 0 true (fun _ => (0 : Int)) (fun _ => (0 : Int32)) e0.toInt e0).2 = J1 at A192
      show Done _ _ _ _ _ _ _ _ _ _ _ _ _ _ _ T185 (mkF m 74 _ [])
      rcases hnv with rfl | hnv
      · refine Done.stepL (pc' := 124) (st' := [(.ref b150)]) (fun t kk => ?_) ?_
        · show Steps p.tables e below (T185.setTop (mkF m 74 _ [])) t
          refine XS.iload P186.here P186.x rfl (hb hby at_74) rfl ?_
          show Steps p.tables e below (T185.setTop (mkF m 76 _ [(.int (1 : Int32))])) t
          refine XS.iconst P186.here P186.x rfl (hb hby at_76) ?_
          show Steps p.tables e below (T185.setTop (mkF m 77 _ [(.int (2 : Int32)), (.int (1 : Int32))])) t
          refine XS.icmpYes P186.here P186.x rfl (pc0 := 77) (pc' := 90) rfl (hb hby at_77) rfl (iiW_lt_t (by decide)) (by decide) (by decide) ?_
          show Steps p.tables e below (T185.setTop (mkF m 90 _ [])) t
          refine XS.iload P186.here P186.x rfl (hb hby at_90) rfl ?_
          show Steps p.tables e below (T185.setTop (mkF m 92 _ [(.int (1 : Int32))])) t
          refine XS.iconst P186.here P186.x rfl (hb hby at_92) ?_
          show Steps p.tables e below (T185.setTop (mkF m 93 _ [(.int (3 : Int32)), (.int (1 : Int32))])) t
          refine XS.icmpYes P186.here P186.x rfl (pc0 := 93) (pc' := 106) rfl (hb hby at_93) rfl (iiW_lt_t (by decide)) (by decide) (by decide) ?_
          show Steps p.tables e below (T185.setTop (mkF m 106 _ [])) t
          refine XS.iload P186.here P186.x rfl (hb hby at_106) rfl ?_
          show Steps p.tables e below (T185.setTop (mkF m 108 _ [(.int (1 : Int32))])) t
          refine XS.iconst P186.here P186.x rfl (hb hby at_108) ?_
          show Steps p.tables e below (T185.setTop (mkF m 109 _ [(.int (4 : Int32)), (.int (1 : Int32))])) t
          refine XS.icmpYes P186.here P186.x rfl (pc0 := 109) (pc' := 122) rfl (hb hby at_109) rfl (iiW_lt_t (by decide)) (by decide) (by decide) ?_
          show Steps p.tables e below (T185.setTop (mkF m 122 _ [])) t
          refine XS.aload P186.here P186.x rfl (hb hby at_122) rfl rfl ?_
          exact kk
        have f202 := (f195.keep K197)
        refine wCallV P186 (m_ra l Z a0 hw b150 b162 b163 (1 : Int32) 2 1 kf194 K1 J1 (2 : Int32) h196 f202 F188 F189 F187 F190 A191 A192 (by first | assumption | exact Ne.symm (by assumption) | exact adr_ne (by omega)) (by first | assumption | exact Ne.symm (by assumption) | exact adr_ne (by omega)) q166 (by decide) rfl dK193 (by decide) (by decide)) (tw21 hw) (tw22 hw) (tw24 hw) (tw24 hw) (tw23 hw) (tw2 hw) (tw25 hw) (by decide) f202 (by rw [hml]; rfl) (lenOf pd_5 rfl) (argsL := []) (rest := []) rfl rfl (W := 0) (Nat.le_of_eq rfl) (by decide) (by decide) (by decide) (by decide) (allS (Or.inr ge_b150) (allS (Or.inr ge_b162) (allS (Or.inr ge_b163) all0))) (hb hby at_124) rfl (k' := 4) (n' := 40) rfl rfl ?_
        rintro T198 h203 _ P199 K204 ⟨rr, of, rfl, ltr, F201, A200, hof⟩
        have szh203 : h196.size ≤ h203.size := K204.1
        show Done _ _ _ _ _ _ _ _ _ _ _ _ _ _ _ T198 (mkF m 127 _ [(.ref rr)])
        refine Done.step (T' := T198) (g' := (mkF m 197 #[.val (.int p0), .val (.int p1), .val (.int p2), .val (.int p3), .val (.int p4), .val (.int (2 : Int32)), .val (.int (1 : Int32)), .val (.int e0), .val (.int e1), .val (.int e2), .val (.int e3), .val (.ref b150), .val (.ref rr), .val (.long e0.toInt64), .second, .val (.long (9223372036854775807 : Int64)), .second, .val (.long (9223372036854775807 : Int64)), .second, .val (.long (9223372036854775807 : Int64)), .second, .unset, .unset, .unset, .unset, .unset, .unset, .unset, .unset, .unset, .unset, .unset, .unset, .unset, .unset, .unset, .unset, .unset, .unset, .unset, .unset, .unset] [])) (fun t kk => ?_) ?_
        · show Steps p.tables e below (T198.setTop (mkF m 127 _ [(.ref rr)])) t
          refine XS.astore P199.here P199.x rfl (hb hby at_127) rfl rfl (l' := #[.val (.int p0), .val (.int p1), .val (.int p2), .val (.int p3), .val (.int p4), .val (.int (2 : Int32)), .val (.int (1 : Int32)), .val (.int e0), .val (.int e1), .val (.int e2), .val (.int e3), .val (.ref b150), .val (.ref rr), .unset, .unset, .unset, .unset, .unset, .unset, .unset, .unset, .unset, .unset, .unset, .unset, .unset, .unset, .unset, .unset, .unset, .unset, .unset, .unset, .unset, .unset, .unset, .unset, .unset, .unset, .unset, .unset, .unset]) rfl ?_
          show Steps p.tables e below (T198.setTop (mkF m 129 _ [])) t
          refine XS.iload P199.here P199.x rfl (hb hby at_129) rfl ?_
          show Steps p.tables e below (T198.setTop (mkF m 131 _ [(.int (1 : Int32))])) t
          refine XS.iconst P199.here P199.x rfl (hb hby at_131) ?_
          show Steps p.tables e below (T198.setTop (mkF m 132 _ [(.int (1 : Int32)), (.int (1 : Int32))])) t
          refine XS.icmpNo P199.here P199.x rfl (hb hby at_132) rfl (iiW_lt_f (by decide)) ?_
          show Steps p.tables e below (T198.setTop (mkF m 135 _ [])) t
          refine XS.iload P199.here P199.x rfl (hb hby at_135) rfl ?_
          show Steps p.tables e below (T198.setTop (mkF m 137 _ [(.int e0)])) t
          refine XS.i2l P199.here P199.x rfl (hb hby at_137) rfl ?_
          show Steps p.tables e below (T198.setTop (mkF m 138 _ [(.long e0.toInt64)])) t
          refine XS.goto P199.here P199.x rfl (pc0 := 138) (pc' := 144) rfl (hb hby at_138) (by decide) (by decide) ?_
          show Steps p.tables e below (T198.setTop (mkF m 144 _ [(.long e0.toInt64)])) t
          refine XS.lstore P199.here P199.x rfl (hb hby at_144) rfl (l' := #[.val (.int p0), .val (.int p1), .val (.int p2), .val (.int p3), .val (.int p4), .val (.int (2 : Int32)), .val (.int (1 : Int32)), .val (.int e0), .val (.int e1), .val (.int e2), .val (.int e3), .val (.ref b150), .val (.ref rr), .val (.long e0.toInt64), .second, .unset, .unset, .unset, .unset, .unset, .unset, .unset, .unset, .unset, .unset, .unset, .unset, .unset, .unset, .unset, .unset, .unset, .unset, .unset, .unset, .unset, .unset, .unset, .unset, .unset, .unset, .unset]) rfl ?_
          show Steps p.tables e below (T198.setTop (mkF m 146 _ [])) t
          refine XS.iload P199.here P199.x rfl (hb hby at_146) rfl ?_
          show Steps p.tables e below (T198.setTop (mkF m 148 _ [(.int (1 : Int32))])) t
          refine XS.iconst P199.here P199.x rfl (hb hby at_148) ?_
          show Steps p.tables e below (T198.setTop (mkF m 149 _ [(.int (2 : Int32)), (.int (1 : Int32))])) t
          refine XS.icmpYes P199.here P199.x rfl (pc0 := 149) (pc' := 158) rfl (hb hby at_149) rfl (iiW_lt_t (by decide)) (by decide) (by decide) ?_
          show Steps p.tables e below (T198.setTop (mkF m 158 _ [])) t
          refine pLdcJ P199 (tw28 hw) (hb hby at_158) rfl ?_
          show Steps p.tables e below (T198.setTop (mkF m 161 _ [(.long (9223372036854775807 : Int64))])) t
          refine XS.lstore P199.here P199.x rfl (hb hby at_161) rfl (l' := #[.val (.int p0), .val (.int p1), .val (.int p2), .val (.int p3), .val (.int p4), .val (.int (2 : Int32)), .val (.int (1 : Int32)), .val (.int e0), .val (.int e1), .val (.int e2), .val (.int e3), .val (.ref b150), .val (.ref rr), .val (.long e0.toInt64), .second, .val (.long (9223372036854775807 : Int64)), .second, .unset, .unset, .unset, .unset, .unset, .unset, .unset, .unset, .unset, .unset, .unset, .unset, .unset, .unset, .unset, .unset, .unset, .unset, .unset, .unset, .unset, .unset, .unset, .unset, .unset]) rfl ?_
          show Steps p.tables e below (T198.setTop (mkF m 163 _ [])) t
          refine XS.iload P199.here P199.x rfl (hb hby at_163) rfl ?_
          show Steps p.tables e below (T198.setTop (mkF m 165 _ [(.int (1 : Int32))])) t
          refine XS.iconst P199.here P199.x rfl (hb hby at_165) ?_
          show Steps p.tables e below (T198.setTop (mkF m 166 _ [(.int (3 : Int32)), (.int (1 : Int32))])) t
          refine XS.icmpYes P199.here P199.x rfl (pc0 := 166) (pc' := 175) rfl (hb hby at_166) rfl (iiW_lt_t (by decide)) (by decide) (by decide) ?_
          show Steps p.tables e below (T198.setTop (mkF m 175 _ [])) t
          refine pLdcJ P199 (tw28 hw) (hb hby at_175) rfl ?_
          show Steps p.tables e below (T198.setTop (mkF m 178 _ [(.long (9223372036854775807 : Int64))])) t
          refine XS.lstore P199.here P199.x rfl (hb hby at_178) rfl (l' := #[.val (.int p0), .val (.int p1), .val (.int p2), .val (.int p3), .val (.int p4), .val (.int (2 : Int32)), .val (.int (1 : Int32)), .val (.int e0), .val (.int e1), .val (.int e2), .val (.int e3), .val (.ref b150), .val (.ref rr), .val (.long e0.toInt64), .second, .val (.long (9223372036854775807 : Int64)), .second, .val (.long (9223372036854775807 : Int64)), .second, .unset, .unset, .unset, .unset, .unset, .unset, .unset, .unset, .unset, .unset, .unset, .unset, .unset, .unset, .unset, .unset, .unset, .unset, .unset, .unset, .unset, .unset, .unset]) rfl ?_
          show Steps p.tables e below (T198.setTop (mkF m 180 _ [])) t
          refine XS.iload P199.here P199.x rfl (hb hby at_180) rfl ?_
          show Steps p.tables e below (T198.setTop (mkF m 182 _ [(.int (1 : Int32))])) t
          refine XS.iconst P199.here P199.x rfl (hb hby at_182) ?_
          show Steps p.tables e below (T198.setTop (mkF m 183 _ [(.int (4 : Int32)), (.int (1 : Int32))])) t
          refine XS.icmpYes P199.here P199.x rfl (pc0 := 183) (pc' := 192) rfl (hb hby at_183) rfl (iiW_lt_t (by decide)) (by decide) (by decide) ?_
          show Steps p.tables e below (T198.setTop (mkF m 192 _ [])) t
          refine pLdcJ P199 (tw28 hw) (hb hby at_192) rfl ?_
          show Steps p.tables e below (T198.setTop (mkF m 195 _ [(.long (9223372036854775807 : Int64))])) t
          refine XS.lstore P199.here P199.x rfl (hb hby at_195) rfl (l' := #[.val (.int p0), .val (.int p1), .val (.int p2), .val (.int p3), .val (.int p4), .val (.int (2 : Int32)), .val (.int (1 : Int32)), .val (.int e0), .val (.int e1), .val (.int e2), .val (.int e3), .val (.ref b150), .val (.ref rr), .val (.long e0.toInt64), .second, .val (.long (9223372036854775807 : Int64)), .second, .val (.long (9223372036854775807 : Int64)), .second, .val (.long (9223372036854775807 : Int64)), .second, .unset, .unset, .unset, .unset, .unset, .unset, .unset, .unset, .unset, .unset, .unset, .unset, .unset, .unset, .unset, .unset, .unset, .unset, .unset, .unset, .unset]) rfl ?_
          exact kk
        have f205 := (f202.keep K204)
        have fin := own_fin_2_1 e0  K1 J1 gK1 gJ1 of hof
        exact tail _ _ _ rr _ _ (2 : Int32) (1 : Int32) 1 of e0.toInt64 (9223372036854775807 : Int64) (9223372036854775807 : Int64) (9223372036854775807 : Int64) P199 (by decide) (by decide) f205 F201 A200 (by decide) (fun _ => fin) (fun hh => absurd hh (by decide)) (fun hh => absurd hh (by decide)) (fun hh => absurd hh (by decide))
      · have nlt1 : ¬ (nv < (2 : Int32)) := by rcases hnv with rfl | rfl | rfl <;> decide
        refine Done.stepL (pc' := 87) (st' := [(.int e1), (.double (FP.i2d e1)), (.ref b150)]) (fun t kk => ?_) ?_
        · show Steps p.tables e below (T185.setTop (mkF m 74 _ [])) t
          refine XS.iload P186.here P186.x rfl (hb hby at_74) rfl ?_
          show Steps p.tables e below (T185.setTop (mkF m 76 _ [(.int nv)])) t
          refine XS.iconst P186.here P186.x rfl (hb hby at_76) ?_
          show Steps p.tables e below (T185.setTop (mkF m 77 _ [(.int (2 : Int32)), (.int nv)])) t
          refine XS.icmpNo P186.here P186.x rfl (hb hby at_77) rfl (iiW_lt_f nlt1) ?_
          show Steps p.tables e below (T185.setTop (mkF m 80 _ [])) t
          refine XS.aload P186.here P186.x rfl (hb hby at_80) rfl rfl ?_
          show Steps p.tables e below (T185.setTop (mkF m 82 _ [(.ref b150)])) t
          refine XS.iload P186.here P186.x rfl (hb hby at_82) rfl ?_
          show Steps p.tables e below (T185.setTop (mkF m 84 _ [(.int e1), (.ref b150)])) t
          refine XS.i2dS P186.here P186.x rfl (hb hby at_84) rfl rfl ?_
          show Steps p.tables e below (T185.setTop (mkF m 85 _ [(.double (FP.i2d e1)), (.ref b150)])) t
          refine XS.iload P186.here P186.x rfl (hb hby at_85) rfl ?_
          exact kk
        have f216 := (f195.keep K197)
        refine wCallV P186 (m_offA l Z a0 hw b150 b162 b163 (1 : Int32) 2 1 kf194 K1 J1 (2 : Int32) (FP.i2d e1) e1 e1.toInt (2 : Int32) h196 f216 F188 F189 F187 F190 A191 A192 (by first | assumption | exact Ne.symm (by assumption) | exact adr_ne (by omega)) (by first | assumption | exact Ne.symm (by assumption) | exact adr_ne (by omega)) q166 (by decide) rfl dK193 (i2d_int e1) (by decide) (by decide) (by decide)) (tw41 hw) (tw42 hw) (tw44 hw) (tw44 hw) (tw43 hw) (tw2 hw) (tw45 hw) (by decide) f216 (by rw [hml]; rfl) (lenOf pd_6 rfl) (argsL := [(.double (FP.i2d e1)), (.int e1)]) (rest := []) rfl rfl (W := 0) (Nat.le_of_eq rfl) (by decide) (by decide) (by decide) (by decide) (allS (Or.inr ge_b150) (allS (Or.inr ge_b162) (allS (Or.inr ge_b163) all0))) (hb hby at_87) rfl (k' := 3) (n' := 36) rfl rfl ?_
        rintro T206 h217 _ P207 K218 ⟨rfl, kf215, F208, F209, F210, F211, A212, dK214, A213⟩
        have szh217 : h196.size ≤ h217.size := K218.1
        generalize gK2 : (own_of 1 true K1 J1 e1.toInt e1).1 = K2 at dK214
        generalize gJ2 : (own_of 1 true K1 J1 e1.toInt e1).2 = J2 at A213
        show Done _ _ _ _ _ _ _ _ _ _ _ _ _ _ _ T206 (mkF m 90 _ [])
        rcases hnv with rfl | hnv
        · refine Done.stepL (pc' := 124) (st' := [(.ref b150)]) (fun t kk => ?_) ?_
          · show Steps p.tables e below (T206.setTop (mkF m 90 _ [])) t
            refine XS.iload P207.here P207.x rfl (hb hby at_90) rfl ?_
            show Steps p.tables e below (T206.setTop (mkF m 92 _ [(.int (2 : Int32))])) t
            refine XS.iconst P207.here P207.x rfl (hb hby at_92) ?_
            show Steps p.tables e below (T206.setTop (mkF m 93 _ [(.int (3 : Int32)), (.int (2 : Int32))])) t
            refine XS.icmpYes P207.here P207.x rfl (pc0 := 93) (pc' := 106) rfl (hb hby at_93) rfl (iiW_lt_t (by decide)) (by decide) (by decide) ?_
            show Steps p.tables e below (T206.setTop (mkF m 106 _ [])) t
            refine XS.iload P207.here P207.x rfl (hb hby at_106) rfl ?_
            show Steps p.tables e below (T206.setTop (mkF m 108 _ [(.int (2 : Int32))])) t
            refine XS.iconst P207.here P207.x rfl (hb hby at_108) ?_
            show Steps p.tables e below (T206.setTop (mkF m 109 _ [(.int (4 : Int32)), (.int (2 : Int32))])) t
            refine XS.icmpYes P207.here P207.x rfl (pc0 := 109) (pc' := 122) rfl (hb hby at_109) rfl (iiW_lt_t (by decide)) (by decide) (by decide) ?_
            show Steps p.tables e below (T206.setTop (mkF m 122 _ [])) t
            refine XS.aload P207.here P207.x rfl (hb hby at_122) rfl rfl ?_
            exact kk
          have f223 := (f216.keep K218)
          refine wCallV P207 (m_ra l Z a0 hw b150 b162 b163 (2 : Int32) 2 2 kf215 K2 J2 (2 : Int32) h217 f223 F209 F210 F208 F211 A212 A213 (by first | assumption | exact Ne.symm (by assumption) | exact adr_ne (by omega)) (by first | assumption | exact Ne.symm (by assumption) | exact adr_ne (by omega)) q166 (by decide) rfl dK214 (by decide) (by decide)) (tw21 hw) (tw22 hw) (tw24 hw) (tw24 hw) (tw23 hw) (tw2 hw) (tw25 hw) (by decide) f223 (by rw [hml]; rfl) (lenOf pd_5 rfl) (argsL := []) (rest := []) rfl rfl (W := 0) (Nat.le_of_eq rfl) (by decide) (by decide) (by decide) (by decide) (allS (Or.inr ge_b150) (allS (Or.inr ge_b162) (allS (Or.inr ge_b163) all0))) (hb hby at_124) rfl (k' := 4) (n' := 40) rfl rfl ?_
          rintro T219 h224 _ P220 K225 ⟨rr, of, rfl, ltr, F222, A221, hof⟩
          have szh224 : h217.size ≤ h224.size := K225.1
          show Done _ _ _ _ _ _ _ _ _ _ _ _ _ _ _ T219 (mkF m 127 _ [(.ref rr)])
          refine Done.step (T' := T219) (g' := (mkF m 197 #[.val (.int p0), .val (.int p1), .val (.int p2), .val (.int p3), .val (.int p4), .val (.int (2 : Int32)), .val (.int (2 : Int32)), .val (.int e0), .val (.int e1), .val (.int e2), .val (.int e3), .val (.ref b150), .val (.ref rr), .val (.long e0.toInt64), .second, .val (.long e1.toInt64), .second, .val (.long (9223372036854775807 : Int64)), .second, .val (.long (9223372036854775807 : Int64)), .second, .unset, .unset, .unset, .unset, .unset, .unset, .unset, .unset, .unset, .unset, .unset, .unset, .unset, .unset, .unset, .unset, .unset, .unset, .unset, .unset, .unset] [])) (fun t kk => ?_) ?_
          · show Steps p.tables e below (T219.setTop (mkF m 127 _ [(.ref rr)])) t
            refine XS.astore P220.here P220.x rfl (hb hby at_127) rfl rfl (l' := #[.val (.int p0), .val (.int p1), .val (.int p2), .val (.int p3), .val (.int p4), .val (.int (2 : Int32)), .val (.int (2 : Int32)), .val (.int e0), .val (.int e1), .val (.int e2), .val (.int e3), .val (.ref b150), .val (.ref rr), .unset, .unset, .unset, .unset, .unset, .unset, .unset, .unset, .unset, .unset, .unset, .unset, .unset, .unset, .unset, .unset, .unset, .unset, .unset, .unset, .unset, .unset, .unset, .unset, .unset, .unset, .unset, .unset, .unset]) rfl ?_
            show Steps p.tables e below (T219.setTop (mkF m 129 _ [])) t
            refine XS.iload P220.here P220.x rfl (hb hby at_129) rfl ?_
            show Steps p.tables e below (T219.setTop (mkF m 131 _ [(.int (2 : Int32))])) t
            refine XS.iconst P220.here P220.x rfl (hb hby at_131) ?_
            show Steps p.tables e below (T219.setTop (mkF m 132 _ [(.int (1 : Int32)), (.int (2 : Int32))])) t
            refine XS.icmpNo P220.here P220.x rfl (hb hby at_132) rfl (iiW_lt_f (by decide)) ?_
            show Steps p.tables e below (T219.setTop (mkF m 135 _ [])) t
            refine XS.iload P220.here P220.x rfl (hb hby at_135) rfl ?_
            show Steps p.tables e below (T219.setTop (mkF m 137 _ [(.int e0)])) t
            refine XS.i2l P220.here P220.x rfl (hb hby at_137) rfl ?_
            show Steps p.tables e below (T219.setTop (mkF m 138 _ [(.long e0.toInt64)])) t
            refine XS.goto P220.here P220.x rfl (pc0 := 138) (pc' := 144) rfl (hb hby at_138) (by decide) (by decide) ?_
            show Steps p.tables e below (T219.setTop (mkF m 144 _ [(.long e0.toInt64)])) t
            refine XS.lstore P220.here P220.x rfl (hb hby at_144) rfl (l' := #[.val (.int p0), .val (.int p1), .val (.int p2), .val (.int p3), .val (.int p4), .val (.int (2 : Int32)), .val (.int (2 : Int32)), .val (.int e0), .val (.int e1), .val (.int e2), .val (.int e3), .val (.ref b150), .val (.ref rr), .val (.long e0.toInt64), .second, .unset, .unset, .unset, .unset, .unset, .unset, .unset, .unset, .unset, .unset, .unset, .unset, .unset, .unset, .unset, .unset, .unset, .unset, .unset, .unset, .unset, .unset, .unset, .unset, .unset, .unset, .unset]) rfl ?_
            show Steps p.tables e below (T219.setTop (mkF m 146 _ [])) t
            refine XS.iload P220.here P220.x rfl (hb hby at_146) rfl ?_
            show Steps p.tables e below (T219.setTop (mkF m 148 _ [(.int (2 : Int32))])) t
            refine XS.iconst P220.here P220.x rfl (hb hby at_148) ?_
            show Steps p.tables e below (T219.setTop (mkF m 149 _ [(.int (2 : Int32)), (.int (2 : Int32))])) t
            refine XS.icmpNo P220.here P220.x rfl (hb hby at_149) rfl (iiW_lt_f (by decide)) ?_
            show Steps p.tables e below (T219.setTop (mkF m 152 _ [])) t
            refine XS.iload P220.here P220.x rfl (hb hby at_152) rfl ?_
            show Steps p.tables e below (T219.setTop (mkF m 154 _ [(.int e1)])) t
            refine XS.i2l P220.here P220.x rfl (hb hby at_154) rfl ?_
            show Steps p.tables e below (T219.setTop (mkF m 155 _ [(.long e1.toInt64)])) t
            refine XS.goto P220.here P220.x rfl (pc0 := 155) (pc' := 161) rfl (hb hby at_155) (by decide) (by decide) ?_
            show Steps p.tables e below (T219.setTop (mkF m 161 _ [(.long e1.toInt64)])) t
            refine XS.lstore P220.here P220.x rfl (hb hby at_161) rfl (l' := #[.val (.int p0), .val (.int p1), .val (.int p2), .val (.int p3), .val (.int p4), .val (.int (2 : Int32)), .val (.int (2 : Int32)), .val (.int e0), .val (.int e1), .val (.int e2), .val (.int e3), .val (.ref b150), .val (.ref rr), .val (.long e0.toInt64), .second, .val (.long e1.toInt64), .second, .unset, .unset, .unset, .unset, .unset, .unset, .unset, .unset, .unset, .unset, .unset, .unset, .unset, .unset, .unset, .unset, .unset, .unset, .unset, .unset, .unset, .unset, .unset, .unset, .unset]) rfl ?_
            show Steps p.tables e below (T219.setTop (mkF m 163 _ [])) t
            refine XS.iload P220.here P220.x rfl (hb hby at_163) rfl ?_
            show Steps p.tables e below (T219.setTop (mkF m 165 _ [(.int (2 : Int32))])) t
            refine XS.iconst P220.here P220.x rfl (hb hby at_165) ?_
            show Steps p.tables e below (T219.setTop (mkF m 166 _ [(.int (3 : Int32)), (.int (2 : Int32))])) t
            refine XS.icmpYes P220.here P220.x rfl (pc0 := 166) (pc' := 175) rfl (hb hby at_166) rfl (iiW_lt_t (by decide)) (by decide) (by decide) ?_
            show Steps p.tables e below (T219.setTop (mkF m 175 _ [])) t
            refine pLdcJ P220 (tw28 hw) (hb hby at_175) rfl ?_
            show Steps p.tables e below (T219.setTop (mkF m 178 _ [(.long (9223372036854775807 : Int64))])) t
            refine XS.lstore P220.here P220.x rfl (hb hby at_178) rfl (l' := #[.val (.int p0), .val (.int p1), .val (.int p2), .val (.int p3), .val (.int p4), .val (.int (2 : Int32)), .val (.int (2 : Int32)), .val (.int e0), .val (.int e1), .val (.int e2), .val (.int e3), .val (.ref b150), .val (.ref rr), .val (.long e0.toInt64), .second, .val (.long e1.toInt64), .second, .val (.long (9223372036854775807 : Int64)), .second, .unset, .unset, .unset, .unset, .unset, .unset, .unset, .unset, .unset, .unset, .unset, .unset, .unset, .unset, .unset, .unset, .unset, .unset, .unset, .unset, .unset, .unset, .unset]) rfl ?_
            show Steps p.tables e below (T219.setTop (mkF m 180 _ [])) t
            refine XS.iload P220.here P220.x rfl (hb hby at_180) rfl ?_
            show Steps p.tables e below (T219.setTop (mkF m 182 _ [(.int (2 : Int32))])) t
            refine XS.iconst P220.here P220.x rfl (hb hby at_182) ?_
            show Steps p.tables e below (T219.setTop (mkF m 183 _ [(.int (4 : Int32)), (.int (2 : Int32))])) t
            refine XS.icmpYes P220.here P220.x rfl (pc0 := 183) (pc' := 192) rfl (hb hby at_183) rfl (iiW_lt_t (by decide)) (by decide) (by decide) ?_
            show Steps p.tables e below (T219.setTop (mkF m 192 _ [])) t
            refine pLdcJ P220 (tw28 hw) (hb hby at_192) rfl ?_
            show Steps p.tables e below (T219.setTop (mkF m 195 _ [(.long (9223372036854775807 : Int64))])) t
            refine XS.lstore P220.here P220.x rfl (hb hby at_195) rfl (l' := #[.val (.int p0), .val (.int p1), .val (.int p2), .val (.int p3), .val (.int p4), .val (.int (2 : Int32)), .val (.int (2 : Int32)), .val (.int e0), .val (.int e1), .val (.int e2), .val (.int e3), .val (.ref b150), .val (.ref rr), .val (.long e0.toInt64), .second, .val (.long e1.toInt64), .second, .val (.long (9223372036854775807 : Int64)), .second, .val (.long (9223372036854775807 : Int64)), .second, .unset, .unset, .unset, .unset, .unset, .unset, .unset, .unset, .unset, .unset, .unset, .unset, .unset, .unset, .unset, .unset, .unset, .unset, .unset, .unset, .unset]) rfl ?_
            exact kk
          have f226 := (f223.keep K225)
          have fin := own_fin_2_2 e0 e1 d01 K1 J1 gK1 gJ1 K2 J2 gK2 gJ2 of hof
          exact tail _ _ _ rr _ _ (2 : Int32) (2 : Int32) 2 of e0.toInt64 e1.toInt64 (9223372036854775807 : Int64) (9223372036854775807 : Int64) P220 (by decide) (by decide) f226 F222 A221 (by decide) (fun _ => fin.1) (fun _ => fin.2) (fun hh => absurd hh (by decide)) (fun hh => absurd hh (by decide))
        · have nlt2 : ¬ (nv < (3 : Int32)) := by rcases hnv with rfl | rfl <;> decide
          refine Done.stepL (pc' := 103) (st' := [(.int e2), (.double (FP.i2d e2)), (.ref b150)]) (fun t kk => ?_) ?_
          · show Steps p.tables e below (T206.setTop (mkF m 90 _ [])) t
            refine XS.iload P207.here P207.x rfl (hb hby at_90) rfl ?_
            show Steps p.tables e below (T206.setTop (mkF m 92 _ [(.int nv)])) t
            refine XS.iconst P207.here P207.x rfl (hb hby at_92) ?_
            show Steps p.tables e below (T206.setTop (mkF m 93 _ [(.int (3 : Int32)), (.int nv)])) t
            refine XS.icmpNo P207.here P207.x rfl (hb hby at_93) rfl (iiW_lt_f nlt2) ?_
            show Steps p.tables e below (T206.setTop (mkF m 96 _ [])) t
            refine XS.aload P207.here P207.x rfl (hb hby at_96) rfl rfl ?_
            show Steps p.tables e below (T206.setTop (mkF m 98 _ [(.ref b150)])) t
            refine XS.iload P207.here P207.x rfl (hb hby at_98) rfl ?_
            show Steps p.tables e below (T206.setTop (mkF m 100 _ [(.int e2), (.ref b150)])) t
            refine XS.i2dS P207.here P207.x rfl (hb hby at_100) rfl rfl ?_
            show Steps p.tables e below (T206.setTop (mkF m 101 _ [(.double (FP.i2d e2)), (.ref b150)])) t
            refine XS.iload P207.here P207.x rfl (hb hby at_101) rfl ?_
            exact kk
          have f237 := (f216.keep K218)
          refine wCallV P207 (m_offB l Z a0 hw b150 b162 b163 (2 : Int32) 2 2 kf215 K2 J2 (2 : Int32) (FP.i2d e2) e2 e2.toInt h217 f237 F209 F210 F208 F211 A212 A213 (by first | assumption | exact Ne.symm (by assumption) | exact adr_ne (by omega)) (by first | assumption | exact Ne.symm (by assumption) | exact adr_ne (by omega)) q166 (by decide) rfl dK214 (i2d_int e2) (by decide) (by decide) (by decide)) (tw41 hw) (tw42 hw) (tw44 hw) (tw44 hw) (tw43 hw) (tw2 hw) (tw45 hw) (by decide) f237 (by rw [hml]; rfl) (lenOf pd_6 rfl) (argsL := [(.double (FP.i2d e2)), (.int e2)]) (rest := []) rfl rfl (W := 0) (Nat.le_of_eq rfl) (by decide) (by decide) (by decide) (by decide) (allS (Or.inr ge_b162) (allS (Or.inr ge_b163) all0)) (hb hby at_103) rfl (k' := 3) (n' := 36) rfl rfl ?_
          rintro T227 h238 _ P228 K239 ⟨rfl, kf236, F229, F230, F231, F232, A233, dK235, A234⟩
          have szh238 : h217.size ≤ h238.size := K239.1
          generalize gK3 : (own_of 2 false K2 J2 e2.toInt e2).1 = K3 at dK235
          generalize gJ3 : (own_of 2 false K2 J2 e2.toInt e2).2 = J3 at A234
          show Done _ _ _ _ _ _ _ _ _ _ _ _ _ _ _ T227 (mkF m 106 _ [])
          rcases hnv with rfl | rfl
          · refine Done.stepL (pc' := 124) (st' := [(.ref b150)]) (fun t kk => ?_) ?_
            · show Steps p.tables e below (T227.setTop (mkF m 106 _ [])) t
              refine XS.iload P228.here P228.x rfl (hb hby at_106) rfl ?_
              show Steps p.tables e below (T227.setTop (mkF m 108 _ [(.int (3 : Int32))])) t
              refine XS.iconst P228.here P228.x rfl (hb hby at_108) ?_
              show Steps p.tables e below (T227.setTop (mkF m 109 _ [(.int (4 : Int32)), (.int (3 : Int32))])) t
              refine XS.icmpYes P228.here P228.x rfl (pc0 := 109) (pc' := 122) rfl (hb hby at_109) rfl (iiW_lt_t (by decide)) (by decide) (by decide) ?_
              show Steps p.tables e below (T227.setTop (mkF m 122 _ [])) t
              refine XS.aload P228.here P228.x rfl (hb hby at_122) rfl rfl ?_
              exact kk
            have f244 := (f237.keep K239)
            refine wCallV P228 (m_ra l Z a0 hw b150 b162 b163 (2 : Int32) 2 2 kf236 K3 J3 (2 : Int32) h238 f244 F230 F231 F229 F232 A233 A234 (by first | assumption | exact Ne.symm (by assumption) | exact adr_ne (by omega)) (by first | assumption | exact Ne.symm (by assumption) | exact adr_ne (by omega)) q166 (by decide) rfl dK235 (by decide) (by decide)) (tw21 hw) (tw22 hw) (tw24 hw) (tw24 hw) (tw23 hw) (tw2 hw) (tw25 hw) (by decide) f244 (by rw [hml]; rfl) (lenOf pd_5 rfl) (argsL := []) (rest := []) rfl rfl (W := 0) (Nat.le_of_eq rfl) (by decide) (by decide) (by decide) (by decide) (allS (Or.inr ge_b150) (allS (Or.inr ge_b162) (allS (Or.inr ge_b163) all0))) (hb hby at_124) rfl (k' := 4) (n' := 40) rfl rfl ?_
            rintro T240 h245 _ P241 K246 ⟨rr, of, rfl, ltr, F243, A242, hof⟩
            have szh245 : h238.size ≤ h245.size := K246.1
            show Done _ _ _ _ _ _ _ _ _ _ _ _ _ _ _ T240 (mkF m 127 _ [(.ref rr)])
            refine Done.step (T' := T240) (g' := (mkF m 197 #[.val (.int p0), .val (.int p1), .val (.int p2), .val (.int p3), .val (.int p4), .val (.int (2 : Int32)), .val (.int (3 : Int32)), .val (.int e0), .val (.int e1), .val (.int e2), .val (.int e3), .val (.ref b150), .val (.ref rr), .val (.long e0.toInt64), .second, .val (.long e1.toInt64), .second, .val (.long e2.toInt64), .second, .val (.long (9223372036854775807 : Int64)), .second, .unset, .unset, .unset, .unset, .unset, .unset, .unset, .unset, .unset, .unset, .unset, .unset, .unset, .unset, .unset, .unset, .unset, .unset, .unset, .unset, .unset] [])) (fun t kk => ?_) ?_
            · show Steps p.tables e below (T240.setTop (mkF m 127 _ [(.ref rr)])) t
              refine XS.astore P241.here P241.x rfl (hb hby at_127) rfl rfl (l' := #[.val (.int p0), .val (.int p1), .val (.int p2), .val (.int p3), .val (.int p4), .val (.int (2 : Int32)), .val (.int (3 : Int32)), .val (.int e0), .val (.int e1), .val (.int e2), .val (.int e3), .val (.ref b150), .val (.ref rr), .unset, .unset, .unset, .unset, .unset, .unset, .unset, .unset, .unset, .unset, .unset, .unset, .unset, .unset, .unset, .unset, .unset, .unset, .unset, .unset, .unset, .unset, .unset, .unset, .unset, .unset, .unset, .unset, .unset]) rfl ?_
              show Steps p.tables e below (T240.setTop (mkF m 129 _ [])) t
              refine XS.iload P241.here P241.x rfl (hb hby at_129) rfl ?_
              show Steps p.tables e below (T240.setTop (mkF m 131 _ [(.int (3 : Int32))])) t
              refine XS.iconst P241.here P241.x rfl (hb hby at_131) ?_
              show Steps p.tables e below (T240.setTop (mkF m 132 _ [(.int (1 : Int32)), (.int (3 : Int32))])) t
              refine XS.icmpNo P241.here P241.x rfl (hb hby at_132) rfl (iiW_lt_f (by decide)) ?_
              show Steps p.tables e below (T240.setTop (mkF m 135 _ [])) t
              refine XS.iload P241.here P241.x rfl (hb hby at_135) rfl ?_
              show Steps p.tables e below (T240.setTop (mkF m 137 _ [(.int e0)])) t
              refine XS.i2l P241.here P241.x rfl (hb hby at_137) rfl ?_
              show Steps p.tables e below (T240.setTop (mkF m 138 _ [(.long e0.toInt64)])) t
              refine XS.goto P241.here P241.x rfl (pc0 := 138) (pc' := 144) rfl (hb hby at_138) (by decide) (by decide) ?_
              show Steps p.tables e below (T240.setTop (mkF m 144 _ [(.long e0.toInt64)])) t
              refine XS.lstore P241.here P241.x rfl (hb hby at_144) rfl (l' := #[.val (.int p0), .val (.int p1), .val (.int p2), .val (.int p3), .val (.int p4), .val (.int (2 : Int32)), .val (.int (3 : Int32)), .val (.int e0), .val (.int e1), .val (.int e2), .val (.int e3), .val (.ref b150), .val (.ref rr), .val (.long e0.toInt64), .second, .unset, .unset, .unset, .unset, .unset, .unset, .unset, .unset, .unset, .unset, .unset, .unset, .unset, .unset, .unset, .unset, .unset, .unset, .unset, .unset, .unset, .unset, .unset, .unset, .unset, .unset, .unset]) rfl ?_
              show Steps p.tables e below (T240.setTop (mkF m 146 _ [])) t
              refine XS.iload P241.here P241.x rfl (hb hby at_146) rfl ?_
              show Steps p.tables e below (T240.setTop (mkF m 148 _ [(.int (3 : Int32))])) t
              refine XS.iconst P241.here P241.x rfl (hb hby at_148) ?_
              show Steps p.tables e below (T240.setTop (mkF m 149 _ [(.int (2 : Int32)), (.int (3 : Int32))])) t
              refine XS.icmpNo P241.here P241.x rfl (hb hby at_149) rfl (iiW_lt_f (by decide)) ?_
              show Steps p.tables e below (T240.setTop (mkF m 152 _ [])) t
              refine XS.iload P241.here P241.x rfl (hb hby at_152) rfl ?_
              show Steps p.tables e below (T240.setTop (mkF m 154 _ [(.int e1)])) t
              refine XS.i2l P241.here P241.x rfl (hb hby at_154) rfl ?_
              show Steps p.tables e below (T240.setTop (mkF m 155 _ [(.long e1.toInt64)])) t
              refine XS.goto P241.here P241.x rfl (pc0 := 155) (pc' := 161) rfl (hb hby at_155) (by decide) (by decide) ?_
              show Steps p.tables e below (T240.setTop (mkF m 161 _ [(.long e1.toInt64)])) t
              refine XS.lstore P241.here P241.x rfl (hb hby at_161) rfl (l' := #[.val (.int p0), .val (.int p1), .val (.int p2), .val (.int p3), .val (.int p4), .val (.int (2 : Int32)), .val (.int (3 : Int32)), .val (.int e0), .val (.int e1), .val (.int e2), .val (.int e3), .val (.ref b150), .val (.ref rr), .val (.long e0.toInt64), .second, .val (.long e1.toInt64), .second, .unset, .unset, .unset, .unset, .unset, .unset, .unset, .unset, .unset, .unset, .unset, .unset, .unset, .unset, .unset, .unset, .unset, .unset, .unset, .unset, .unset, .unset, .unset, .unset, .unset]) rfl ?_
              show Steps p.tables e below (T240.setTop (mkF m 163 _ [])) t
              refine XS.iload P241.here P241.x rfl (hb hby at_163) rfl ?_
              show Steps p.tables e below (T240.setTop (mkF m 165 _ [(.int (3 : Int32))])) t
              refine XS.iconst P241.here P241.x rfl (hb hby at_165) ?_
              show Steps p.tables e below (T240.setTop (mkF m 166 _ [(.int (3 : Int32)), (.int (3 : Int32))])) t
              refine XS.icmpNo P241.here P241.x rfl (hb hby at_166) rfl (iiW_lt_f (by decide)) ?_
              show Steps p.tables e below (T240.setTop (mkF m 169 _ [])) t
              refine XS.iload P241.here P241.x rfl (hb hby at_169) rfl ?_
              show Steps p.tables e below (T240.setTop (mkF m 171 _ [(.int e2)])) t
              refine XS.i2l P241.here P241.x rfl (hb hby at_171) rfl ?_
              show Steps p.tables e below (T240.setTop (mkF m 172 _ [(.long e2.toInt64)])) t
              refine XS.goto P241.here P241.x rfl (pc0 := 172) (pc' := 178) rfl (hb hby at_172) (by decide) (by decide) ?_
              show Steps p.tables e below (T240.setTop (mkF m 178 _ [(.long e2.toInt64)])) t
              refine XS.lstore P241.here P241.x rfl (hb hby at_178) rfl (l' := #[.val (.int p0), .val (.int p1), .val (.int p2), .val (.int p3), .val (.int p4), .val (.int (2 : Int32)), .val (.int (3 : Int32)), .val (.int e0), .val (.int e1), .val (.int e2), .val (.int e3), .val (.ref b150), .val (.ref rr), .val (.long e0.toInt64), .second, .val (.long e1.toInt64), .second, .val (.long e2.toInt64), .second, .unset, .unset, .unset, .unset, .unset, .unset, .unset, .unset, .unset, .unset, .unset, .unset, .unset, .unset, .unset, .unset, .unset, .unset, .unset, .unset, .unset, .unset, .unset]) rfl ?_
              show Steps p.tables e below (T240.setTop (mkF m 180 _ [])) t
              refine XS.iload P241.here P241.x rfl (hb hby at_180) rfl ?_
              show Steps p.tables e below (T240.setTop (mkF m 182 _ [(.int (3 : Int32))])) t
              refine XS.iconst P241.here P241.x rfl (hb hby at_182) ?_
              show Steps p.tables e below (T240.setTop (mkF m 183 _ [(.int (4 : Int32)), (.int (3 : Int32))])) t
              refine XS.icmpYes P241.here P241.x rfl (pc0 := 183) (pc' := 192) rfl (hb hby at_183) rfl (iiW_lt_t (by decide)) (by decide) (by decide) ?_
              show Steps p.tables e below (T240.setTop (mkF m 192 _ [])) t
              refine pLdcJ P241 (tw28 hw) (hb hby at_192) rfl ?_
              show Steps p.tables e below (T240.setTop (mkF m 195 _ [(.long (9223372036854775807 : Int64))])) t
              refine XS.lstore P241.here P241.x rfl (hb hby at_195) rfl (l' := #[.val (.int p0), .val (.int p1), .val (.int p2), .val (.int p3), .val (.int p4), .val (.int (2 : Int32)), .val (.int (3 : Int32)), .val (.int e0), .val (.int e1), .val (.int e2), .val (.int e3), .val (.ref b150), .val (.ref rr), .val (.long e0.toInt64), .second, .val (.long e1.toInt64), .second, .val (.long e2.toInt64), .second, .val (.long (9223372036854775807 : Int64)), .second, .unset, .unset, .unset, .unset, .unset, .unset, .unset, .unset, .unset, .unset, .unset, .unset, .unset, .unset, .unset, .unset, .unset, .unset, .unset, .unset, .unset]) rfl ?_
              exact kk
            have f247 := (f244.keep K246)
            have fin := own_fin_2_3 e0 e1 e2 d01 d02 d12 K1 J1 gK1 gJ1 K2 J2 gK2 gJ2 K3 J3 gK3 gJ3 of hof
            exact tail _ _ _ rr _ _ (2 : Int32) (3 : Int32) 2 of e0.toInt64 e1.toInt64 e2.toInt64 (9223372036854775807 : Int64) P241 (by decide) (by decide) f247 F243 A242 (by decide) (fun _ => fin.1) (fun _ => fin.2) (fun hh => absurd hh (by decide)) (fun hh => absurd hh (by decide))
          · refine Done.stepL (pc' := 119) (st' := [(.int e3), (.double (FP.i2d e3)), (.ref b150)]) (fun t kk => ?_) ?_
            · show Steps p.tables e below (T227.setTop (mkF m 106 _ [])) t
              refine XS.iload P228.here P228.x rfl (hb hby at_106) rfl ?_
              show Steps p.tables e below (T227.setTop (mkF m 108 _ [(.int (4 : Int32))])) t
              refine XS.iconst P228.here P228.x rfl (hb hby at_108) ?_
              show Steps p.tables e below (T227.setTop (mkF m 109 _ [(.int (4 : Int32)), (.int (4 : Int32))])) t
              refine XS.icmpNo P228.here P228.x rfl (hb hby at_109) rfl (iiW_lt_f (by decide)) ?_
              show Steps p.tables e below (T227.setTop (mkF m 112 _ [])) t
              refine XS.aload P228.here P228.x rfl (hb hby at_112) rfl rfl ?_
              show Steps p.tables e below (T227.setTop (mkF m 114 _ [(.ref b150)])) t
              refine XS.iload P228.here P228.x rfl (hb hby at_114) rfl ?_
              show Steps p.tables e below (T227.setTop (mkF m 116 _ [(.int e3), (.ref b150)])) t
              refine XS.i2dS P228.here P228.x rfl (hb hby at_116) rfl rfl ?_
              show Steps p.tables e below (T227.setTop (mkF m 117 _ [(.double (FP.i2d e3)), (.ref b150)])) t
              refine XS.iload P228.here P228.x rfl (hb hby at_117) rfl ?_
              exact kk
            have f258 := (f237.keep K239)
            refine wCallV P228 (m_offB l Z a0 hw b150 b162 b163 (2 : Int32) 2 2 kf236 K3 J3 (2 : Int32) (FP.i2d e3) e3 e3.toInt h238 f258 F230 F231 F229 F232 A233 A234 (by first | assumption | exact Ne.symm (by assumption) | exact adr_ne (by omega)) (by first | assumption | exact Ne.symm (by assumption) | exact adr_ne (by omega)) q166 (by decide) rfl dK235 (i2d_int e3) (by decide) (by decide) (by decide)) (tw41 hw) (tw42 hw) (tw44 hw) (tw44 hw) (tw43 hw) (tw2 hw) (tw45 hw) (by decide) f258 (by rw [hml]; rfl) (lenOf pd_6 rfl) (argsL := [(.double (FP.i2d e3)), (.int e3)]) (rest := []) rfl rfl (W := 0) (Nat.le_of_eq rfl) (by decide) (by decide) (by decide) (by decide) (allS (Or.inr ge_b162) (allS (Or.inr ge_b163) all0)) (hb hby at_119) rfl (k' := 3) (n' := 36) rfl rfl ?_
            rintro T248 h259 _ P249 K260 ⟨rfl, kf257, F250, F251, F252, F253, A254, dK256, A255⟩
            have szh259 : h238.size ≤ h259.size := K260.1
            generalize gK4 : (own_of 2 false K3 J3 e3.toInt e3).1 = K4 at dK256
            generalize gJ4 : (own_of 2 false K3 J3 e3.toInt e3).2 = J4 at A255
            show Done _ _ _ _ _ _ _ _ _ _ _ _ _ _ _ T248 (mkF m 122 _ [])
            refine Done.stepL (pc' := 124) (st' := [(.ref b150)]) (fun t kk => ?_) ?_
            · show Steps p.tables e below (T248.setTop (mkF m 122 _ [])) t
              refine XS.aload P249.here P249.x rfl (hb hby at_122) rfl rfl ?_
              exact kk
            have f265 := (f258.keep K260)
            refine wCallV P249 (m_ra l Z a0 hw b150 b162 b163 (2 : Int32) 2 2 kf257 K4 J4 (2 : Int32) h259 f265 F251 F252 F250 F253 A254 A255 (by first | assumption | exact Ne.symm (by assumption) | exact adr_ne (by omega)) (by first | assumption | exact Ne.symm (by assumption) | exact adr_ne (by omega)) q166 (by decide) rfl dK256 (by decide) (by decide)) (tw21 hw) (tw22 hw) (tw24 hw) (tw24 hw) (tw23 hw) (tw2 hw) (tw25 hw) (by decide) f265 (by rw [hml]; rfl) (lenOf pd_5 rfl) (argsL := []) (rest := []) rfl rfl (W := 0) (Nat.le_of_eq rfl) (by decide) (by decide) (by decide) (by decide) (allS (Or.inr ge_b150) (allS (Or.inr ge_b162) (allS (Or.inr ge_b163) all0))) (hb hby at_124) rfl (k' := 4) (n' := 40) rfl rfl ?_
            rintro T261 h266 _ P262 K267 ⟨rr, of, rfl, ltr, F264, A263, hof⟩
            have szh266 : h259.size ≤ h266.size := K267.1
            show Done _ _ _ _ _ _ _ _ _ _ _ _ _ _ _ T261 (mkF m 127 _ [(.ref rr)])
            refine Done.step (T' := T261) (g' := (mkF m 197 #[.val (.int p0), .val (.int p1), .val (.int p2), .val (.int p3), .val (.int p4), .val (.int (2 : Int32)), .val (.int (4 : Int32)), .val (.int e0), .val (.int e1), .val (.int e2), .val (.int e3), .val (.ref b150), .val (.ref rr), .val (.long e0.toInt64), .second, .val (.long e1.toInt64), .second, .val (.long e2.toInt64), .second, .val (.long e3.toInt64), .second, .unset, .unset, .unset, .unset, .unset, .unset, .unset, .unset, .unset, .unset, .unset, .unset, .unset, .unset, .unset, .unset, .unset, .unset, .unset, .unset, .unset] [])) (fun t kk => ?_) ?_
            · show Steps p.tables e below (T261.setTop (mkF m 127 _ [(.ref rr)])) t
              refine XS.astore P262.here P262.x rfl (hb hby at_127) rfl rfl (l' := #[.val (.int p0), .val (.int p1), .val (.int p2), .val (.int p3), .val (.int p4), .val (.int (2 : Int32)), .val (.int (4 : Int32)), .val (.int e0), .val (.int e1), .val (.int e2), .val (.int e3), .val (.ref b150), .val (.ref rr), .unset, .unset, .unset, .unset, .unset, .unset, .unset, .unset, .unset, .unset, .unset, .unset, .unset, .unset, .unset, .unset, .unset, .unset, .unset, .unset, .unset, .unset, .unset, .unset, .unset, .unset, .unset, .unset, .unset]) rfl ?_
              show Steps p.tables e below (T261.setTop (mkF m 129 _ [])) t
              refine XS.iload P262.here P262.x rfl (hb hby at_129) rfl ?_
              show Steps p.tables e below (T261.setTop (mkF m 131 _ [(.int (4 : Int32))])) t
              refine XS.iconst P262.here P262.x rfl (hb hby at_131) ?_
              show Steps p.tables e below (T261.setTop (mkF m 132 _ [(.int (1 : Int32)), (.int (4 : Int32))])) t
              refine XS.icmpNo P262.here P262.x rfl (hb hby at_132) rfl (iiW_lt_f (by decide)) ?_
              show Steps p.tables e below (T261.setTop (mkF m 135 _ [])) t
              refine XS.iload P262.here P262.x rfl (hb hby at_135) rfl ?_
              show Steps p.tables e below (T261.setTop (mkF m 137 _ [(.int e0)])) t
              refine XS.i2l P262.here P262.x rfl (hb hby at_137) rfl ?_
              show Steps p.tables e below (T261.setTop (mkF m 138 _ [(.long e0.toInt64)])) t
              refine XS.goto P262.here P262.x rfl (pc0 := 138) (pc' := 144) rfl (hb hby at_138) (by decide) (by decide) ?_
              show Steps p.tables e below (T261.setTop (mkF m 144 _ [(.long e0.toInt64)])) t
              refine XS.lstore P262.here P262.x rfl (hb hby at_144) rfl (l' := #[.val (.int p0), .val (.int p1), .val (.int p2), .val (.int p3), .val (.int p4), .val (.int (2 : Int32)), .val (.int (4 : Int32)), .val (.int e0), .val (.int e1), .val (.int e2), .val (.int e3), .val (.ref b150), .val (.ref rr), .val (.long e0.toInt64), .second, .unset, .unset, .unset, .unset, .unset, .unset, .unset, .unset, .unset, .unset, .unset, .unset, .unset, .unset, .unset, .unset, .unset, .unset, .unset, .unset, .unset, .unset, .unset, .unset, .unset, .unset, .unset]) rfl ?_
              show Steps p.tables e below (T261.setTop (mkF m 146 _ [])) t
              refine XS.iload P262.here P262.x rfl (hb hby at_146) rfl ?_
              show Steps p.tables e below (T261.setTop (mkF m 148 _ [(.int (4 : Int32))])) t
              refine XS.iconst P262.here P262.x rfl (hb hby at_148) ?_
              show Steps p.tables e below (T261.setTop (mkF m 149 _ [(.int (2 : Int32)), (.int (4 : Int32))])) t
              refine XS.icmpNo P262.here P262.x rfl (hb hby at_149) rfl (iiW_lt_f (by decide)) ?_
              show Steps p.tables e below (T261.setTop (mkF m 152 _ [])) t
              refine XS.iload P262.here P262.x rfl (hb hby at_152) rfl ?_
              show Steps p.tables e below (T261.setTop (mkF m 154 _ [(.int e1)])) t
              refine XS.i2l P262.here P262.x rfl (hb hby at_154) rfl ?_
              show Steps p.tables e below (T261.setTop (mkF m 155 _ [(.long e1.toInt64)])) t
              refine XS.goto P262.here P262.x rfl (pc0 := 155) (pc' := 161) rfl (hb hby at_155) (by decide) (by decide) ?_
              show Steps p.tables e below (T261.setTop (mkF m 161 _ [(.long e1.toInt64)])) t
              refine XS.lstore P262.here P262.x rfl (hb hby at_161) rfl (l' := #[.val (.int p0), .val (.int p1), .val (.int p2), .val (.int p3), .val (.int p4), .val (.int (2 : Int32)), .val (.int (4 : Int32)), .val (.int e0), .val (.int e1), .val (.int e2), .val (.int e3), .val (.ref b150), .val (.ref rr), .val (.long e0.toInt64), .second, .val (.long e1.toInt64), .second, .unset, .unset, .unset, .unset, .unset, .unset, .unset, .unset, .unset, .unset, .unset, .unset, .unset, .unset, .unset, .unset, .unset, .unset, .unset, .unset, .unset, .unset, .unset, .unset, .unset]) rfl ?_
              show Steps p.tables e below (T261.setTop (mkF m 163 _ [])) t
              refine XS.iload P262.here P262.x rfl (hb hby at_163) rfl ?_
              show Steps p.tables e below (T261.setTop (mkF m 165 _ [(.int (4 : Int32))])) t
              refine XS.iconst P262.here P262.x rfl (hb hby at_165) ?_
              show Steps p.tables e below (T261.setTop (mkF m 166 _ [(.int (3 : Int32)), (.int (4 : Int32))])) t
              refine XS.icmpNo P262.here P262.x rfl (hb hby at_166) rfl (iiW_lt_f (by decide)) ?_
              show Steps p.tables e below (T261.setTop (mkF m 169 _ [])) t
              refine XS.iload P262.here P262.x rfl (hb hby at_169) rfl ?_
              show Steps p.tables e below (T261.setTop (mkF m 171 _ [(.int e2)])) t
              refine XS.i2l P262.here P262.x rfl (hb hby at_171) rfl ?_
              show Steps p.tables e below (T261.setTop (mkF m 172 _ [(.long e2.toInt64)])) t
              refine XS.goto P262.here P262.x rfl (pc0 := 172) (pc' := 178) rfl (hb hby at_172) (by decide) (by decide) ?_
              show Steps p.tables e below (T261.setTop (mkF m 178 _ [(.long e2.toInt64)])) t
              refine XS.lstore P262.here P262.x rfl (hb hby at_178) rfl (l' := #[.val (.int p0), .val (.int p1), .val (.int p2), .val (.int p3), .val (.int p4), .val (.int (2 : Int32)), .val (.int (4 : Int32)), .val (.int e0), .val (.int e1), .val (.int e2), .val (.int e3), .val (.ref b150), .val (.ref rr), .val (.long e0.toInt64), .second, .val (.long e1.toInt64), .second, .val (.long e2.toInt64), .second, .unset, .unset, .unset, .unset, .unset, .unset, .unset, .unset, .unset, .unset, .unset, .unset, .unset, .unset, .unset, .unset, .unset, .unset, .unset, .unset, .unset, .unset, .unset]) rfl ?_
              show Steps p.tables e below (T261.setTop (mkF m 180 _ [])) t
              refine XS.iload P262.here P262.x rfl (hb hby at_180) rfl ?_
              show Steps p.tables e below (T261.setTop (mkF m 182 _ [(.int (4 : Int32))])) t
              refine XS.iconst P262.here P262.x rfl (hb hby at_182) ?_
              show Steps p.tables e below (T261.setTop (mkF m 183 _ [(.int (4 : Int32)), (.int (4 : Int32))])) t
              refine XS.icmpNo P262.here P262.x rfl (hb hby at_183) rfl (iiW_lt_f (by decide)) ?_
              show Steps p.tables e below (T261.setTop (mkF m 186 _ [])) t
              refine XS.iload P262.here P262.x rfl (hb hby at_186) rfl ?_
              show Steps p.tables e below (T261.setTop (mkF m 188 _ [(.int e3)])) t
              refine XS.i2l P262.here P262.x rfl (hb hby at_188) rfl ?_
              show Steps p.tables e below (T261.setTop (mkF m 189 _ [(.long e3.toInt64)])) t
              refine XS.goto P262.here P262.x rfl (pc0 := 189) (pc' := 195) rfl (hb hby at_189) (by decide) (by decide) ?_
              show Steps p.tables e below (T261.setTop (mkF m 195 _ [(.long e3.toInt64)])) t
              refine XS.lstore P262.here P262.x rfl (hb hby at_195) rfl (l' := #[.val (.int p0), .val (.int p1), .val (.int p2), .val (.int p3), .val (.int p4), .val (.int (2 : Int32)), .val (.int (4 : Int32)), .val (.int e0), .val (.int e1), .val (.int e2), .val (.int e3), .val (.ref b150), .val (.ref rr), .val (.long e0.toInt64), .second, .val (.long e1.toInt64), .second, .val (.long e2.toInt64), .second, .val (.long e3.toInt64), .second, .unset, .unset, .unset, .unset, .unset, .unset, .unset, .unset, .unset, .unset, .unset, .unset, .unset, .unset, .unset, .unset, .unset, .unset, .unset, .unset, .unset]) rfl ?_
              exact kk
            have f268 := (f265.keep K267)
            have fin := own_fin_2_4 e0 e1 e2 e3 d01 d02 d03 d12 d13 d23 K1 J1 gK1 gJ1 K2 J2 gK2 gJ2 K3 J3 gK3 gJ3 K4 J4 gK4 gJ4 of hof
            exact tail _ _ _ rr _ _ (2 : Int32) (4 : Int32) 2 of e0.toInt64 e1.toInt64 e2.toInt64 e3.toInt64 P262 (by decide) (by decide) f268 F264 A263 (by decide) (fun _ => fin.1) (fun _ => fin.2) (fun hh => absurd hh (by decide)) (fun hh => absurd hh (by decide))
  · show Done _ _ _ _ _ _ _ _ _ _ _ _ _ _ _ T0 (mkF m 47 _ [])
    refine wNew P0 (tw0 hw) (tw1 hw) (tw2 hw) (hb hby at_47) rfl (by decide) (by decide) (k' := 1) (n' := 4) rfl rfl (fun T269 h271 b272 g273 lt274 P270 E275 X276 D277 => ?_)
    have ge_b272 : h0.size ≤ b272 := by have := P0.ge; omega
    have F278 : Fld Z h271 b272 "com/example/urnwise/urnwise/sampler/SmallestKeys" "capacity" "I" (.int (0 : Int32)) := D277 (Or.inr (tw10 hw)) (ty := .int) (by decide)
    have F279 : Fld Z h271 b272 "com/example/urnwise/urnwise/sampler/SmallestKeys" "keys" "[D" .null := D277 (Or.inl (tw17 hw)) (ty := (.array .double)) (by decide)
    have F280 : Fld Z h271 b272 "com/example/urnwise/urnwise/sampler/SmallestKeys" "indices" "[I" .null := D277 (Or.inl (tw20 hw)) (ty := (.array .int)) (by decide)
    have F281 : Fld Z h271 b272 "com/example/urnwise/urnwise/sampler/SmallestKeys" "size" "I" (.int (0 : Int32)) := D277 (Or.inl (tw27 hw)) (ty := .int) (by decide)
    show Done _ _ _ _ _ _ _ _ _ _ _ _ _ _ _ T269 (mkF m 50 _ [(.ref b272)])
    refine Done.stepL (pc' := 53) (st' := [(.int (3 : Int32)), (.ref b272), (.ref b272)]) (fun t kk => ?_) ?_
    · show Steps p.tables e below (T269.setTop (mkF m 50 _ [(.ref b272)])) t
      refine XS.dup P270.here P270.x rfl (hb hby at_50) rfl rfl ?_
      show Steps p.tables e below (T269.setTop (mkF m 51 _ [(.ref b272), (.ref b272)])) t
      refine XS.iload P270.here P270.x rfl (hb hby at_51) rfl ?_
      exact kk
    refine wCallI P270 (m_hpInit l Z a0 hw b272 (3 : Int32) 3 h271 X276 F278 F279 F280 (by decide) (by decide) F281) rfl (tw3 hw) (tw4 hw) (tw2 hw) (tw5 hw) (by decide) (a := b272) (by rw [hml]; rfl) (lenOf pd_4 rfl) (argsL := [(.int (3 : Int32))]) (rest := [(.ref b272)]) rfl rfl (W := 1) (Nat.le_of_eq rfl) (by decide) (by decide) (by decide) (by decide) (allS (Or.inr ge_b272) all0) (hb hby at_53) rfl (k' := 3) (n' := 36) rfl rfl ?_
    rintro T282 h297 _ P283 K298 ⟨rfl, b284, b285, q286, q287, q288, q289, q290, F291, F292, F293, F294, A295, A296⟩
    have szh297 : h271.size ≤ h297.size := K298.1
    have ge_b284 : h0.size ≤ b284 := by have := q286; have := P270.ge; omega
    have ge_b285 : h0.size ≤ b285 := by have := q287; have := P270.ge; omega
    have dK0 : ∀ i, i < 3 → DInt ((fun _ => (0 : Int)) i) ((fun _ => (0 : UInt64)) i) := fun i _ => dint_c0
    show Done _ _ _ _ _ _ _ _ _ _ _ _ _ _ _ T282 (mkF m 56 _ [(.ref b272)])
    refine Done.step (T' := T282) (g' := (mkF m 58 #[.val (.int p0), .val (.int p1), .val (.int p2), .val (.int p3), .val (.int p4), .val (.int (3 : Int32)), .val (.int nv), .val (.int e0), .val (.int e1), .val (.int e2), .val (.int e3), .val (.ref b272), .unset, .unset, .unset, .unset, .unset, .unset, .unset, .unset, .unset, .unset, .unset, .unset, .unset, .unset, .unset, .unset, .unset, .unset, .unset, .unset, .unset, .unset, .unset, .unset, .unset, .unset, .unset, .unset, .unset, .unset] [])) (fun t kk => ?_) ?_
    · show Steps p.tables e below (T282.setTop (mkF m 56 _ [(.ref b272)])) t
      refine XS.astore P283.here P283.x rfl (hb hby at_56) rfl rfl (l' := #[.val (.int p0), .val (.int p1), .val (.int p2), .val (.int p3), .val (.int p4), .val (.int (3 : Int32)), .val (.int nv), .val (.int e0), .val (.int e1), .val (.int e2), .val (.int e3), .val (.ref b272), .unset, .unset, .unset, .unset, .unset, .unset, .unset, .unset, .unset, .unset, .unset, .unset, .unset, .unset, .unset, .unset, .unset, .unset, .unset, .unset, .unset, .unset, .unset, .unset, .unset, .unset, .unset, .unset, .unset, .unset]) rfl ?_
      exact kk
    rcases hnv with rfl | hnv
    · refine Done.stepL (pc' := 124) (st' := [(.ref b272)]) (fun t kk => ?_) ?_
      · show Steps p.tables e below (T282.setTop (mkF m 58 _ [])) t
        refine XS.iload P283.here P283.x rfl (hb hby at_58) rfl ?_
        show Steps p.tables e below (T282.setTop (mkF m 60 _ [(.int (0 : Int32))])) t
        refine XS.iconst P283.here P283.x rfl (hb hby at_60) ?_
        show Steps p.tables e below (T282.setTop (mkF m 61 _ [(.int (1 : Int32)), (.int (0 : Int32))])) t
        refine XS.icmpYes P283.here P283.x rfl (pc0 := 61) (pc' := 74) rfl (hb hby at_61) rfl (iiW_lt_t (by decide)) (by decide) (by decide) ?_
        show Steps p.tables e below (T282.setTop (mkF m 74 _ [])) t
        refine XS.iload P283.here P283.x rfl (hb hby at_74) rfl ?_
        show Steps p.tables e below (T282.setTop (mkF m 76 _ [(.int (0 : Int32))])) t
        refine XS.iconst P283.here P283.x rfl (hb hby at_76) ?_
        show Steps p.tables e below (T282.setTop (mkF m 77 _ [(.int (2 : Int32)), (.int (0 : Int32))])) t
        refine XS.icmpYes P283.here P283.x rfl (pc0 := 77) (pc' := 90) rfl (hb hby at_77) rfl (iiW_lt_t (by decide)) (by decide) (by decide) ?_
        show Steps p.tables e below (T282.setTop (mkF m 90 _ [])) t
        refine XS.iload P283.here P283.x rfl (hb hby at_90) rfl ?_
        show Steps p.tables e below (T282.setTop (mkF m 92 _ [(.int (0 : Int32))])) t
        refine XS.iconst P283.here P283.x rfl (hb hby at_92) ?_
        show Steps p.tables e below (T282.setTop (mkF m 93 _ [(.int (3 : Int32)), (.int (0 : Int32))])) t
        refine XS.icmpYes P283.here P283.x rfl (pc0 := 93) (pc' := 106) rfl (hb hby at_93) rfl (iiW_lt_t (by decide)) (by decide) (by decide) ?_
        show Steps p.tables e below (T282.setTop (mkF m 106 _ [])) t
        refine XS.iload P283.here P283.x rfl (hb hby at_106) rfl ?_
        show Steps p.tables e below (T282.setTop (mkF m 108 _ [(.int (0 : Int32))])) t
        refine XS.iconst P283.here P283.x rfl (hb hby at_108) ?_
        show Steps p.tables e below (T282.setTop (mkF m 109 _ [(.int (4 : Int32)), (.int (0 : Int32))])) t
        refine XS.icmpYes P283.here P283.x rfl (pc0 := 109) (pc' := 122) rfl (hb hby at_109) rfl (iiW_lt_t (by decide)) (by decide) (by decide) ?_
        show Steps p.tables e below (T282.setTop (mkF m 122 _ [])) t
        refine XS.aload P283.here P283.x rfl (hb hby at_122) rfl rfl ?_
        exact kk
      have f303 := (X276.keep K298)
      refine wCallV P283 (m_ra l Z a0 hw b272 b284 b285 (0 : Int32) 3 0 (fun _ => (0 : UInt64)) (fun _ => (0 : Int)) (fun _ => (0 : Int32)) (3 : Int32) h297 f303 F292 F293 F291 F294 A295 A296 (by first | assumption | exact Ne.symm (by assumption) | exact adr_ne (by omega)) (by first | assumption | exact Ne.symm (by assumption) | exact adr_ne (by omega)) q288 (by decide) rfl dK0 (by decide) (by decide)) (tw21 hw) (tw22 hw) (tw24 hw) (tw24 hw) (tw23 hw) (tw2 hw) (tw25 hw) (by decide) f303 (by rw [hml]; rfl) (lenOf pd_5 rfl) (argsL := []) (rest := []) rfl rfl (W := 0) (Nat.le_of_eq rfl) (by decide) (by decide) (by decide) (by decide) (allS (Or.inr ge_b272) (allS (Or.inr ge_b284) (allS (Or.inr ge_b285) all0))) (hb hby at_124) rfl (k' := 4) (n' := 40) rfl rfl ?_
      rintro T299 h304 _ P300 K305 ⟨rr, of, rfl, ltr, F302, A301, hof⟩
      have szh304 : h297.size ≤ h304.size := K305.1
      show Done _ _ _ _ _ _ _ _ _ _ _ _ _ _ _ T299 (mkF m 127 _ [(.ref rr)])
      refine Done.step (T' := T299) (g' := (mkF m 197 #[.val (.int p0), .val (.int p1), .val (.int p2), .val (.int p3), .val (.int p4), .val (.int (3 : Int32)), .val (.int (0 : Int32)), .val (.int e0), .val (.int e1), .val (.int e2), .val (.int e3), .val (.ref b272), .val (.ref rr), .val (.long (9223372036854775807 : Int64)), .second, .val (.long (9223372036854775807 : Int64)), .second, .val (.long (9223372036854775807 : Int64)), .second, .val (.long (9223372036854775807 : Int64)), .second, .unset, .unset, .unset, .unset, .unset, .unset, .unset, .unset, .unset, .unset, .unset, .unset, .unset, .unset, .unset, .unset, .unset, .unset, .unset, .unset, .unset] [])) (fun t kk => ?_) ?_
      · show Steps p.tables e below (T299.setTop (mkF m 127 _ [(.ref rr)])) t
        refine XS.astore P300.here P300.x rfl (hb hby at_127) rfl rfl (l' := #[.val (.int p0), .val (.int p1), .val (.int p2), .val (.int p3), .val (.int p4), .val (.int (3 : Int32)), .val (.int (0 : Int32)), .val (.int e0), .val (.int e1), .val (.int e2), .val (.int e3), .val (.ref b272), .val (.ref rr), .unset, .unset, .unset, .unset, .unset, .unset, .unset, .unset, .unset, .unset, .unset, .unset, .unset, .unset, .unset, .unset, .unset, .unset, .unset, .unset, .unset, .unset, .unset, .unset, .unset, .unset, .unset, .unset, .unset]) rfl ?_
        show Steps p.tables e below (T299.setTop (mkF m 129 _ [])) t
        refine XS.iload P300.here P300.x rfl (hb hby at_129) rfl ?_
        show Steps p.tables e below (T299.setTop (mkF m 131 _ [(.int (0 : Int32))])) t
        refine XS.iconst P300.here P300.x rfl (hb hby at_131) ?_
        show Steps p.tables e below (T299.setTop (mkF m 132 _ [(.int (1 : Int32)), (.int (0 : Int32))])) t
        refine XS.icmpYes P300.here P300.x rfl (pc0 := 132) (pc' := 141) rfl (hb hby at_132) rfl (iiW_lt_t (by decide)) (by decide) (by decide) ?_
        show Steps p.tables e below (T299.setTop (mkF m 141 _ [])) t
        refine pLdcJ P300 (tw28 hw) (hb hby at_141) rfl ?_
        show Steps p.tables e below (T299.setTop (mkF m 144 _ [(.long (9223372036854775807 : Int64))])) t
        refine XS.lstore P300.here P300.x rfl (hb hby at_144) rfl (l' := #[.val (.int p0), .val (.int p1), .val (.int p2), .val (.int p3), .val (.int p4), .val (.int (3 : Int32)), .val (.int (0 : Int32)), .val (.int e0), .val (.int e1), .val (.int e2), .val (.int e3), .val (.ref b272), .val (.ref rr), .val (.long (9223372036854775807 : Int64)), .second, .unset, .unset, .unset, .unset, .unset, .unset, .unset, .unset, .unset, .unset, .unset, .unset, .unset, .unset, .unset, .unset, .unset, .unset, .unset, .unset, .unset, .unset, .unset, .unset, .unset, .unset, .unset]) rfl ?_
        show Steps p.tables e below (T299.setTop (mkF m 146 _ [])) t
        refine XS.iload P300.here P300.x rfl (hb hby at_146) rfl ?_
        show Steps p.tables e below (T299.setTop (mkF m 148 _ [(.int (0 : Int32))])) t
        refine XS.iconst P300.here P300.x rfl (hb hby at_148) ?_
        show Steps p.tables e below (T299.setTop (mkF m 149 _ [(.int (2 : Int32)), (.int (0 : Int32))])) t
        refine XS.icmpYes P300.here P300.x rfl (pc0 := 149) (pc' := 158) rfl (hb hby at_149) rfl (iiW_lt_t (by decide)) (by decide) (by decide) ?_
        show Steps p.tables e below (T299.setTop (mkF m 158 _ [])) t
        refine pLdcJ P300 (tw28 hw) (hb hby at_158) rfl ?_
        show Steps p.tables e below (T299.setTop (mkF m 161 _ [(.long (9223372036854775807 : Int64))])) t
        refine XS.lstore P300.here P300.x rfl (hb hby at_161) rfl (l' := #[.val (.int p0), .val (.int p1), .val (.int p2), .val (.int p3), .val (.int p4), .val (.int (3 : Int32)), .val (.int (0 : Int32)), .val (.int e0), .val (.int e1), .val (.int e2), .val (.int e3), .val (.ref b272), .val (.ref rr), .val (.long (9223372036854775807 : Int64)), .second, .val (.long (9223372036854775807 : Int64)), .second, .unset, .unset, .unset, .unset, .unset, .unset, .unset, .unset, .unset, .unset, .unset, .unset, .unset, .unset, .unset, .unset, .unset, .unset, .unset, .unset, .unset, .unset, .unset, .unset, .unset]) rfl ?_
        show Steps p.tables e below (T299.setTop (mkF m 163 _ [])) t
        refine XS.iload P300.here P300.x rfl (hb hby at_163) rfl ?_
        show Steps p.tables e below (T299.setTop (mkF m 165 _ [(.int (0 : Int32))])) t
        refine XS.iconst P300.here P300.x rfl (hb hby at_165) ?_
        show Steps p.tables e below (T299.setTop (mkF m 166 _ [(.int (3 : Int32)), (.int (0 : Int32))])) t
        refine XS.icmpYes P300.here P300.x rfl (pc0 := 166) (pc' := 175) rfl (hb hby at_166) rfl (iiW_lt_t (by decide)) (by decide) (by decide) ?_
        show Steps p.tables e below (T299.setTop (mkF m 175 _ [])) t
        refine pLdcJ P300 (tw28 hw) (hb hby at_175) rfl ?_
        show Steps p.tables e below (T299.setTop (mkF m 178 _ [(.long (9223372036854775807 : Int64))])) t
        refine XS.lstore P300.here P300.x rfl (hb hby at_178) rfl (l' := #[.val (.int p0), .val (.int p1), .val (.int p2), .val (.int p3), .val (.int p4), .val (.int (3 : Int32)), .val (.int (0 : Int32)), .val (.int e0), .val (.int e1), .val (.int e2), .val (.int e3), .val (.ref b272), .val (.ref rr), .val (.long (9223372036854775807 : Int64)), .second, .val (.long (9223372036854775807 : Int64)), .second, .val (.long (9223372036854775807 : Int64)), .second, .unset, .unset, .unset, .unset, .unset, .unset, .unset, .unset, .unset, .unset, .unset, .unset, .unset, .unset, .unset, .unset, .unset, .unset, .unset, .unset, .unset, .unset, .unset]) rfl ?_
        show Steps p.tables e below (T299.setTop (mkF m 180 _ [])) t
        refine XS.iload P300.here P300.x rfl (hb hby at_180) rfl ?_
        show Steps p.tables e below (T299.setTop (mkF m 182 _ [(.int (0 : Int32))])) t
        refine XS.iconst P300.here P300.x rfl (hb hby at_182) ?_
        show Steps p.tables e below (T299.setTop (mkF m 183 _ [(.int (4 : Int32)), (.int (0 : Int32))])) t
        refine XS.icmpYes P300.here P300.x rfl (pc0 := 183) (pc' := 192) rfl (hb hby at_183) rfl (iiW_lt_t (by decide)) (by decide) (by decide) ?_
        show Steps p.tables e below (T299.setTop (mkF m 192 _ [])) t
        refine pLdcJ P300 (tw28 hw) (hb hby at_192) rfl ?_
        show Steps p.tables e below (T299.setTop (mkF m 195 _ [(.long (9223372036854775807 : Int64))])) t
        refine XS.lstore P300.here P300.x rfl (hb hby at_195) rfl (l' := #[.val (.int p0), .val (.int p1), .val (.int p2), .val (.int p3), .val (.int p4), .val (.int (3 : Int32)), .val (.int (0 : Int32)), .val (.int e0), .val (.int e1), .val (.int e2), .val (.int e3), .val (.ref b272), .val (.ref rr), .val (.long (9223372036854775807 : Int64)), .second, .val (.long (9223372036854775807 : Int64)), .second, .val (.long (9223372036854775807 : Int64)), .second, .val (.long (9223372036854775807 : Int64)), .second, .unset, .unset, .unset, .unset, .unset, .unset, .unset, .unset, .unset, .unset, .unset, .unset, .unset, .unset, .unset, .unset, .unset, .unset, .unset, .unset, .unset]) rfl ?_
        exact kk
      have f306 := (f303.keep K305)
      exact tail _ _ _ rr _ _ (3 : Int32) (0 : Int32) 0 of (9223372036854775807 : Int64) (9223372036854775807 : Int64) (9223372036854775807 : Int64) (9223372036854775807 : Int64) P300 (by decide) (by decide) f306 F302 A301 (by decide) (fun hh => absurd hh (by decide)) (fun hh => absurd hh (by decide)) (fun hh => absurd hh (by decide)) (fun hh => absurd hh (by decide))
    · have nlt0 : ¬ (nv < (1 : Int32)) := by rcases hnv with rfl | rfl | rfl | rfl <;> decide
      refine Done.stepL (pc' := 71) (st' := [(.int e0), (.double (FP.i2d e0)), (.ref b272)]) (fun t kk => ?_) ?_
      · show Steps p.tables e below (T282.setTop (mkF m 58 _ [])) t
        refine XS.iload P283.here P283.x rfl (hb hby at_58) rfl ?_
        show Steps p.tables e below (T282.setTop (mkF m 60 _ [(.int nv)])) t
        refine XS.iconst P283.here P283.x rfl (hb hby at_60) ?_
        show Steps p.tables e below (T282.setTop (mkF m 61 _ [(.int (1 : Int32)), (.int nv)])) t
        refine XS.icmpNo P283.here P283.x rfl (hb hby at_61) rfl (iiW_lt_f nlt0) ?_
        show Steps p.tables e below (T282.setTop (mkF m 64 _ [])) t
        refine XS.aload P283.here P283.x rfl (hb hby at_64) rfl rfl ?_
        show Steps p.tables e below (T282.setTop (mkF m 66 _ [(.ref b272)])) t
        refine XS.iload P283.here P283.x rfl (hb hby at_66) rfl ?_
        show Steps p.tables e below (T282.setTop (mkF m 68 _ [(.int e0), (.ref b272)])) t
        refine XS.i2dS P283.here P283.x rfl (hb hby at_68) rfl rfl ?_
        show Steps p.tables e below (T282.setTop (mkF m 69 _ [(.double (FP.i2d e0)), (.ref b272)])) t
        refine XS.iload P283.here P283.x rfl (hb hby at_69) rfl ?_
        exact kk
      have f317 := (X276.keep K298)
      refine wCallV P283 (m_offA l Z a0 hw b272 b284 b285 (0 : Int32) 3 0 (fun _ => (0 : UInt64)) (fun _ => (0 : Int)) (fun _ => (0 : Int32)) (3 : Int32) (FP.i2d e0) e0 e0.toInt (1 : Int32) h297 f317 F292 F293 F291 F294 A295 A296 (by first | assumption | exact Ne.symm (by assumption) | exact adr_ne (by omega)) (by first | assumption | exact Ne.symm (by assumption) | exact adr_ne (by omega)) q288 (by decide) rfl dK0 (i2d_int e0) (by decide) (by decide) (by decide)) (tw41 hw) (tw42 hw) (tw44 hw) (tw44 hw) (tw43 hw) (tw2 hw) (tw45 hw) (by decide) f317 (by rw [hml]; rfl) (lenOf pd_6 rfl) (argsL := [(.double (FP.i2d e0)), (.int e0)]) (rest := []) rfl rfl (W := 0) (Nat.le_of_eq rfl) (by decide) (by decide) (by decide) (by decide) (allS (Or.inr ge_b272) (allS (Or.inr ge_b284) (allS (Or.inr ge_b285) all0))) (hb hby at_71) rfl (k' := 3) (n' := 36) rfl rfl ?_
      rintro T307 h318 _ P308 K319 ⟨rfl, kf316, F309, F310, F311, F312, A313, dK315, A314⟩
      have szh318 : h297.size ≤ h318.size := K319.1
      generalize gK1 : (own_of 0 true (fun _ => (0 : Int)) (fun _ => (0 : Int32)) e0.toInt e0).1 = K1 at dK315
      generalize gJ1 : (own_of 0 true (fun _ => (0 : Int)) (fun _ => (0 : Int32)) e0.toInt e0).2 = J1 at A314
      show Done _ _ _ _ _ _ _ _ _ _ _ _ _ _ _ T307 (mkF m 74 _ [])
      rcases hnv with rfl | hnv
      · refine Done.stepL (pc' := 124) (st' := [(.ref b272)]) (fun t kk => ?_) ?_
        · show Steps p.tables e below (T307.setTop (mkF m 74 _ [])) t
          refine XS.iload P308.here P308.x rfl (hb hby at_74) rfl ?_
          show Steps p.tables e below (T307.setTop (mkF m 76 _ [(.int (1 : Int32))])) t
          refine XS.iconst P308.here P308.x rfl (hb hby at_76) ?_
          show Steps p.tables e below (T307.setTop (mkF m 77 _ [(.int (2 : Int32)), (.int (1 : Int32))])) t
          refine XS.icmpYes P308.here P308.x rfl (pc0 := 77) (pc' := 90) rfl (hb hby at_77) rfl (iiW_lt_t (by decide)) (by decide) (by decide) ?_
          show Steps p.tables e below (T307.setTop (mkF m 90 _ [])) t
          refine XS.iload P308.here P308.x rfl (hb hby at_90) rfl ?_
          show Steps p.tables e below (T307.setTop (mkF m 92 _ [(.int (1 : Int32))])) t
          refine XS.iconst P308.here P308.x rfl (hb hby at_92) ?_
          show Steps p.tables e below (T307.setTop (mkF m 93 _ [(.int (3 : Int32)), (.int (1 : Int32))])) t
          refine XS.icmpYes P308.here P308.x rfl (pc0 := 93) (pc' := 106) rfl (hb hby at_93) rfl (iiW_lt_t (by decide)) (by decide) (by decide) ?_
          show Steps p.tables e below (T307.setTop (mkF m 106 _ [])) t
          refine XS.iload P308.here P308.x rfl (hb hby at_106) rfl ?_
          show Steps p.tables e below (T307.setTop (mkF m 108 _ [(.int (1 : Int32))])) t
          refine XS.iconst P308.here P308.x rfl (hb hby at_108) ?_
          show Steps p.tables e below (T307.setTop (mkF m 109 _ [(.int (4 : Int32)), (.int (1 : Int32))])) t
          refine XS.icmpYes P308.here P308.x rfl (pc0 := 109) (pc' := 122) rfl (hb hby at_109) rfl (iiW_lt_t (by decide)) (by decide) (by decide) ?_
          show Steps p.tables e below (T307.setTop (mkF m 122 _ [])) t
          refine XS.aload P308.here P308.x rfl (hb hby at_122) rfl rfl ?_
          exact kk
        have f324 := (f317.keep K319)
        refine wCallV P308 (m_ra l Z a0 hw b272 b284 b285 (1 : Int32) 3 1 kf316 K1 J1 (3 : Int32) h318 f324 F310 F311 F309 F312 A313 A314 (by first | assumption | exact Ne.symm (by assumption) | exact adr_ne (by omega)) (by first | assumption | exact Ne.symm (by assumption) | exact adr_ne (by omega)) q288 (by decide) rfl dK315 (by decide) (by decide)) (tw21 hw) (tw22 hw) (tw24 hw) (tw24 hw) (tw23 hw) (tw2 hw) (tw25 hw) (by decide) f324 (by rw [hml]; rfl) (lenOf pd_5 rfl) (argsL := []) (rest := []) rfl rfl (W := 0) (Nat.le_of_eq rfl) (by decide) (by decide) (by decide) (by decide) (allS (Or.inr ge_b272) (allS (Or.inr ge_b284) (allS (Or.inr ge_b285) all0))) (hb hby at_124) rfl (k' := 4) (n' := 40) rfl rfl ?_
        rintro T320 h325 _ P321 K326 ⟨rr, of, rfl, ltr, F323, A322, hof⟩
        have szh325 : h318.size ≤ h325.size := K326.1
        show Done _ _ _ _ _ _ _ _ _ _ _ _ _ _ _ T320 (mkF m 127 _ [(.ref rr)])
        refine Done.step (T' := T320) (g' := (mkF m 197 #[.val (.int p0), .val (.int p1), .val (.int p2), .val (.int p3), .val (.int p4), .val (.int (3 : Int32)), .val (.int (1 : Int32)), .val (.int e0), .val (.int e1), .val (.int e2), .val (.int e3), .val (.ref b272), .val (.ref rr), .val (.long e0.toInt64), .second, .val (.long (9223372036854775807 : Int64)), .second, .val (.long (9223372036854775807 : Int64)), .second, .val (.long (9223372036854775807 : Int64)), .second, .unset, .unset, .unset, .unset, .unset, .unset, .unset, .unset, .unset, .unset, .unset, .unset, .unset, .unset, .unset, .unset, .unset, .unset, .unset, .unset, .unset] [])) (fun t kk => ?_) ?_
        · show Steps p.tables e below (T320.setTop (mkF m 127 _ [(.ref rr)])) t
          refine XS.astore P321.here P321.x rfl (hb hby at_127) rfl rfl (l' := #[.val (.int p0), .val (.int p1), .val (.int p2), .val (.int p3), .val (.int p4), .val (.int (3 : Int32)), .val (.int (1 : Int32)), .val (.int e0), .val (.int e1), .val (.int e2), .val (.int e3), .val (.ref b272), .val (.ref rr), .unset, .unset, .unset, .unset, .unset, .unset, .unset, .unset, .unset, .unset, .unset, .unset, .unset, .unset, .unset, .unset, .unset, .unset, .unset, .unset, .unset, .unset, .unset, .unset, .unset, .unset, .unset, .unset, .unset]) rfl ?_
          show Steps p.tables e below (T320.setTop (mkF m 129 _ [])) t
          refine XS.iload P321.here P321.x rfl (hb hby at_129) rfl ?_
          show Steps p.tables e below (T320.setTop (mkF m 131 _ [(.int (1 : Int32))])) t
          refine XS.iconst P321.here P321.x rfl (hb hby at_131) ?_
          show Steps p.tables e below (T320.setTop (mkF m 132 _ [(.int (1 : Int32)), (.int (1 : Int32))])) t
          refine XS.icmpNo P321.here P321.x rfl (hb hby at_132) rfl (iiW_lt_f (by decide)) ?_
          show Steps p.tables e below (T320.setTop (mkF m 135 _ [])) t
          refine XS.iload P321.here P321.x rfl (hb hby at_135) rfl ?_
          show Steps p.tables e below (T320.setTop (mkF m 137 _ [(.int e0)])) t
          refine XS.i2l P321.here P321.x rfl (hb hby at_137) rfl ?_
          show Steps p.tables e below (T320.setTop (mkF m 138 _ [(.long e0.toInt64)])) t
          refine XS.goto P321.here P321.x rfl (pc0 := 138) (pc' := 144) rfl (hb hby at_138) (by decide) (by decide) ?_
          show Steps p.tables e below (T320.setTop (mkF m 144 _ [(.long e0.toInt64)])) t
          refine XS.lstore P321.here P321.x rfl (hb hby at_144) rfl (l' := #[.val (.int p0), .val (.int p1), .val (.int p2), .val (.int p3), .val (.int p4), .val (.int (3 : Int32)), .val (.int (1 : Int32)), .val (.int e0), .val (.int e1), .val (.int e2), .val (.int e3), .val (.ref b272), .val (.ref rr), .val (.long e0.toInt64), .second, .unset, .unset, .unset, .unset, .unset, .unset, .unset, .unset, .unset, .unset, .unset, .unset, .unset, .unset, .unset, .unset, .unset, .unset, .unset, .unset, .unset, .unset, .unset, .unset, .unset, .unset, .unset]) rfl ?_
          show Steps p.tables e below (T320.setTop (mkF m 146 _ [])) t
          refine XS.iload P321.here P321.x rfl (hb hby at_146) rfl ?_
          show Steps p.tables e below (T320.setTop (mkF m 148 _ [(.int (1 : Int32))])) t
          refine XS.iconst P321.here P321.x rfl (hb hby at_148) ?_
          show Steps p.tables e below (T320.setTop (mkF m 149 _ [(.int (2 : Int32)), (.int (1 : Int32))])) t
          refine XS.icmpYes P321.here P321.x rfl (pc0 := 149) (pc' := 158) rfl (hb hby at_149) rfl (iiW_lt_t (by decide)) (by decide) (by decide) ?_
          show Steps p.tables e below (T320.setTop (mkF m 158 _ [])) t
          refine pLdcJ P321 (tw28 hw) (hb hby at_158) rfl ?_
          show Steps p.tables e below (T320.setTop (mkF m 161 _ [(.long (9223372036854775807 : Int64))])) t
          refine XS.lstore P321.here P321.x rfl (hb hby at_161) rfl (l' := #[.val (.int p0), .val (.int p1), .val (.int p2), .val (.int p3), .val (.int p4), .val (.int (3 : Int32)), .val (.int (1 : Int32)), .val (.int e0), .val (.int e1), .val (.int e2), .val (.int e3), .val (.ref b272), .val (.ref rr), .val (.long e0.toInt64), .second, .val (.long (9223372036854775807 : Int64)), .second, .unset, .unset, .unset, .unset, .unset, .unset, .unset, .unset, .unset, .unset, .unset, .unset, .unset, .unset, .unset, .unset, .unset, .unset, .unset, .unset, .unset, .unset, .unset, .unset, .unset]) rfl ?_
          show Steps p.tables e below (T320.setTop (mkF m 163 _ [])) t
          refine XS.iload P321.here P321.x rfl (hb hby at_163) rfl ?_
          show Steps p.tables e below (T320.setTop (mkF m 165 _ [(.int (1 : Int32))])) t
          refine XS.iconst P321.here P321.x rfl (hb hby at_165) ?_
          show Steps p.tables e below (T320.setTop (mkF m 166 _ [(.int (3 : Int32)), (.int (1 : Int32))])) t
          refine XS.icmpYes P321.here P321.x rfl (pc0 := 166) (pc' := 175) rfl (hb hby at_166) rfl (iiW_lt_t (by decide)) (by decide) (by decide) ?_
          show Steps p.tables e below (T320.setTop (mkF m 175 _ [])) t
          refine pLdcJ P321 (tw28 hw) (hb hby at_175) rfl ?_
          show Steps p.tables e below (T320.setTop (mkF m 178 _ [(.long (9223372036854775807 : Int64))])) t
          refine XS.lstore P321.here P321.x rfl (hb hby at_178) rfl (l' := #[.val (.int p0), .val (.int p1), .val (.int p2), .val (.int p3), .val (.int p4), .val (.int (3 : Int32)), .val (.int (1 : Int32)), .val (.int e0), .val (.int e1), .val (.int e2), .val (.int e3), .val (.ref b272), .val (.ref rr), .val (.long e0.toInt64), .second, .val (.long (9223372036854775807 : Int64)), .second, .val (.long (9223372036854775807 : Int64)), .second, .unset, .unset, .unset, .unset, .unset, .unset, .unset, .unset, .unset, .unset, .unset, .unset, .unset, .unset, .unset, .unset, .unset, .unset, .unset, .unset, .unset, .unset, .unset]) rfl ?_
          show Steps p.tables e below (T320.setTop (mkF m 180 _ [])) t
          refine XS.iload P321.here P321.x rfl (hb hby at_180) rfl ?_
          show Steps p.tables e below (T320.setTop (mkF m 182 _ [(.int (1 : Int32))])) t
          refine XS.iconst P321.here P321.x rfl (hb hby at_182) ?_
          show Steps p.tables e below (T320.setTop (mkF m 183 _ [(.int (4 : Int32)), (.int (1 : Int32))])) t
          refine XS.icmpYes P321.here P321.x rfl (pc0 := 183) (pc' := 192) rfl (hb hby at_183) rfl (iiW_lt_t (by decide)) (by decide) (by decide) ?_
          show Steps p.tables e below (T320.setTop (mkF m 192 _ [])) t
          refine pLdcJ P321 (tw28 hw) (hb hby at_192) rfl ?_
          show Steps p.tables e below (T320.setTop (mkF m 195 _ [(.long (9223372036854775807 : Int64))])) t
          refine XS.lstore P321.here P321.x rfl (hb hby at_195) rfl (l' := #[.val (.int p0), .val (.int p1), .val (.int p2), .val (.int p3), .val (.int p4), .val (.int (3 : Int32)), .val (.int (1 : Int32)), .val (.int e0), .val (.int e1), .val (.int e2), .val (.int e3), .val (.ref b272), .val (.ref rr), .val (.long e0.toInt64), .second, .val (.long (9223372036854775807 : Int64)), .second, .val (.long (9223372036854775807 : Int64)), .second, .val (.long (9223372036854775807 : Int64)), .second, .unset, .unset, .unset, .unset, .unset, .unset, .unset, .unset, .unset, .unset, .unset, .unset, .unset, .unset, .unset, .unset, .unset, .unset, .unset, .unset, .unset]) rfl ?_
          exact kk
        have f327 := (f324.keep K326)
        have fin := own_fin_3_1 e0  K1 J1 gK1 gJ1 of hof
        exact tail _ _ _ rr _ _ (3 : Int32) (1 : Int32) 1 of e0.toInt64 (9223372036854775807 : Int64) (9223372036854775807 : Int64) (9223372036854775807 : Int64) P321 (by decide) (by decide) f327 F323 A322 (by decide) (fun _ => fin) (fun hh => absurd hh (by decide)) (fun hh => absurd hh (by decide)) (fun hh => absurd hh (by decide))
      · have nlt1 : ¬ (nv < (2 : Int32)) := by rcases hnv with rfl | rfl | rfl <;> decide
        refine Done.stepL (pc' := 87) (st' := [(.int e1), (.double (FP.i2d e1)), (.ref b272)]) (fun t kk => ?_) ?_
        · show Steps p.tables e below (T307.setTop (mkF m 74 _ [])) t
          refine XS.iload P308.here P308.x rfl (hb hby at_74) rfl ?_
          show Steps p.tables e below (T307.setTop (mkF m 76 _ [(.int nv)])) t
          refine XS.iconst P308.here P308.x rfl (hb hby at_76) ?_
          show Steps p.tables e below (T307.setTop (mkF m 77 _ [(.int (2 : Int32)), (.int nv)])) t
          refine XS.icmpNo P308.here P308.x rfl (hb hby at_77) rfl (iiW_lt_f nlt1) ?_
          show Steps p.tables e below (T307.setTop (mkF m 80 _ [])) t
          refine XS.aload P308.here P308.x rfl (hb hby at_80) rfl rfl ?_
          show Steps p.tables e below (T307.setTop (mkF m 82 _ [(.ref b272)])) t
          refine XS.iload P308.here P308.x rfl (hb hby at_82) rfl ?_
          show Steps p.tables e below (T307.setTop (mkF m 84 _ [(.int e1), (.ref b272)])) t
          refine XS.i2dS P308.here P308.x rfl (hb hby at_84) rfl rfl ?_
          show Steps p.tables e below (T307.setTop (mkF m 85 _ [(.double (FP.i2d e1)), (.ref b272)])) t
          refine XS.iload P308.here P308.x rfl (hb hby at_85) rfl ?_
          exact kk
        have f338 := (f317.keep K319)
        refine wCallV P308 (m_offA l Z a0 hw b272 b284 b285 (1 : Int32) 3 1 kf316 K1 J1 (3 : Int32) (FP.i2d e1) e1 e1.toInt (2 : Int32) h318 f338 F310 F311 F309 F312 A313 A314 (by first | assumption | exact Ne.symm (by assumption) | exact adr_ne (by omega)) (by first | assumption | exact Ne.symm (by assumption) | exact adr_ne (by omega)) q288 (by decide) rfl dK315 (i2d_int e1) (by decide) (by decide) (by decide)) (tw41 hw) (tw42 hw) (tw44 hw) (tw44 hw) (tw43 hw) (tw2 hw) (tw45 hw) (by decide) f338 (by rw [hml]; rfl) (lenOf pd_6 rfl) (argsL := [(.double (FP.i2d e1)), (.int e1)]) (rest := []) rfl rfl (W := 0) (Nat.le_of_eq rfl) (by decide) (by decide) (by decide) (by decide) (allS (Or.inr ge_b272) (allS (Or.inr ge_b284) (allS (Or.inr ge_b285) all0))) (hb hby at_87) rfl (k' := 3) (n' := 36) rfl rfl ?_
        rintro T328 h339 _ P329 K340 ⟨rfl, kf337, F330, F331, F332, F333, A334, dK336, A335⟩
        have szh339 : h318.size ≤ h339.size := K340.1
        generalize gK2 : (own_of 1 true K1 J1 e1.toInt e1).1 = K2 at dK336
        generalize gJ2 : (own_of 1 true K1 J1 e1.toInt e1).2 = J2 at A335
        show Done _ _ _ _ _ _ _ _ _ _ _ _ _ _ _ T328 (mkF m 90 _ [])
        rcases hnv with rfl | hnv
        · refine Done.stepL (pc' := 124) (st' := [(.ref b272)]) (fun t kk => ?_) ?_
          · show Steps p.tables e below (T328.setTop (mkF m 90 _ [])) t
            refine XS.iload P329.here P329.x rfl (hb hby at_90) rfl ?_
            show Steps p.tables e below (T328.setTop (mkF m 92 _ [(.int (2 : Int32))])) t
            refine XS.iconst P329.here P329.x rfl (hb hby at_92) ?_
            show Steps p.tables e below (T328.setTop (mkF m 93 _ [(.int (3 : Int32)), (.int (2 : Int32))])) t
            refine XS.icmpYes P329.here P329.x rfl (pc0 := 93) (pc' := 106) rfl (hb hby at_93) rfl (iiW_lt_t (by decide)) (by decide) (by decide) ?_
            show Steps p.tables e below (T328.setTop (mkF m 106 _ [])) t
            refine XS.iload P329.here P329.x rfl (hb hby at_106) rfl ?_
            show Steps p.tables e below (T328.setTop (mkF m 108 _ [(.int (2 : Int32))])) t
            refine XS.iconst P329.here P329.x rfl (hb hby at_108) ?_
            show Steps p.tables e below (T328.setTop (mkF m 109 _ [(.int (4 : Int32)), (.int (2 : Int32))])) t
            refine XS.icmpYes P329.here P329.x rfl (pc0 := 109) (pc' := 122) rfl (hb hby at_109) rfl (iiW_lt_t (by decide)) (by decide) (by decide) ?_
            show Steps p.tables e below (T328.setTop (mkF m 122 _ [])) t
            refine XS.aload P329.here P329.x rfl (hb hby at_122) rfl rfl ?_
            exact kk
          have f345 := (f338.keep K340)
          refine wCallV P329 (m_ra l Z a0 hw b272 b284 b285 (2 : Int32) 3 2 kf337 K2 J2 (3 : Int32) h339 f345 F331 F332 F330 F333 A334 A335 (by first | assumption | exact Ne.symm (by assumption) | exact adr_ne (by omega)) (by first | assumption | exact Ne.symm (by assumption) | exact adr_ne (by omega)) q288 (by decide) rfl dK336 (by decide) (by decide)) (tw21 hw) (tw22 hw) (tw24 hw) (tw24 hw) (tw23 hw) (tw2 hw) (tw25 hw) (by decide) f345 (by rw [hml]; rfl) (lenOf pd_5 rfl) (argsL := []) (rest := []) rfl rfl (W := 0) (Nat.le_of_eq rfl) (by decide) (by decide) (by decide) (by decide) (allS (Or.inr ge_b272) (allS (Or.inr ge_b284) (allS (Or.inr ge_b285) all0))) (hb hby at_124) rfl (k' := 4) (n' := 40) rfl rfl ?_
          rintro T341 h346 _ P342 K347 ⟨rr, of, rfl, ltr, F344, A343, hof⟩
          have szh346 : h339.size ≤ h346.size := K347.1
          show Done _ _ _ _ _ _ _ _ _ _ _ _ _ _ _ T341 (mkF m 127 _ [(.ref rr)])
          refine Done.step (T' := T341) (g' := (mkF m 197 #[.val (.int p0), .val (.int p1), .val (.int p2), .val (.int p3), .val (.int p4), .val (.int (3 : Int32)), .val (.int (2 : Int32)), .val (.int e0), .val (.int e1), .val (.int e2), .val (.int e3), .val (.ref b272), .val (.ref rr), .val (.long e0.toInt64), .second, .val (.long e1.toInt64), .second, .val (.long (9223372036854775807 : Int64)), .second, .val (.long (9223372036854775807 : Int64)), .second, .unset, .unset, .unset, .unset, .unset, .unset, .unset, .unset, .unset, .unset, .unset, .unset, .unset, .unset, .unset, .unset, .unset, .unset, .unset, .unset, .unset] [])) (fun t kk => ?_) ?_
          · show Steps p.tables e below (T341.setTop (mkF m 127 _ [(.ref rr)])) t
            refine XS.astore P342.here P342.x rfl (hb hby at_127) rfl rfl (l' := #[.val (.int p0), .val (.int p1), .val (.int p2), .val (.int p3), .val (.int p4), .val (.int (3 : Int32)), .val (.int (2 : Int32)), .val (.int e0), .val (.int e1), .val (.int e2), .val (.int e3), .val (.ref b272), .val (.ref rr), .unset, .unset, .unset, .unset, .unset, .unset, .unset, .unset, .unset, .unset, .unset, .unset, .unset, .unset, .unset, .unset, .unset, .unset, .unset, .unset, .unset, .unset, .unset, .unset, .unset, .unset, .unset, .unset, .unset]) rfl ?_
            show Steps p.tables e below (T341.setTop (mkF m 129 _ [])) t
            refine XS.iload P342.here P342.x rfl (hb hby at_129) rfl ?_
            show Steps p.tables e below (T341.setTop (mkF m 131 _ [(.int (2 : Int32))])) t
            refine XS.iconst P342.here P342.x rfl (hb hby at_131) ?_
            show Steps p.tables e below (T341.setTop (mkF m 132 _ [(.int (1 : Int32)), (.int (2 : Int32))])) t
            refine XS.icmpNo P342.here P342.x rfl (hb hby at_132) rfl (iiW_lt_f (by decide)) ?_
            show Steps p.tables e below (T341.setTop (mkF m 135 _ [])) t
            refine XS.iload P342.here P342.x rfl (hb hby at_135) rfl ?_
            show Steps p.tables e below (T341.setTop (mkF m 137 _ [(.int e0)])) t
            refine XS.i2l P342.here P342.x rfl (hb hby at_137) rfl ?_
            show Steps p.tables e below (T341.setTop (mkF m 138 _ [(.long e0.toInt64)])) t
            refine XS.goto P342.here P342.x rfl (pc0 := 138) (pc' := 144) rfl (hb hby at_138) (by decide) (by decide) ?_
            show Steps p.tables e below (T341.setTop (mkF m 144 _ [(.long e0.toInt64)])) t
            refine XS.lstore P342.here P342.x rfl (hb hby at_144) rfl (l' := #[.val (.int p0), .val (.int p1), .val (.int p2), .val (.int p3), .val (.int p4), .val (.int (3 : Int32)), .val (.int (2 : Int32)), .val (.int e0), .val (.int e1), .val (.int e2), .val (.int e3), .val (.ref b272), .val (.ref rr), .val (.long e0.toInt64), .second, .unset, .unset, .unset, .unset, .unset, .unset, .unset, .unset, .unset, .unset, .unset, .unset, .unset, .unset, .unset, .unset, .unset, .unset, .unset, .unset, .unset, .unset, .unset, .unset, .unset, .unset, .unset]) rfl ?_
            show Steps p.tables e below (T341.setTop (mkF m 146 _ [])) t
            refine XS.iload P342.here P342.x rfl (hb hby at_146) rfl ?_
            show Steps p.tables e below (T341.setTop (mkF m 148 _ [(.int (2 : Int32))])) t
            refine XS.iconst P342.here P342.x rfl (hb hby at_148) ?_
            show Steps p.tables e below (T341.setTop (mkF m 149 _ [(.int (2 : Int32)), (.int (2 : Int32))])) t
            refine XS.icmpNo P342.here P342.x rfl (hb hby at_149) rfl (iiW_lt_f (by decide)) ?_
            show Steps p.tables e below (T341.setTop (mkF m 152 _ [])) t
            refine XS.iload P342.here P342.x rfl (hb hby at_152) rfl ?_
            show Steps p.tables e below (T341.setTop (mkF m 154 _ [(.int e1)])) t
            refine XS.i2l P342.here P342.x rfl (hb hby at_154) rfl ?_
            show Steps p.tables e below (T341.setTop (mkF m 155 _ [(.long e1.toInt64)])) t
            refine XS.goto P342.here P342.x rfl (pc0 := 155) (pc' := 161) rfl (hb hby at_155) (by decide) (by decide) ?_
            show Steps p.tables e below (T341.setTop (mkF m 161 _ [(.long e1.toInt64)])) t
            refine XS.lstore P342.here P342.x rfl (hb hby at_161) rfl (l' := #[.val (.int p0), .val (.int p1), .val (.int p2), .val (.int p3), .val (.int p4), .val (.int (3 : Int32)), .val (.int (2 : Int32)), .val (.int e0), .val (.int e1), .val (.int e2), .val (.int e3), .val (.ref b272), .val (.ref rr), .val (.long e0.toInt64), .second, .val (.long e1.toInt64), .second, .unset, .unset, .unset, .unset, .unset, .unset, .unset, .unset, .unset, .unset, .unset, .unset, .unset, .unset, .unset, .unset, .unset, .unset, .unset, .unset, .unset, .unset, .unset, .unset, .unset]) rfl ?_
            show Steps p.tables e below (T341.setTop (mkF m 163 _ [])) t
            refine XS.iload P342.here P342.x rfl (hb hby at_163) rfl ?_
            show Steps p.tables e below (T341.setTop (mkF m 165 _ [(.int (2 : Int32))])) t
            refine XS.iconst P342.here P342.x rfl (hb hby at_165) ?_
            show Steps p.tables e below (T341.setTop (mkF m 166 _ [(.int (3 : Int32)), (.int (2 : Int32))])) t
            refine XS.icmpYes P342.here P342.x rfl (pc0 := 166) (pc' := 175) rfl (hb hby at_166) rfl (iiW_lt_t (by decide)) (by decide) (by decide) ?_
            show Steps p.tables e below (T341.setTop (mkF m 175 _ [])) t
            refine pLdcJ P342 (tw28 hw) (hb hby at_175) rfl ?_
            show Steps p.tables e below (T341.setTop (mkF m 178 _ [(.long (9223372036854775807 : Int64))])) t
            refine XS.lstore P342.here P342.x rfl (hb hby at_178) rfl (l' := #[.val (.int p0), .val (.int p1), .val (.int p2), .val (.int p3), .val (.int p4), .val (.int (3 : Int32)), .val (.int (2 : Int32)), .val (.int e0), .val (.int e1), .val (.int e2), .val (.int e3), .val (.ref b272), .val (.ref rr), .val (.long e0.toInt64), .second, .val (.long e1.toInt64), .second, .val (.long (9223372036854775807 : Int64)), .second, .unset, .unset, .unset, .unset, .unset, .unset, .unset, .unset, .unset, .unset, .unset, .unset, .unset, .unset, .unset, .unset, .unset, .unset, .unset, .unset, .unset, .unset, .unset]) rfl ?_
            show Steps p.tables e below (T341.setTop (mkF m 180 _ [])) t
            refine XS.iload P342.here P342.x rfl (hb hby at_180) rfl ?_
            show Steps p.tables e below (T341.setTop (mkF m 182 _ [(.int (2 : Int32))])) t
            refine XS.iconst P342.here P342.x rfl (hb hby at_182) ?_
            show Steps p.tables e below (T341.setTop (mkF m 183 _ [(.int (4 : Int32)), (.int (2 : Int32))])) t
            refine XS.icmpYes P342.here P342.x rfl (pc0 := 183) (pc' := 192) rfl (hb hby at_183) rfl (iiW_lt_t (by decide)) (by decide) (by decide) ?_
            show Steps p.tables e below (T341.setTop (mkF m 192 _ [])) t
            refine pLdcJ P342 (tw28 hw) (hb hby at_192) rfl ?_
            show Steps p.tables e below (T341.setTop (mkF m 195 _ [(.long (9223372036854775807 : Int64))])) t
            refine XS.lstore P342.here P342.x rfl (hb hby at_195) rfl (l' := #[.val (.int p0), .val (.int p1), .val (.int p2), .val (.int p3), .val (.int p4), .val (.int (3 : Int32)), .val (.int (2 : Int32)), .val (.int e0), .val (.int e1), .val (.int e2), .val (.int e3), .val (.ref b272), .val (.ref rr), .val (.long e0.toInt64), .second, .val (.long e1.toInt64), .second, .val (.long (9223372036854775807 : Int64)), .second, .val (.long (9223372036854775807 : Int64)), .second, .unset, .unset, .unset, .unset, .unset, .unset, .unset, .unset, .unset, .unset, .unset, .unset, .unset, .unset, .unset, .unset, .unset, .unset, .unset, .unset, .unset]) rfl ?_
            exact kk
          have f348 := (f345.keep K347)
          have fin := own_fin_3_2 e0 e1 d01 K1 J1 gK1 gJ1 K2 J2 gK2 gJ2 of hof
          exact tail _ _ _ rr _ _ (3 : Int32) (2 : Int32) 2 of e0.toInt64 e1.toInt64 (9223372036854775807 : Int64) (9223372036854775807 : Int64) P342 (by decide) (by decide) f348 F344 A343 (by decide) (fun _ => fin.1) (fun _ => fin.2) (fun hh => absurd hh (by decide)) (fun hh => absurd hh (by decide))
        · have nlt2 : ¬ (nv < (3 : Int32)) := by rcases hnv with rfl | rfl <;> decide
          refine Done.stepL (pc' := 103) (st' := [(.int e2), (.double (FP.i2d e2)), (.ref b272)]) (fun t kk => ?_) ?_
          · show Steps p.tables e below (T328.setTop (mkF m 90 _ [])) t
            refine XS.iload P329.here P329.x rfl (hb hby at_90) rfl ?_
            show Steps p.tables e below (T328.setTop (mkF m 92 _ [(.int nv)])) t
            refine XS.iconst P329.here P329.x rfl (hb hby at_92) ?_
            show Steps p.tables e below (T328.setTop (mkF m 93 _ [(.int (3 : Int32)), (.int nv)])) t
            refine XS.icmpNo P329.here P329.x rfl (hb hby at_93) rfl (iiW_lt_f nlt2) ?_
            show Steps p.tables e below (T328.setTop (mkF m 96 _ [])) t
            refine XS.aload P329.here P329.x rfl (hb hby at_96) rfl rfl ?_
            show Steps p.tables e below (T328.setTop (mkF m 98 _ [(.ref b272)])) t
            refine XS.iload P329.here P329.x rfl (hb hby at_98) rfl ?_
            show Steps p.tables e below (T328.setTop (mkF m 100 _ [(.int e2), (.ref b272)])) t
            refine XS.i2dS P329.here P329.x rfl (hb hby at_100) rfl rfl ?_
            show Steps p.tables e below (T328.setTop (mkF m 101 _ [(.double (FP.i2d e2)), (.ref b272)])) t
            refine XS.iload P329.here P329.x rfl (hb hby at_101) rfl ?_
            exact kk
          have f359 := (f338.keep K340)
          refine wCallV P329 (m_offA l Z a0 hw b272 b284 b285 (2 : Int32) 3 2 kf337 K2 J2 (3 : Int32) (FP.i2d e2) e2 e2.toInt (3 : Int32) h339 f359 F331 F332 F330 F333 A334 A335 (by first | assumption | exact Ne.symm (by assumption) | exact adr_ne (by omega)) (by first | assumption | exact Ne.symm (by assumption) | exact adr_ne (by omega)) q288 (by decide) rfl dK336 (i2d_int e2) (by decide) (by decide) (by decide)) (tw41 hw) (tw42 hw) (tw44 hw) (tw44 hw) (tw43 hw) (tw2 hw) (tw45 hw) (by decide) f359 (by rw [hml]; rfl) (lenOf pd_6 rfl) (argsL := [(.double (FP.i2d e2)), (.int e2)]) (rest := []) rfl rfl (W := 0) (Nat.le_of_eq rfl) (by decide) (by decide) (by decide) (by decide) (allS (Or.inr ge_b272) (allS (Or.inr ge_b284) (allS (Or.inr ge_b285) all0))) (hb hby at_103) rfl (k' := 3) (n' := 36) rfl rfl ?_
          rintro T349 h360 _ P350 K361 ⟨rfl, kf358, F351, F352, F353, F354, A355, dK357, A356⟩
          have szh360 : h339.size ≤ h360.size := K361.1
          generalize gK3 : (own_of 2 true K2 J2 e2.toInt e2).1 = K3 at dK357
          generalize gJ3 : (own_of 2 true K2 J2 e2.toInt e2).2 = J3 at A356
          show Done _ _ _ _ _ _ _ _ _ _ _ _ _ _ _ T349 (mkF m 106 _ [])
          rcases hnv with rfl | rfl
          · refine Done.stepL (pc' := 124) (st' := [(.ref b272)]) (fun t kk => ?_) ?_
            · show Steps p.tables e below (T349.setTop (mkF m 106 _ [])) t
              refine XS.iload P350.here P350.x rfl (hb hby at_106) rfl ?_
              show Steps p.tables e below (T349.setTop (mkF m 108 _ [(.int (3 : Int32))])) t
              refine XS.iconst P350.here P350.x rfl (hb hby at_108) ?_
              show Steps p.tables e below (T349.setTop (mkF m 109 _ [(.int (4 : Int32)), (.int (3 : Int32))])) t
              refine XS.icmpYes P350.here P350.x rfl (pc0 := 109) (pc' := 122) rfl (hb hby at_109) rfl (iiW_lt_t (by decide)) (by decide) (by decide) ?_
              show Steps p.tables e below (T349.setTop (mkF m 122 _ [])) t
              refine XS.aload P350.here P350.x rfl (hb hby at_122) rfl rfl ?_
              exact kk
            have f366 := (f359.keep K361)
            refine wCallV P350 (m_ra l Z a0 hw b272 b284 b285 (3 : Int32) 3 3 kf358 K3 J3 (3 : Int32) h360 f366 F352 F353 F351 F354 A355 A356 (by first | assumption | exact Ne.symm (by assumption) | exact adr_ne (by omega)) (by first | assumption | exact Ne.symm (by assumption) | exact adr_ne (by omega)) q288 (by decide) rfl dK357 (by decide) (by decide)) (tw21 hw) (tw22 hw) (tw24 hw) (tw24 hw) (tw23 hw) (tw2 hw) (tw25 hw) (by decide) f366 (by rw [hml]; rfl) (lenOf pd_5 rfl) (argsL := []) (rest := []) rfl rfl (W := 0) (Nat.le_of_eq rfl) (by decide) (by decide) (by decide) (by decide) (allS (Or.inr ge_b272) (allS (Or.inr ge_b284) (allS (Or.inr ge_b285) all0))) (hb hby at_124) rfl (k' := 4) (n' := 40) rfl rfl ?_
            rintro T362 h367 _ P363 K368 ⟨rr, of, rfl, ltr, F365, A364, hof⟩
            have szh367 : h360.size ≤ h367.size := K368.1
            show Done _ _ _ _ _ _ _ _ _ _ _ _ _ _ _ T362 (mkF m 127 _ [(.ref rr)])
            refine Done.step (T' := T362) (g' := (mkF m 197 #[.val (.int p0), .val (.int p1), .val (.int p2), .val (.int p3), .val (.int p4), .val (.int (3 : Int32)), .val (.int (3 : Int32)), .val (.int e0), .val (.int e1), .val (.int e2), .val (.int e3), .val (.ref b272), .val (.ref rr), .val (.long e0.toInt64), .second, .val (.long e1.toInt64), .second, .val (.long e2.toInt64), .second, .val (.long (9223372036854775807 : Int64)), .second, .unset, .unset, .unset, .unset, .unset, .unset, .unset, .unset, .unset, .unset, .unset, .unset, .unset, .unset, .unset, .unset, .unset, .unset, .unset, .unset, .unset] [])) (fun t kk => ?_) ?_
            · show Steps p.tables e below (T362.setTop (mkF m 127 _ [(.ref rr)])) t
              refine XS.astore P363.here P363.x rfl (hb hby at_127) rfl rfl (l' := #[.val (.int p0), .val (.int p1), .val (.int p2), .val (.int p3), .val (.int p4), .val (.int (3 : Int32)), .val (.int (3 : Int32)), .val (.int e0), .val (.int e1), .val (.int e2), .val (.int e3), .val (.ref b272), .val (.ref rr), .unset, .unset, .unset, .unset, .unset, .unset, .unset, .unset, .unset, .unset, .unset, .unset, .unset, .unset, .unset, .unset, .unset, .unset, .unset, .unset, .unset, .unset, .unset, .unset, .unset, .unset, .unset, .unset, .unset]) rfl ?_
              show Steps p.tables e below (T362.setTop (mkF m 129 _ [])) t
              refine XS.iload P363.here P363.x rfl (hb hby at_129) rfl ?_
              show Steps p.tables e below (T362.setTop (mkF m 131 _ [(.int (3 : Int32))])) t
              refine XS.iconst P363.here P363.x rfl (hb hby at_131) ?_
              show Steps p.tables e below (T362.setTop (mkF m 132 _ [(.int (1 : Int32)), (.int (3 : Int32))])) t
              refine XS.icmpNo P363.here P363.x rfl (hb hby at_132) rfl (iiW_lt_f (by decide)) ?_
              show Steps p.tables e below (T362.setTop (mkF m 135 _ [])) t
              refine XS.iload P363.here P363.x rfl (hb hby at_135) rfl ?_
              show Steps p.tables e below (T362.setTop (mkF m 137 _ [(.int e0)])) t
              refine XS.i2l P363.here P363.x rfl (hb hby at_137) rfl ?_
              show Steps p.tables e below (T362.setTop (mkF m 138 _ [(.long e0.toInt64)])) t
              refine XS.goto P363.here P363.x rfl (pc0 := 138) (pc' := 144) rfl (hb hby at_138) (by decide) (by decide) ?_
              show Steps p.tables e below (T362.setTop (mkF m 144 _ [(.long e0.toInt64)])) t
              refine XS.lstore P363.here P363.x rfl (hb hby at_144) rfl (l' := #[.val (.int p0), .val (.int p1), .val (.int p2), .val (.int p3), .val (.int p4), .val (.int (3 : Int32)), .val (.int (3 : Int32)), .val (.int e0), .val (.int e1), .val (.int e2), .val (.int e3), .val (.ref b272), .val (.ref rr), .val (.long e0.toInt64), .second, .unset, .unset, .unset, .unset, .unset, .unset, .unset, .unset, .unset, .unset, .unset, .unset, .unset, .unset, .unset, .unset, .unset, .unset, .unset, .unset, .unset, .unset, .unset, .unset, .unset, .unset, .unset]) rfl ?_
              show Steps p.tables e below (T362.setTop (mkF m 146 _ [])) t
              refine XS.iload P363.here P363.x rfl (hb hby at_146) rfl ?_
              show Steps p.tables e below (T362.setTop (mkF m 148 _ [(.int (3 : Int32))])) t
              refine XS.iconst P363.here P363.x rfl (hb hby at_148) ?_
              show Steps p.tables e below (T362.setTop (mkF m 149 _ [(.int (2 : Int32)), (.int (3 : Int32))])) t
              refine XS.icmpNo P363.here P363.x rfl (hb hby at_149) rfl (iiW_lt_f (by decide)) ?_
              show Steps p.tables e below (T362.setTop (mkF m 152 _ [])) t
              refine XS.iload P363.here P363.x rfl (hb hby at_152) rfl ?_
              show Steps p.tables e below (T362.setTop (mkF m 154 _ [(.int e1)])) t
              refine XS.i2l P363.here P363.x rfl (hb hby at_154) rfl ?_
              show Steps p.tables e below (T362.setTop (mkF m 155 _ [(.long e1.toInt64)])) t
              refine XS.goto P363.here P363.x rfl (pc0 := 155) (pc' := 161) rfl (hb hby at_155) (by decide) (by decide) ?_
              show Steps p.tables e below (T362.setTop (mkF m 161 _ [(.long e1.toInt64)])) t
              refine XS.lstore P363.here P363.x rfl (hb hby at_161) rfl (l' := #[.val (.int p0), .val (.int p1), .val (.int p2), .val (.int p3), .val (.int p4), .val (.int (3 : Int32)), .val (.int (3 : Int32)), .val (.int e0), .val (.int e1), .val (.int e2), .val (.int e3), .val (.ref b272), .val (.ref rr), .val (.long e0.toInt64), .second, .val (.long e1.toInt64), .second, .unset, .unset, .unset, .unset, .unset, .unset, .unset, .unset, .unset, .unset, .unset, .unset, .unset, .unset, .unset, .unset, .unset, .unset, .unset, .unset, .unset, .unset, .unset, .unset, .unset]) rfl ?_
              show Steps p.tables e below (T362.setTop (mkF m 163 _ [])) t
              refine XS.iload P363.here P363.x rfl (hb hby at_163) rfl ?_
              show Steps p.tables e below (T362.setTop (mkF m 165 _ [(.int (3 : Int32))])) t
              refine XS.iconst P363.here P363.x rfl (hb hby at_165) ?_
              show Steps p.tables e below (T362.setTop (mkF m 166 _ [(.int (3 : Int32)), (.int (3 : Int32))])) t
              refine XS.icmpNo P363.here P363.x rfl (hb hby at_166) rfl (iiW_lt_f (by decide)) ?_
              show Steps p.tables e below (T362.setTop (mkF m 169 _ [])) t
              refine XS.iload P363.here P363.x rfl (hb hby at_169) rfl ?_
              show Steps p.tables e below (T362.setTop (mkF m 171 _ [(.int e2)])) t
              refine XS.i2l P363.here P363.x rfl (hb hby at_171) rfl ?_
              show Steps p.tables e below (T362.setTop (mkF m 172 _ [(.long e2.toInt64)])) t
              refine XS.goto P363.here P363.x rfl (pc0 := 172) (pc' := 178) rfl (hb hby at_172) (by decide) (by decide) ?_
              show Steps p.tables e below (T362.setTop (mkF m 178 _ [(.long e2.toInt64)])) t
              refine XS.lstore P363.here P363.x rfl (hb hby at_178) rfl (l' := #[.val (.int p0), .val (.int p1), .val (.int p2), .val (.int p3), .val (.int p4), .val (.int (3 : Int32)), .val (.int (3 : Int32)), .val (.int e0), .val (.int e1), .val (.int e2), .val (.int e3), .val (.ref b272), .val (.ref rr), .val (.long e0.toInt64), .second, .val (.long e1.toInt64), .second, .val (.long e2.toInt64), .second, .unset, .unset, .unset, .unset, .unset, .unset, .unset, .unset, .unset, .unset, .unset, .unset, .unset, .unset, .unset, .unset, .unset, .unset, .unset, .unset, .unset, .unset, .unset]) rfl ?_
              show Steps p.tables e below (T362.setTop (mkF m 180 _ [])) t
              refine XS.iload P363.here P363.x rfl (hb hby at_180) rfl ?_
              show Steps p.tables e below (T362.setTop (mkF m 182 _ [(.int (3 : Int32))])) t
              refine XS.iconst P363.here P363.x rfl (hb hby at_182) ?_
              show Steps p.tables e below (T362.setTop (mkF m 183 _ [(.int (4 : Int32)), (.int (3 : Int32))])) t
              refine XS.icmpYes P363.here P363.x rfl (pc0 := 183) (pc' := 192) rfl (hb hby at_183) rfl (iiW_lt_t (by decide)) (by decide) (by decide) ?_
              show Steps p.tables e below (T362.setTop (mkF m 192 _ [])) t
              refine pLdcJ P363 (tw28 hw) (hb hby at_192) rfl ?_
              show Steps p.tables e below (T362.setTop (mkF m 195 _ [(.long (9223372036854775807 : Int64))])) t
              refine XS.lstore P363.here P363.x rfl (hb hby at_195) rfl (l' := #[.val (.int p0), .val (.int p1), .val (.int p2), .val (.int p3), .val (.int p4), .val (.int (3 : Int32)), .val (.int (3 : Int32)), .val (.int e0), .val (.int e1), .val (.int e2), .val (.int e3), .val (.ref b272), .val (.ref rr), .val (.long e0.toInt64), .second, .val (.long e1.toInt64), .second, .val (.long e2.toInt64), .second, .val (.long (9223372036854775807 : Int64)), .second, .unset, .unset, .unset, .unset, .unset, .unset, .unset, .unset, .unset, .unset, .unset, .unset, .unset, .unset, .unset, .unset, .unset, .unset, .unset, .unset, .unset]) rfl ?_
              exact kk
            have f369 := (f366.keep K368)
            have fin := own_fin_3_3 e0 e1 e2 d01 d02 d12 K1 J1 gK1 gJ1 K2 J2 gK2 gJ2 K3 J3 gK3 gJ3 of hof
            exact tail _ _ _ rr _ _ (3 : Int32) (3 : Int32) 3 of e0.toInt64 e1.toInt64 e2.toInt64 (9223372036854775807 : Int64) P363 (by decide) (by decide) f369 F365 A364 (by decide) (fun _ => fin.1) (fun _ => fin.2.1) (fun _ => fin.2.2) (fun hh => absurd hh (by decide))
          · refine Done.stepL (pc' := 119) (st' := [(.int e3), (.double (FP.i2d e3)), (.ref b272)]) (fun t kk => ?_) ?_
            · show Steps p.tables e below (T349.setTop (mkF m 106 _ [])) t
              refine XS.iload P350.here P350.x rfl (hb hby at_106) rfl ?_
              show Steps p.tables e below (T349.setTop (mkF m 108 _ [(.int (4 : Int32))])) t
              refine XS.iconst P350.here P350.x rfl (hb hby at_108) ?_
              show Steps p.tables e below (T349.setTop (mkF m 109 _ [(.int (4 : Int32)), (.int (4 : Int32))])) t
              refine XS.icmpNo P350.here P350.x rfl (hb hby at_109) rfl (iiW_lt_f (by decide)) ?_
              show Steps p.tables e below (T349.setTop (mkF m 112 _ [])) t
              refine XS.aload P350.here P350.x rfl (hb hby at_112) rfl rfl ?_
              show Steps p.tables e below (T349.setTop (mkF m 114 _ [(.ref b272)])) t
              refine XS.iload P350.here P350.x rfl (hb hby at_114) rfl ?_
              show Steps p.tables e below (T349.setTop (mkF m 116 _ [(.int e3), (.ref b272)])) t
              refine XS.i2dS P350.here P350.x rfl (hb hby at_116) rfl rfl ?_
              show Steps p.tables e below (T349.setTop (mkF m 117 _ [(.double (FP.i2d e3)), (.ref b272)])) t
              refine XS.iload P350.here P350.x rfl (hb hby at_117) rfl ?_
              exact kk
            have f380 := (f359.keep K361)
            refine wCallV P350 (m_offB l Z a0 hw b272 b284 b285 (3 : Int32) 3 3 kf358 K3 J3 (3 : Int32) (FP.i2d e3) e3 e3.toInt h360 f380 F352 F353 F351 F354 A355 A356 (by first | assumption | exact Ne.symm (by assumption) | exact adr_ne (by omega)) (by first | assumption | exact Ne.symm (by assumption) | exact adr_ne (by omega)) q288 (by decide) rfl dK357 (i2d_int e3) (by decide) (by decide) (by decide)) (tw41 hw) (tw42 hw) (tw44 hw) (tw44 hw) (tw43 hw) (tw2 hw) (tw45 hw) (by decide) f380 (by rw [hml]; rfl) (lenOf pd_6 rfl) (argsL := [(.double (FP.i2d e3)), (.int e3)]) (rest := []) rfl rfl (W := 0) (Nat.le_of_eq rfl) (by decide) (by decide) (by decide) (by decide) (allS (Or.inr ge_b284) (allS (Or.inr ge_b285) all0)) (hb hby at_119) rfl (k' := 3) (n' := 36) rfl rfl ?_
            rintro T370 h381 _ P371 K382 ⟨rfl, kf379, F372, F373, F374, F375, A376, dK378, A377⟩
            have szh381 : h360.size ≤ h381.size := K382.1
            generalize gK4 : (own_of 3 false K3 J3 e3.toInt e3).1 = K4 at dK378
            generalize gJ4 : (own_of 3 false K3 J3 e3.toInt e3).2 = J4 at A377
            show Done _ _ _ _ _ _ _ _ _ _ _ _ _ _ _ T370 (mkF m 122 _ [])
            refine Done.stepL (pc' := 124) (st' := [(.ref b272)]) (fun t kk => ?_) ?_
            · show Steps p.tables e below (T370.setTop (mkF m 122 _ [])) t
              refine XS.aload P371.here P371.x rfl (hb hby at_122) rfl rfl ?_
              exact kk
            have f387 := (f380.keep K382)
            refine wCallV P371 (m_ra l Z a0 hw b272 b284 b285 (3 : Int32) 3 3 kf379 K4 J4 (3 : Int32) h381 f387 F373 F374 F372 F375 A376 A377 (by first | assumption | exact Ne.symm (by assumption) | exact adr_ne (by omega)) (by first | assumption | exact Ne.symm (by assumption) | exact adr_ne (by omega)) q288 (by decide) rfl dK378 (by decide) (by decide)) (tw21 hw) (tw22 hw) (tw24 hw) (tw24 hw) (tw23 hw) (tw2 hw) (tw25 hw) (by decide) f387 (by rw [hml]; rfl) (lenOf pd_5 rfl) (argsL := []) (rest := []) rfl rfl (W := 0) (Nat.le_of_eq rfl) (by decide) (by decide) (by decide) (by decide) (allS (Or.inr ge_b272) (allS (Or.inr ge_b284) (allS (Or.inr ge_b285) all0))) (hb hby at_124) rfl (k' := 4) (n' := 40) rfl rfl ?_
            rintro T383 h388 _ P384 K389 ⟨rr, of, rfl, ltr, F386, A385, hof⟩
            have szh388 : h381.size ≤ h388.size := K389.1
            show Done _ _ _ _ _ _ _ _ _ _ _ _ _ _ _ T383 (mkF m 127 _ [(.ref rr)])
            refine Done.step (T' := T383) (g' := (mkF m 197 #[.val (.int p0), .val (.int p1), .val (.int p2), .val (.int p3), .val (.int p4), .val (.int (3 : Int32)), .val (.int (4 : Int32)), .val (.int e0), .val (.int e1), .val (.int e2), .val (.int e3), .val (.ref b272), .val (.ref rr), .val (.long e0.toInt64), .second, .val (.long e1.toInt64), .second, .val (.long e2.toInt64), .second, .val (.long e3.toInt64), .second, .unset, .unset, .unset, .unset, .unset, .unset, .unset, .unset, .unset, .unset, .unset, .unset, .unset, .unset, .unset, .unset, .unset, .unset, .unset, .unset, .unset] [])) (fun t kk => ?_) ?_
            · show Steps p.tables e below (T383.setTop (mkF m 127 _ [(.ref rr)])) t
              refine XS.astore P384.here P384.x rfl (hb hby at_127) rfl rfl (l' := #[.val (.int p0), .val (.int p1), .val (.int p2), .val (.int p3), .val (.int p4), .val (.int (3 : Int32)), .val (.int (4 : Int32)), .val (.int e0), .val (.int e1), .val (.int e2), .val (.int e3), .val (.ref b272), .val (.ref rr), .unset, .unset, .unset, .unset, .unset, .unset, .unset, .unset, .unset, .unset, .unset, .unset, .unset, .unset, .unset, .unset, .unset, .unset, .unset, .unset, .unset, .unset, .unset, .unset, .unset, .unset, .unset, .unset, .unset]) rfl ?_
              show Steps p.tables e below (T383.setTop (mkF m 129 _ [])) t
              refine XS.iload P384.here P384.x rfl (hb hby at_129) rfl ?_
              show Steps p.tables e below (T383.setTop (mkF m 131 _ [(.int (4 : Int32))])) t
              refine XS.iconst P384.here P384.x rfl (hb hby at_131) ?_
              show Steps p.tables e below (T383.setTop (mkF m 132 _ [(.int (1 : Int32)), (.int (4 : Int32))])) t
              refine XS.icmpNo P384.here P384.x rfl (hb hby at_132) rfl (iiW_lt_f (by decide)) ?_
              show Steps p.tables e below (T383.setTop (mkF m 135 _ [])) t
              refine XS.iload P384.here P384.x rfl (hb hby at_135) rfl ?_
              show Steps p.tables e below (T383.setTop (mkF m 137 _ [(.int e0)])) t
              refine XS.i2l P384.here P384.x rfl (hb hby at_137) rfl ?_
              show Steps p.tables e below (T383.setTop (mkF m 138 _ [(.long e0.toInt64)])) t
              refine XS.goto P384.here P384.x rfl (pc0 := 138) (pc' := 144) rfl (hb hby at_138) (by decide) (by decide) ?_
              show Steps p.tables e below (T383.setTop (mkF m 144 _ [(.long e0.toInt64)])) t
              refine XS.lstore P384.here P384.x rfl (hb hby at_144) rfl (l' := #[.val (.int p0), .val (.int p1), .val (.int p2), .val (.int p3), .val (.int p4), .val (.int (3 : Int32)), .val (.int (4 : Int32)), .val (.int e0), .val (.int e1), .val (.int e2), .val (.int e3), .val (.ref b272), .val (.ref rr), .val (.long e0.toInt64), .second, .unset, .unset, .unset, .unset, .unset, .unset, .unset, .unset, .unset, .unset, .unset, .unset, .unset, .unset, .unset, .unset, .unset, .unset, .unset, .unset, .unset, .unset, .unset, .unset, .unset, .unset, .unset]) rfl ?_
              show Steps p.tables e below (T383.setTop (mkF m 146 _ [])) t
              refine XS.iload P384.here P384.x rfl (hb hby at_146) rfl ?_
              show Steps p.tables e below (T383.setTop (mkF m 148 _ [(.int (4 : Int32))])) t
              refine XS.iconst P384.here P384.x rfl (hb hby at_148) ?_
              show Steps p.tables e below (T383.setTop (mkF m 149 _ [(.int (2 : Int32)), (.int (4 : Int32))])) t
              refine XS.icmpNo P384.here P384.x rfl (hb hby at_149) rfl (iiW_lt_f (by decide)) ?_
              show Steps p.tables e below (T383.setTop (mkF m 152 _ [])) t
              refine XS.iload P384.here P384.x rfl (hb hby at_152) rfl ?_
              show Steps p.tables e below (T383.setTop (mkF m 154 _ [(.int e1)])) t
              refine XS.i2l P384.here P384.x rfl (hb hby at_154) rfl ?_
              show Steps p.tables e below (T383.setTop (mkF m 155 _ [(.long e1.toInt64)])) t
              refine XS.goto P384.here P384.x rfl (pc0 := 155) (pc' := 161) rfl (hb hby at_155) (by decide) (by decide) ?_
              show Steps p.tables e below (T383.setTop (mkF m 161 _ [(.long e1.toInt64)])) t
              refine XS.lstore P384.here P384.x rfl (hb hby at_161) rfl (l' := #[.val (.int p0), .val (.int p1), .val (.int p2), .val (.int p3), .val (.int p4), .val (.int (3 : Int32)), .val (.int (4 : Int32)), .val (.int e0), .val (.int e1), .val (.int e2), .val (.int e3), .val (.ref b272), .val (.ref rr), .val (.long e0.toInt64), .second, .val (.long e1.toInt64), .second, .unset, .unset, .unset, .unset, .unset, .unset, .unset, .unset, .unset, .unset, .unset, .unset, .unset, .unset, .unset, .unset, .unset, .unset, .unset, .unset, .unset, .unset, .unset, .unset, .unset]) rfl ?_
              show Steps p.tables e below (T383.setTop (mkF m 163 _ [])) t
              refine XS.iload P384.here P384.x rfl (hb hby at_163) rfl ?_
              show Steps p.tables e below (T383.setTop (mkF m 165 _ [(.int (4 : Int32))])) t
              refine XS.iconst P384.here P384.x rfl (hb hby at_165) ?_
              show Steps p.tables e below (T383.setTop (mkF m 166 _ [(.int (3 : Int32)), (.int (4 : Int32))])) t
              refine XS.icmpNo P384.here P384.x rfl (hb hby at_166) rfl (iiW_lt_f (by decide)) ?_
              show Steps p.tables e below (T383.setTop (mkF m 169 _ [])) t
              refine XS.iload P384.here P384.x rfl (hb hby at_169) rfl ?_
              show Steps p.tables e below (T383.setTop (mkF m 171 _ [(.int e2)])) t
              refine XS.i2l P384.here P384.x rfl (hb hby at_171) rfl ?_
              show Steps p.tables e below (T383.setTop (mkF m 172 _ [(.long e2.toInt64)])) t
              refine XS.goto P384.here P384.x rfl (pc0 := 172) (pc' := 178) rfl (hb hby at_172) (by decide) (by decide) ?_
              show Steps p.tables e below (T383.setTop (mkF m 178 _ [(.long e2.toInt64)])) t
              refine XS.lstore P384.here P384.x rfl (hb hby at_178) rfl (l' := #[.val (.int p0), .val (.int p1), .val (.int p2), .val (.int p3), .val (.int p4), .val (.int (3 : Int32)), .val (.int (4 : Int32)), .val (.int e0), .val (.int e1), .val (.int e2), .val (.int e3), .val (.ref b272), .val (.ref rr), .val (.long e0.toInt64), .second, .val (.long e1.toInt64), .second, .val (.long e2.toInt64), .second, .unset, .unset, .unset, .unset, .unset, .unset, .unset, .unset, .unset, .unset, .unset, .unset, .unset, .unset, .unset, .unset, .unset, .unset, .unset, .unset, .unset, .unset, .unset]) rfl ?_
              show Steps p.tables e below (T383.setTop (mkF m 180 _ [])) t
              refine XS.iload P384.here P384.x rfl (hb hby at_180) rfl ?_
              show Steps p.tables e below (T383.setTop (mkF m 182 _ [(.int (4 : Int32))])) t
              refine XS.iconst P384.here P384.x rfl (hb hby at_182) ?_
              show Steps p.tables e below (T383.setTop (mkF m 183 _ [(.int (4 : Int32)), (.int (4 : Int32))])) t
              refine XS.icmpNo P384.here P384.x rfl (hb hby at_183) rfl (iiW_lt_f (by decide)) ?_
              show Steps p.tables e below (T383.setTop (mkF m 186 _ [])) t
              refine XS.iload P384.here P384.x rfl (hb hby at_186) rfl ?_
              show Steps p.tables e below (T383.setTop (mkF m 188 _ [(.int e3)])) t
              refine XS.i2l P384.here P384.x rfl (hb hby at_188) rfl ?_
              show Steps p.tables e below (T383.setTop (mkF m 189 _ [(.long e3.toInt64)])) t
              refine XS.goto P384.here P384.x rfl (pc0 := 189) (pc' := 195) rfl (hb hby at_189) (by decide) (by decide) ?_
              show Steps p.tables e below (T383.setTop (mkF m 195 _ [(.long e3.toInt64)])) t
              refine XS.lstore P384.here P384.x rfl (hb hby at_195) rfl (l' := #[.val (.int p0), .val (.int p1), .val (.int p2), .val (.int p3), .val (.int p4), .val (.int (3 : Int32)), .val (.int (4 : Int32)), .val (.int e0), .val (.int e1), .val (.int e2), .val (.int e3), .val (.ref b272), .val (.ref rr), .val (.long e0.toInt64), .second, .val (.long e1.toInt64), .second, .val (.long e2.toInt64), .second, .val (.long e3.toInt64), .second, .unset, .unset, .unset, .unset, .unset, .unset, .unset, .unset, .unset, .unset, .unset, .unset, .unset, .unset, .unset, .unset, .unset, .unset, .unset, .unset, .unset]) rfl ?_
              exact kk
            have f390 := (f387.keep K389)
            have fin := own_fin_3_4 e0 e1 e2 e3 d01 d02 d03 d12 d13 d23 K1 J1 gK1 gJ1 K2 J2 gK2 gJ2 K3 J3 gK3 gJ3 K4 J4 gK4 gJ4 of hof
            exact tail _ _ _ rr _ _ (3 : Int32) (4 : Int32) 3 of e0.toInt64 e1.toInt64 e2.toInt64 e3.toInt64 P384 (by decide) (by decide) f390 F386 A385 (by decide) (fun _ => fin.1) (fun _ => fin.2.1) (fun _ => fin.2.2) (fun hh => absurd hh (by decide))
  · show Done _ _ _ _ _ _ _ _ _ _ _ _ _ _ _ T0 (mkF m 47 _ [])
    refine wNew P0 (tw0 hw) (tw1 hw) (tw2 hw) (hb hby at_47) rfl (by decide) (by decide) (k' := 1) (n' := 4) rfl rfl (fun T391 h393 b394 g395 lt396 P392 E397 X398 D399 => ?_)
    have ge_b394 : h0.size ≤ b394 := by have := P0.ge; omega
    have F400 : Fld Z h393 b394 "com/example/urnwise/urnwise/sampler/SmallestKeys" "capacity" "I" (.int (0 : Int32)) := D399 (Or.inr (tw10 hw)) (ty := .int) (by decide)
    have F401 : Fld Z h393 b394 "com/example/urnwise/urnwise/sampler/SmallestKeys" "keys" "[D" .null := D399 (Or.inl (tw17 hw)) (ty := (.array .double)) (by decide)
    have F402 : Fld Z h393 b394 "com/example/urnwise/urnwise/sampler/SmallestKeys" "indices" "[I" .null := D399 (Or.inl (tw20 hw)) (ty := (.array .int)) (by decide)
    have F403 : Fld Z h393 b394 "com/example/urnwise/urnwise/sampler/SmallestKeys" "size" "I" (.int (0 : Int32)) := D399 (Or.inl (tw27 hw)) (ty := .int) (by decide)
    show Done _ _ _ _ _ _ _ _ _ _ _ _ _ _ _ T391 (mkF m 50 _ [(.ref b394)])
    refine Done.stepL (pc' := 53) (st' := [(.int (4 : Int32)), (.ref b394), (.ref b394)]) (fun t kk => ?_) ?_
    · show Steps p.tables e below (T391.setTop (mkF m 50 _ [(.ref b394)])) t
      refine XS.dup P392.here P392.x rfl (hb hby at_50) rfl rfl ?_
      show Steps p.tables e below (T391.setTop (mkF m 51 _ [(.ref b394), (.ref b394)])) t
      refine XS.iload P392.here P392.x rfl (hb hby at_51) rfl ?_
      exact kk
    refine wCallI P392 (m_hpInit l Z a0 hw b394 (4 : Int32) 4 h393 X398 F400 F401 F402 (by decide) (by decide) F403) rfl (tw3 hw) (tw4 hw) (tw2 hw) (tw5 hw) (by decide) (a := b394) (by rw [hml]; rfl) (lenOf pd_4 rfl) (argsL := [(.int (4 : Int32))]) (rest := [(.ref b394)]) rfl rfl (W := 1) (Nat.le_of_eq rfl) (by decide) (by decide) (by decide) (by decide) (allS (Or.inr ge_b394) all0) (hb hby at_53) rfl (k' := 3) (n' := 36) rfl rfl ?_
    rintro T404 h419 _ P405 K420 ⟨rfl, b406, b407, q408, q409, q410, q411, q412, F413, F414, F415, F416, A417, A418⟩
    have szh419 : h393.size ≤ h419.size := K420.1
    have ge_b406 : h0.size ≤ b406 := by have := q408; have := P392.ge; omega
    have ge_b407 : h0.size ≤ b407 := by have := q409; have := P392.ge; omega
    have dK0 : ∀ i, i < 4 → DInt ((fun _ => (0 : Int)) i) ((fun _ => (0 : UInt64)) i) := fun i _ => dint_c0
    show Done _ _ _ _ _ _ _ _ _ _ _ _ _ _ _ T404 (mkF m 56 _ [(.ref b394)])
    refine Done.step (T' := T404) (g' := (mkF m 58 #[.val (.int p0), .val (.int p1), .val (.int p2), .val (.int p3), .val (.int p4), .val (.int (4 : Int32)), .val (.int nv), .val (.int e0), .val (.int e1), .val (.int e2), .val (.int e3), .val (.ref b394), .unset, .unset, .unset, .unset, .unset, .unset, .unset, .unset, .unset, .unset, .unset, .unset, .unset, .unset, .unset, .unset, .unset, .unset, .unset, .unset, .unset, .unset, .unset, .unset, .unset, .unset, .unset, .unset, .unset, .unset] [])) (fun t kk => ?_) ?_
    · show Steps p.tables e below (T404.setTop (mkF m 56 _ [(.ref b394)])) t
      refine XS.astore P405.here P405.x rfl (hb hby at_56) rfl rfl (l' := #[.val (.int p0), .val (.int p1), .val (.int p2), .val (.int p3), .val (.int p4), .val (.int (4 : Int32)), .val (.int nv), .val (.int e0), .val (.int e1), .val (.int e2), .val (.int e3), .val (.ref b394), .unset, .unset, .unset, .unset, .unset, .unset, .unset, .unset, .unset, .unset, .unset, .unset, .unset, .unset, .unset, .unset, .unset, .unset, .unset, .unset, .unset, .unset, .unset, .unset, .unset, .unset, .unset, .unset, .unset, .unset]) rfl ?_
      exact kk
    rcases hnv with rfl | hnv
    · refine Done.stepL (pc' := 124) (st' := [(.ref b394)]) (fun t kk => ?_) ?_
      · show Steps p.tables e below (T404.setTop (mkF m 58 _ [])) t
        refine XS.iload P405.here P405.x rfl (hb hby at_58) rfl ?_
        show Steps p.tables e below (T404.setTop (mkF m 60 _ [(.int (0 : Int32))])) t
        refine XS.iconst P405.here P405.x rfl (hb hby at_60) ?_
        show Steps p.tables e below (T404.setTop (mkF m 61 _ [(.int (1 : Int32)), (.int (0 : Int32))])) t
        refine XS.icmpYes P405.here P405.x rfl (pc0 := 61) (pc' := 74) rfl (hb hby at_61) rfl (iiW_lt_t (by decide)) (by decide) (by decide) ?_
        show Steps p.tables e below (T404.setTop (mkF m 74 _ [])) t
        refine XS.iload P405.here P405.x rfl (hb hby at_74) rfl ?_
        show Steps p.tables e below (T404.setTop (mkF m 76 _ [(.int (0 : Int32))])) t
        refine XS.iconst P405.here P405.x rfl (hb hby at_76) ?_
        show Steps p.tables e below (T404.setTop (mkF m 77 _ [(.int (2 : Int32)), (.int (0 : Int32))])) t
        refine XS.icmpYes P405.here P405.x rfl (pc0 := 77) (pc' := 90) rfl (hb hby at_77) rfl (iiW_lt_t (by decide)) (by decide) (by decide) ?_
        show Steps p.tables e below (T404.setTop (mkF m 90 _ [])) t
        refine XS.iload P405.here P405.x rfl (hb hby at_90) rfl ?_
        show Steps p.tables e below (T404.setTop (mkF m 92 _ [(.int (0 : Int32))])) t
        refine XS.iconst P405.here P405.x rfl (hb hby at_92) ?_
        show Steps p.tables e below (T404.setTop (mkF m 93 _ [(.int (3 : Int32)), (.int (0 : Int32))])) t
        refine XS.icmpYes P405.here P405.x rfl (pc0 := 93) (pc' := 106) rfl (hb hby at_93) rfl (iiW_lt_t (by decide)) (by decide) (by decide) ?_
        show Steps p.tables e below (T404.setTop (mkF m 106 _ [])) t
        refine XS.iload P405.here P405.x rfl (hb hby at_106) rfl ?_
        show Steps p.tables e below (T404.setTop (mkF m 108 _ [(.int (0 : Int32))])) t
        refine XS.iconst P405.here P405.x rfl (hb hby at_108) ?_
        show Steps p.tables e below (T404.setTop (mkF m 109 _ [(.int (4 : Int32)), (.int (0 : Int32))])) t
        refine XS.icmpYes P405.here P405.x rfl (pc0 := 109) (pc' := 122) rfl (hb hby at_109) rfl (iiW_lt_t (by decide)) (by decide) (by decide) ?_
        show Steps p.tables e below (T404.setTop (mkF m 122 _ [])) t
        refine XS.aload P405.here P405.x rfl (hb hby at_122) rfl rfl ?_
        exact kk
      have f425 := (X398.keep K420)
      refine wCallV P405 (m_ra l Z a0 hw b394 b406 b407 (0 : Int32) 4 0 (fun _ => (0 : UInt64)) (fun _ => (0 : Int)) (fun _ => (0 : Int32)) (4 : Int32) h419 f425 F414 F415 F413 F416 A417 A418 (by first | assumption | exact Ne.symm (by assumption) | exact adr_ne (by omega)) (by first | assumption | exact Ne.symm (by assumption) | exact adr_ne (by omega)) q410 (by decide) rfl dK0 (by decide) (by decide)) (tw21 hw) (tw22 hw) (tw24 hw) (tw24 hw) (tw23 hw) (tw2 hw) (tw25 hw) (by decide) f425 (by rw [hml]; rfl) (lenOf pd_5 rfl) (argsL := []) (rest := []) rfl rfl (W := 0) (Nat.le_of_eq rfl) (by decide) (by decide) (by decide) (by decide) (allS (Or.inr ge_b394) (allS (Or.inr ge_b406) (allS (Or.inr ge_b407) all0))) (hb hby at_124) rfl (k' := 4) (n' := 40) rfl rfl ?_
      rintro T421 h426 _ P422 K427 ⟨rr, of, rfl, ltr, F424, A423, hof⟩
      have szh426 : h419.size ≤ h426.size := K427.1
      show Done _ _ _ _ _ _ _ _ _ _ _ _ _ _ _ T421 (mkF m 127 _ [(.ref rr)])
      refine Done.step (T' := T421) (g' := (mkF m 197 #[.val (.int p0), .val (.int p1), .val (.int p2), .val (.int p3), .val (.int p4), .val (.int (4 : Int32)), .val (.int (0 : Int32)), .val (.int e0), .val (.int e1), .val (.int e2), .val (.int e3), .val (.ref b394), .val (.ref rr), .val (.long (9223372036854775807 : Int64)), .second, .val (.long (9223372036854775807 : Int64)), .second, .val (.long (9223372036854775807 : Int64)), .second, .val (.long (9223372036854775807 : Int64)), .second, .unset, .unset, .unset, .unset, .unset, .unset, .unset, .unset, .unset, .unset, .unset, .unset, .unset, .unset, .unset, .unset, .unset, .unset, .unset, .unset, .unset] [])) (fun t kk => ?_) ?_
      · show Steps p.tables e below (T421.setTop (mkF m 127 _ [(.ref rr)])) t
        refine XS.astore P422.here P422.x rfl (hb hby at_127) rfl rfl (l' := #[.val (.int p0), .val (.int p1), .val (.int p2), .val (.int p3), .val (.int p4), .val (.int (4 : Int32)), .val (.int (0 : Int32)), .val (.int e0), .val (.int e1), .val (.int e2), .val (.int e3), .val (.ref b394), .val (.ref rr), .unset, .unset, .unset, .unset, .unset, .unset, .unset, .unset, .unset, .unset, .unset, .unset, .unset, .unset, .unset, .unset, .unset, .unset, .unset, .unset, .unset, .unset, .unset, .unset, .unset, .unset, .unset, .unset, .unset]) rfl ?_
        show Steps p.tables e below (T421.setTop (mkF m 129 _ [])) t
        refine XS.iload P422.here P422.x rfl (hb hby at_129) rfl ?_
        show Steps p.tables e below (T421.setTop (mkF m 131 _ [(.int (0 : Int32))])) t
        refine XS.iconst P422.here P422.x rfl (hb hby at_131) ?_
        show Steps p.tables e below (T421.setTop (mkF m 132 _ [(.int (1 : Int32)), (.int (0 : Int32))])) t
        refine XS.icmpYes P422.here P422.x rfl (pc0 := 132) (pc' := 141) rfl (hb hby at_132) rfl (iiW_lt_t (by decide)) (by decide) (by decide) ?_
        show Steps p.tables e below (T421.setTop (mkF m 141 _ [])) t
        refine pLdcJ P422 (tw28 hw) (hb hby at_141) rfl ?_
        show Steps p.tables e below (T421.setTop (mkF m 144 _ [(.long (9223372036854775807 : Int64))])) t
        refine XS.lstore P422.here P422.x rfl (hb hby at_144) rfl (l' := #[.val (.int p0), .val (.int p1), .val (.int p2), .val (.int p3), .val (.int p4), .val (.int (4 : Int32)), .val (.int (0 : Int32)), .val (.int e0), .val (.int e1), .val (.int e2), .val (.int e3), .val (.ref b394), .val (.ref rr), .val (.long (9223372036854775807 : Int64)), .second, .unset, .unset, .unset, .unset, .unset, .unset, .unset, .unset, .unset, .unset, .unset, .unset, .unset, .unset, .unset, .unset, .unset, .unset, .unset, .unset, .unset, .unset, .unset, .unset, .unset, .unset, .unset]) rfl ?_
        show Steps p.tables e below (T421.setTop (mkF m 146 _ [])) t
        refine XS.iload P422.here P422.x rfl (hb hby at_146) rfl ?_
        show Steps p.tables e below (T421.setTop (mkF m 148 _ [(.int (0 : Int32))])) t
        refine XS.iconst P422.here P422.x rfl (hb hby at_148) ?_
        show Steps p.tables e below (T421.setTop (mkF m 149 _ [(.int (2 : Int32)), (.int (0 : Int32))])) t
        refine XS.icmpYes P422.here P422.x rfl (pc0 := 149) (pc' := 158) rfl (hb hby at_149) rfl (iiW_lt_t (by decide)) (by decide) (by decide) ?_
        show Steps p.tables e below (T421.setTop (mkF m 158 _ [])) t
        refine pLdcJ P422 (tw28 hw) (hb hby at_158) rfl ?_
        show Steps p.tables e below (T421.setTop (mkF m 161 _ [(.long (9223372036854775807 : Int64))])) t
        refine XS.lstore P422.here P422.x rfl (hb hby at_161) rfl (l' := #[.val (.int p0), .val (.int p1), .val (.int p2), .val (.int p3), .val (.int p4), .val (.int (4 : Int32)), .val (.int (0 : Int32)), .val (.int e0), .val (.int e1), .val (.int e2), .val (.int e3), .val (.ref b394), .val (.ref rr), .val (.long (9223372036854775807 : Int64)), .second, .val (.long (9223372036854775807 : Int64)), .second, .unset, .unset, .unset, .unset, .unset, .unset, .unset, .unset, .unset, .unset, .unset, .unset, .unset, .unset, .unset, .unset, .unset, .unset, .unset, .unset, .unset, .unset, .unset, .unset, .unset]) rfl ?_
        show Steps p.tables e below (T421.setTop (mkF m 163 _ [])) t
        refine XS.iload P422.here P422.x rfl (hb hby at_163) rfl ?_
        show Steps p.tables e below (T421.setTop (mkF m 165 _ [(.int (0 : Int32))])) t
        refine XS.iconst P422.here P422.x rfl (hb hby at_165) ?_
        show Steps p.tables e below (T421.setTop (mkF m 166 _ [(.int (3 : Int32)), (.int (0 : Int32))])) t
        refine XS.icmpYes P422.here P422.x rfl (pc0 := 166) (pc' := 175) rfl (hb hby at_166) rfl (iiW_lt_t (by decide)) (by decide) (by decide) ?_
        show Steps p.tables e below (T421.setTop (mkF m 175 _ [])) t
        refine pLdcJ P422 (tw28 hw) (hb hby at_175) rfl ?_
        show Steps p.tables e below (T421.setTop (mkF m 178 _ [(.long (9223372036854775807 : Int64))])) t
        refine XS.lstore P422.here P422.x rfl (hb hby at_178) rfl (l' := #[.val (.int p0), .val (.int p1), .val (.int p2), .val (.int p3), .val (.int p4), .val (.int (4 : Int32)), .val (.int (0 : Int32)), .val (.int e0), .val (.int e1), .val (.int e2), .val (.int e3), .val (.ref b394), .val (.ref rr), .val (.long (9223372036854775807 : Int64)), .second, .val (.long (9223372036854775807 : Int64)), .second, .val (.long (9223372036854775807 : Int64)), .second, .unset, .unset, .unset, .unset, .unset, .unset, .unset, .unset, .unset, .unset, .unset, .unset, .unset, .unset, .unset, .unset, .unset, .unset, .unset, .unset, .unset, .unset, .unset]) rfl ?_
        show Steps p.tables e below (T421.setTop (mkF m 180 _ [])) t
        refine XS.iload P422.here P422.x rfl (hb hby at_180) rfl ?_
        show Steps p.tables e below (T421.setTop (mkF m 182 _ [(.int (0 : Int32))])) t
        refine XS.iconst P422.here P422.x rfl (hb hby at_182) ?_
        show Steps p.tables e below (T421.setTop (mkF m 183 _ [(.int (4 : Int32)), (.int (0 : Int32))])) t
        refine XS.icmpYes P422.here P422.x rfl (pc0 := 183) (pc' := 192) rfl (hb hby at_183) rfl (iiW_lt_t (by decide)) (by decide) (by decide) ?_
        show Steps p.tables e below (T421.setTop (mkF m 192 _ [])) t
        refine pLdcJ P422 (tw28 hw) (hb hby at_192) rfl ?_
        show Steps p.tables e below (T421.setTop (mkF m 195 _ [(.long (9223372036854775807 : Int64))])) t
        refine XS.lstore P422.here P422.x rfl (hb hby at_195) rfl (l' := #[.val (.int p0), .val (.int p1), .val (.int p2), .val (.int p3), .val (.int p4), .val (.int (4 : Int32)), .val (.int (0 : Int32)), .val (.int e0), .val (.int e1), .val (.int e2), .val (.int e3), .val (.ref b394), .val (.ref rr), .val (.long (9223372036854775807 : Int64)), .second, .val (.long (9223372036854775807 : Int64)), .second, .val (.long (9223372036854775807 : Int64)), .second, .val (.long (9223372036854775807 : Int64)), .second, .unset, .unset, .unset, .unset, .unset, .unset, .unset, .unset, .unset, .unset, .unset, .unset, .unset, .unset, .unset, .unset, .unset, .unset, .unset, .unset, .unset]) rfl ?_
        exact kk
      have f428 := (f425.keep K427)
      exact tail _ _ _ rr _ _ (4 : Int32) (0 : Int32) 0 of (9223372036854775807 : Int64) (9223372036854775807 : Int64) (9223372036854775807 : Int64) (9223372036854775807 : Int64) P422 (by decide) (by decide) f428 F424 A423 (by decide) (fun hh => absurd hh (by decide)) (fun hh => absurd hh (by decide)) (fun hh => absurd hh (by decide)) (fun hh => absurd hh (by decide))
    · have nlt0 : ¬ (nv < (1 : Int32)) := by rcases hnv with rfl | rfl | rfl | rfl <;> decide
      refine Done.stepL (pc' := 71) (st' := [(.int e0), (.double (FP.i2d e0)), (.ref b394)]) (fun t kk => ?_) ?_
      · show Steps p.tables e below (T404.setTop (mkF m 58 _ [])) t
        refine XS.iload P405.here P405.x rfl (hb hby at_58) rfl ?_
        show Steps p.tables e below (T404.setTop (mkF m 60 _ [(.int nv)])) t
        refine XS.iconst P405.here P405.x rfl (hb hby at_60) ?_
        show Steps p.tables e below (T404.setTop (mkF m 61 _ [(.int (1 : Int32)), (.int nv)])) t
        refine XS.icmpNo P405.here P405.x rfl (hb hby at_61) rfl (iiW_lt_f nlt0) ?_
        show Steps p.tables e below (T404.setTop (mkF m 64 _ [])) t
        refine XS.aload P405.here P405.x rfl (hb hby at_64) rfl rfl ?_
        show Steps p.tables e below (T404.setTop (mkF m 66 _ [(.ref b394)])) t
        refine XS.iload P405.here P405.x rfl (hb hby at_66) rfl ?_
        show Steps p.tables e below (T404.setTop (mkF m 68 _ [(.int e0), (.ref b394)])) t
        refine XS.i2dS P405.here P405.x rfl (hb hby at_68) rfl rfl ?_
        show Steps p.tables e below (T404.setTop (mkF m 69 _ [(.double (FP.i2d e0)), (.ref b394)])) t
        refine XS.iload P405.here P405.x rfl (hb hby at_69) rfl ?_
        exact kk
      have f439 := (X398.keep K420)
      refine wCallV P405 (m_offA l Z a0 hw b394 b406 b407 (0 : Int32) 4 0 (fun _ => (0 : UInt64)) (fun _ => (0 : Int)) (fun _ => (0 : Int32)) (4 : Int32) (FP.i2d e0) e0 e0.toInt (1 : Int32) h419 f439 F414 F415 F413 F416 A417 A418 (by first | assumption | exact Ne.symm (by assumption) | exact adr_ne (by omega)) (by first | assumption | exact Ne.symm (by assumption) | exact adr_ne (by omega)) q410 (by decide) rfl dK0 (i2d_int e0) (by decide) (by decide) (by decide)) (tw41 hw) (tw42 hw) (tw44 hw) (tw44 hw) (tw43 hw) (tw2 hw) (tw45 hw) (by decide) f439 (by rw [hml]; rfl) (lenOf pd_6 rfl) (argsL := [(.double (FP.i2d e0)), (.int e0)]) (rest := []) rfl rfl (W := 0) (Nat.le_of_eq rfl) (by decide) (by decide) (by decide) (by decide) (allS (Or.inr ge_b394) (allS (Or.inr ge_b406) (allS (Or.inr ge_b407) all0))) (hb hby at_71) rfl (k' := 3) (n' := 36) rfl rfl ?_
      rintro T429 h440 _ P430 K441 ⟨rfl, kf438, F431, F432, F433, F434, A435, dK437, A436⟩
      have szh440 : h419.size ≤ h440.size := K441.1
      generalize gK1 : (own_of 0 true (fun _ => (0 : Int)) (fun _ => (0 : Int32)) e0.toInt e0).1 = K1 at dK437
      generalize gJ1 : (own_of 0 true (fun _ => (0 : Int)) (fun _ => (0 : Int32)) e0.toInt e0).2 = J1 at A436
      show Done _ _ _ _ _ _ _ _ _ _ _ _ _ _ _ T429 (mkF m 74 _ [])
      rcases hnv with rfl | hnv
      · refine Done.stepL (pc' := 124) (st' := [(.ref b394)]) (fun t kk => ?_) ?_
        · show Steps p.tables e below (T429.setTop (mkF m 74 _ [])) t
          refine XS.iload P430.here P430.x rfl (hb hby at_74) rfl ?_
          show Steps p.tables e below (T429.setTop (mkF m 76 _ [(.int (1 : Int32))])) t
          refine XS.iconst P430.here P430.x rfl (hb hby at_76) ?_
          show Steps p.tables e below (T429.setTop (mkF m 77 _ [(.int (2 : Int32)), (.int (1 : Int32))])) t
          refine XS.icmpYes P430.here P430.x rfl (pc0 := 77) (pc' := 90) rfl (hb hby at_77) rfl (iiW_lt_t (by decide)) (by decide) (by decide) ?_
          show Steps p.tables e below (T429.setTop (mkF m 90 _ [])) t
          refine XS.iload P430.here P430.x rfl (hb hby at_90) rfl ?_
          show Steps p.tables e below (T429.setTop (mkF m 92 _ [(.int (1 : Int32))])) t
          refine XS.iconst P430.here P430.x rfl (hb hby at_92) ?_
          show Steps p.tables e below (T429.setTop (mkF m 93 _ [(.int (3 : Int32)), (.int (1 : Int32))])) t
          refine XS.icmpYes P430.here P430.x rfl (pc0 := 93) (pc' := 106) rfl (hb hby at_93) rfl (iiW_lt_t (by decide)) (by decide) (by decide) ?_
          show Steps p.tables e below (T429.setTop (mkF m 106 _ [])) t
          refine XS.iload P430.here P430.x rfl (hb hby at_106) rfl ?_
          show Steps p.tables e below (T429.setTop (mkF m 108 _ [(.int (1 : Int32))])) t
          refine XS.iconst P430.here P430.x rfl (hb hby at_108) ?_
          show Steps p.tables e below (T429.setTop (mkF m 109 _ [(.int (4 : Int32)), (.int (1 : Int32))])) t
          refine XS.icmpYes P430.here P430.x rfl (pc0 := 109) (pc' := 122) rfl (hb hby at_109) rfl (iiW_lt_t (by decide)) (by decide) (by decide) ?_
          show Steps p.tables e below (T429.setTop (mkF m 122 _ [])) t
          refine XS.aload P430.here P430.x rfl (hb hby at_122) rfl rfl ?_
          exact kk
        have f446 := (f439.keep K441)
        refine wCallV P430 (m_ra l Z a0 hw b394 b406 b407 (1 : Int32) 4 1 kf438 K1 J1 (4 : Int32) h440 f446 F432 F433 F431 F434 A435 A436 (by first | assumption | exact Ne.symm (by assumption) | exact adr_ne (by omega)) (by first | assumption | exact Ne.symm (by assumption) | exact adr_ne (by omega)) q410 (by decide) rfl dK437 (by decide) (by decide)) (tw21 hw) (tw22 hw) (tw24 hw) (tw24 hw) (tw23 hw) (tw2 hw) (tw25 hw) (by decide) f446 (by rw [hml]; rfl) (lenOf pd_5 rfl) (argsL := []) (rest := []) rfl rfl (W := 0) (Nat.le_of_eq rfl) (by decide) (by decide) (by decide) (by decide) (allS (Or.inr ge_b394) (allS (Or.inr ge_b406) (allS (Or.inr ge_b407) all0))) (hb hby at_124) rfl (k' := 4) (n' := 40) rfl rfl ?_
        rintro T442 h447 _ P443 K448 ⟨rr, of, rfl, ltr, F445, A444, hof⟩
        have szh447 : h440.size ≤ h447.size := K448.1
        show Done _ _ _ _ _ _ _ _ _ _ _ _ _ _ _ T442 (mkF m 127 _ [(.ref rr)])
        refine Done.step (T' := T442) (g' := (mkF m 197 #[.val (.int p0), .val (.int p1), .val (.int p2), .val (.int p3), .val (.int p4), .val (.int (4 : Int32)), .val (.int (1 : Int32)), .val (.int e0), .val (.int e1), .val (.int e2), .val (.int e3), .val (.ref b394), .val (.ref rr), .val (.long e0.toInt64), .second, .val (.long (9223372036854775807 : Int64)), .second, .val (.long (9223372036854775807 : Int64)), .second, .val (.long (9223372036854775807 : Int64)), .second, .unset, .unset, .unset, .unset, .unset, .unset, .unset, .unset, .unset, .unset, .unset, .unset, .unset, .unset, .unset, .unset, .unset, .unset, .unset, .unset, .unset] [])) (fun t kk => ?_) ?_
        · show Steps p.tables e below (T442.setTop (mkF m 127 _ [(.ref rr)])) t
          refine XS.astore P443.here P443.x rfl (hb hby at_127) rfl rfl (l' := #[.val (.int p0), .val (.int p1), .val (.int p2), .val (.int p3), .val (.int p4), .val (.int (4 : Int32)), .val (.int (1 : Int32)), .val (.int e0), .val (.int e1), .val (.int e2), .val (.int e3), .val (.ref b394), .val (.ref rr), .unset, .unset, .unset, .unset, .unset, .unset, .unset, .unset, .unset, .unset, .unset, .unset, .unset, .unset, .unset, .unset, .unset, .unset, .unset, .unset, .unset, .unset, .unset, .unset, .unset, .unset, .unset, .unset, .unset]) rfl ?_
          show Steps p.tables e below (T442.setTop (mkF m 129 _ [])) t
          refine XS.iload P443.here P443.x rfl (hb hby at_129) rfl ?_
          show Steps p.tables e below (T442.setTop (mkF m 131 _ [(.int (1 : Int32))])) t
          refine XS.iconst P443.here P443.x rfl (hb hby at_131) ?_
          show Steps p.tables e below (T442.setTop (mkF m 132 _ [(.int (1 : Int32)), (.int (1 : Int32))])) t
          refine XS.icmpNo P443.here P443.x rfl (hb hby at_132) rfl (iiW_lt_f (by decide)) ?_
          show Steps p.tables e below (T442.setTop (mkF m 135 _ [])) t
          refine XS.iload P443.here P443.x rfl (hb hby at_135) rfl ?_
          show Steps p.tables e below (T442.setTop (mkF m 137 _ [(.int e0)])) t
          refine XS.i2l P443.here P443.x rfl (hb hby at_137) rfl ?_
          show Steps p.tables e below (T442.setTop (mkF m 138 _ [(.long e0.toInt64)])) t
          refine XS.goto P443.here P443.x rfl (pc0 := 138) (pc' := 144) rfl (hb hby at_138) (by decide) (by decide) ?_
          show Steps p.tables e below (T442.setTop (mkF m 144 _ [(.long e0.toInt64)])) t
          refine XS.lstore P443.here P443.x rfl (hb hby at_144) rfl (l' := #[.val (.int p0), .val (.int p1), .val (.int p2), .val (.int p3), .val (.int p4), .val (.int (4 : Int32)), .val (.int (1 : Int32)), .val (.int e0), .val (.int e1), .val (.int e2), .val (.int e3), .val (.ref b394), .val (.ref rr), .val (.long e0.toInt64), .second, .unset, .unset, .unset, .unset, .unset, .unset, .unset, .unset, .unset, .unset, .unset, .unset, .unset, .unset, .unset, .unset, .unset, .unset, .unset, .unset, .unset, .unset, .unset, .unset, .unset, .unset, .unset]) rfl ?_
          show Steps p.tables e below (T442.setTop (mkF m 146 _ [])) t
          refine XS.iload P443.here P443.x rfl (hb hby at_146) rfl ?_
          show Steps p.tables e below (T442.setTop (mkF m 148 _ [(.int (1 : Int32))])) t
          refine XS.iconst P443.here P443.x rfl (hb hby at_148) ?_
          show Steps p.tables e below (T442.setTop (mkF m 149 _ [(.int (2 : Int32)), (.int (1 : Int32))])) t
          refine XS.icmpYes P443.here P443.x rfl (pc0 := 149) (pc' := 158) rfl (hb hby at_149) rfl (iiW_lt_t (by decide)) (by decide) (by decide) ?_
          show Steps p.tables e below (T442.setTop (mkF m 158 _ [])) t
          refine pLdcJ P443 (tw28 hw) (hb hby at_158) rfl ?_
          show Steps p.tables e below (T442.setTop (mkF m 161 _ [(.long (9223372036854775807 : Int64))])) t
          refine XS.lstore P443.here P443.x rfl (hb hby at_161) rfl (l' := #[.val (.int p0), .val (.int p1), .val (.int p2), .val (.int p3), .val (.int p4), .val (.int (4 : Int32)), .val (.int (1 : Int32)), .val (.int e0), .val (.int e1), .val (.int e2), .val (.int e3), .val (.ref b394), .val (.ref rr), .val (.long e0.toInt64), .second, .val (.long (9223372036854775807 : Int64)), .second, .unset, .unset, .unset, .unset, .unset, .unset, .unset, .unset, .unset, .unset, .unset, .unset, .unset, .unset, .unset, .unset, .unset, .unset, .unset, .unset, .unset, .unset, .unset, .unset, .unset]) rfl ?_
          show Steps p.tables e below (T442.setTop (mkF m 163 _ [])) t
          refine XS.iload P443.here P443.x rfl (hb hby at_163) rfl ?_
          show Steps p.tables e below (T442.setTop (mkF m 165 _ [(.int (1 : Int32))])) t
          refine XS.iconst P443.here P443.x rfl (hb hby at_165) ?_
          show Steps p.tables e below (T442.setTop (mkF m 166 _ [(.int (3 : Int32)), (.int (1 : Int32))])) t
          refine XS.icmpYes P443.here P443.x rfl (pc0 := 166) (pc' := 175) rfl (hb hby at_166) rfl (iiW_lt_t (by decide)) (by decide) (by decide) ?_
          show Steps p.tables e below (T442.setTop (mkF m 175 _ [])) t
          refine pLdcJ P443 (tw28 hw) (hb hby at_175) rfl ?_
          show Steps p.tables e below (T442.setTop (mkF m 178 _ [(.long (9223372036854775807 : Int64))])) t
          refine XS.lstore P443.here P443.x rfl (hb hby at_178) rfl (l' := #[.val (.int p0), .val (.int p1), .val (.int p2), .val (.int p3), .val (.int p4), .val (.int (4 : Int32)), .val (.int (1 : Int32)), .val (.int e0), .val (.int e1), .val (.int e2), .val (.int e3), .val (.ref b394), .val (.ref rr), .val (.long e0.toInt64), .second, .val (.long (9223372036854775807 : Int64)), .second, .val (.long (9223372036854775807 : Int64)), .second, .unset, .unset, .unset, .unset, .unset, .unset, .unset, .unset, .unset, .unset, .unset, .unset, .unset, .unset, .unset, .unset, .unset, .unset, .unset, .unset, .unset, .unset, .unset]) rfl ?_
          show Steps p.tables e below (T442.setTop (mkF m 180 _ [])) t
          refine XS.iload P443.here P443.x rfl (hb hby at_180) rfl ?_
          show Steps p.tables e below (T442.setTop (mkF m 182 _ [(.int (1 : Int32))])) t
          refine XS.iconst P443.here P443.x rfl (hb hby at_182) ?_
          show Steps p.tables e below (T442.setTop (mkF m 183 _ [(.int (4 : Int32)), (.int (1 : Int32))])) t
          refine XS.icmpYes P443.here P443.x rfl (pc0 := 183) (pc' := 192) rfl (hb hby at_183) rfl (iiW_lt_t (by decide)) (by decide) (by decide) ?_
          show Steps p.tables e below (T442.setTop (mkF m 192 _ [])) t
          refine pLdcJ P443 (tw28 hw) (hb hby at_192) rfl ?_
          show Steps p.tables e below (T442.setTop (mkF m 195 _ [(.long (9223372036854775807 : Int64))])) t
          refine XS.lstore P443.here P443.x rfl (hb hby at_195) rfl (l' := #[.val (.int p0), .val (.int p1), .val (.int p2), .val (.int p3), .val (.int p4), .val (.int (4 : Int32)), .val (.int (1 : Int32)), .val (.int e0), .val (.int e1), .val (.int e2), .val (.int e3), .val (.ref b394), .val (.ref rr), .val (.long e0.toInt64), .second, .val (.long (9223372036854775807 : Int64)), .second, .val (.long (9223372036854775807 : Int64)), .second, .val (.long (9223372036854775807 : Int64)), .second, .unset, .unset, .unset, .unset, .unset, .unset, .unset, .unset, .unset, .unset, .unset, .unset, .unset, .unset, .unset, .unset, .unset, .unset, .unset, .unset, .unset]) rfl ?_
          exact kk
        have f449 := (f446.keep K448)
        have fin := own_fin_4_1 e0  K1 J1 gK1 gJ1 of hof
        exact tail _ _ _ rr _ _ (4 : Int32) (1 : Int32) 1 of e0.toInt64 (9223372036854775807 : Int64) (9223372036854775807 : Int64) (9223372036854775807 : Int64) P443 (by decide) (by decide) f449 F445 A444 (by decide) (fun _ => fin) (fun hh => absurd hh (by decide)) (fun hh => absurd hh (by decide)) (fun hh => absurd hh (by decide))
      · have nlt1 : ¬ (nv < (2 : Int32)) := by rcases hnv with rfl | rfl | rfl <;> decide
        refine Done.stepL (pc' := 87) (st' := [(.int e1), (.double (FP.i2d e1)), (.ref b394)]) (fun t kk => ?_) ?_
        · show Steps p.tables e below (T429.setTop (mkF m 74 _ [])) t
          refine XS.iload P430.here P430.x rfl (hb hby at_74) rfl ?_
          show Steps p.tables e below (T429.setTop (mkF m 76 _ [(.int nv)])) t
          refine XS.iconst P430.here P430.x rfl (hb hby at_76) ?_
          show Steps p.tables e below (T429.setTop (mkF m 77 _ [(.int (2 : Int32)), (.int nv)])) t
          refine XS.icmpNo P430.here P430.x rfl (hb hby at_77) rfl (iiW_lt_f nlt1) ?_
          show Steps p.tables e below (T429.setTop (mkF m 80 _ [])) t
          refine XS.aload P430.here P430.x rfl (hb hby at_80) rfl rfl ?_
          show Steps p.tables e below (T429.setTop (mkF m 82 _ [(.ref b394)])) t
          refine XS.iload P430.here P430.x rfl (hb hby at_82) rfl ?_
          show Steps p.tables e below (T429.setTop (mkF m 84 _ [(.int e1), (.ref b394)])) t
          refine XS.i2dS P430.here P430.x rfl (hb hby at_84) rfl rfl ?_
          show Steps p.tables e below (T429.setTop (mkF m 85 _ [(.double (FP.i2d e1)), (.ref b394)])) t
          refine XS.iload P430.here P430.x rfl (hb hby at_85) rfl ?_
          exact kk
        have f460 := (f439.keep K441)
        refine wCallV P430 (m_offA l Z a0 hw b394 b406 b407 (1 : Int32) 4 1 kf438 K1 J1 (4 : Int32) (FP.i2d e1) e1 e1.toInt (2 : Int32) h440 f460 F432 F433 F431 F434 A435 A436 (by first | assumption | exact Ne.symm (by assumption) | exact adr_ne (by omega)) (by first | assumption | exact Ne.symm (by assumption) | exact adr_ne (by omega)) q410 (by decide) rfl dK437 (i2d_int e1) (by decide) (by decide) (by decide)) (tw41 hw) (tw42 hw) (tw44 hw) (tw44 hw) (tw43 hw) (tw2 hw) (tw45 hw) (by decide) f460 (by rw [hml]; rfl) (lenOf pd_6 rfl) (argsL := [(.double (FP.i2d e1)), (.int e1)]) (rest := []) rfl rfl (W := 0) (Nat.le_of_eq rfl) (by decide) (by decide) (by decide) (by decide) (allS (Or.inr ge_b394) (allS (Or.inr ge_b406) (allS (Or.inr ge_b407) all0))) (hb hby at_87) rfl (k' := 3) (n' := 36) rfl rfl ?_
        rintro T450 h461 _ P451 K462 ⟨rfl, kf459, F452, F453, F454, F455, A456, dK458, A457⟩
        have szh461 : h440.size ≤ h461.size := K462.1
        generalize gK2 : (own_of 1 true K1 J1 e1.toInt e1).1 = K2 at dK458
        generalize gJ2 : (own_of 1 true K1 J1 e1.toInt e1).2 = J2 at A457
        show Done _ _ _ _ _ _ _ _ _ _ _ _ _ _ _ T450 (mkF m 90 _ [])
        rcases hnv with rfl | hnv
        · refine Done.stepL (pc' := 124) (st' := [(.ref b394)]) (fun t kk => ?_) ?_
          · show Steps p.tables e below (T450.setTop (mkF m 90 _ [])) t
            refine XS.iload P451.here P451.x rfl (hb hby at_90) rfl ?_
            show Steps p.tables e below (T450.setTop (mkF m 92 _ [(.int (2 : Int32))])) t
            refine XS.iconst P451.here P451.x rfl (hb hby at_92) ?_
            show Steps p.tables e below (T450.setTop (mkF m 93 _ [(.int (3 : Int32)), (.int (2 : Int32))])) t
            refine XS.icmpYes P451.here P451.x rfl (pc0 := 93) (pc' := 106) rfl (hb hby at_93) rfl (iiW_lt_t (by decide)) (by decide) (by decide) ?_
            show Steps p.tables e below (T450.setTop (mkF m 106 _ [])) t
            refine XS.iload P451.here P451.x rfl (hb hby at_106) rfl ?_
            show Steps p.tables e below (T450.setTop (mkF m 108 _ [(.int (2 : Int32))])) t
            refine XS.iconst P451.here P451.x rfl (hb hby at_108) ?_
            show Steps p.tables e below (T450.setTop (mkF m 109 _ [(.int (4 : Int32)), (.int (2 : Int32))])) t
            refine XS.icmpYes P451.here P451.x rfl (pc0 := 109) (pc' := 122) rfl (hb hby at_109) rfl (iiW_lt_t (by decide)) (by decide) (by decide) ?_
            show Steps p.tables e below (T450.setTop (mkF m 122 _ [])) t
            refine XS.aload P451.here P451.x rfl (hb hby at_122) rfl rfl ?_
            exact kk
          have f467 := (f460.keep K462)
          refine wCallV P451 (m_ra l Z a0 hw b394 b406 b407 (2 : Int32) 4 2 kf459 K2 J2 (4 : Int32) h461 f467 F453 F454 F452 F455 A456 A457 (by first | assumption | exact Ne.symm (by assumption) | exact adr_ne (by omega)) (by first | assumption | exact Ne.symm (by assumption) | exact adr_ne (by omega)) q410 (by decide) rfl dK458 (by decide) (by decide)) (tw21 hw) (tw22 hw) (tw24 hw) (tw24 hw) (tw23 hw) (tw2 hw) (tw25 hw) (by decide) f467 (by rw [hml]; rfl) (lenOf pd_5 rfl) (argsL := []) (rest := []) rfl rfl (W := 0) (Nat.le_of_eq rfl) (by decide) (by decide) (by decide) (by decide) (allS (Or.inr ge_b394) (allS (Or.inr ge_b406) (allS (Or.inr ge_b407) all0))) (hb hby at_124) rfl (k' := 4) (n' := 40) rfl rfl ?_
          rintro T463 h468 _ P464 K469 ⟨rr, of, rfl, ltr, F466, A465, hof⟩
          have szh468 : h461.size ≤ h468.size := K469.1
          show Done _ _ _ _ _ _ _ _ _ _ _ _ _ _ _ T463 (mkF m 127 _ [(.ref rr)])
          refine Done.step (T' := T463) (g' := (mkF m 197 #[.val (.int p0), .val (.int p1), .val (.int p2), .val (.int p3), .val (.int p4), .val (.int (4 : Int32)), .val (.int (2 : Int32)), .val (.int e0), .val (.int e1), .val (.int e2), .val (.int e3), .val (.ref b394), .val (.ref rr), .val (.long e0.toInt64), .second, .val (.long e1.toInt64), .second, .val (.long (9223372036854775807 : Int64)), .second, .val (.long (9223372036854775807 : Int64)), .second, .unset, .unset, .unset, .unset, .unset, .unset, .unset, .unset, .unset, .unset, .unset, .unset, .unset, .unset, .unset, .unset, .unset, .unset, .unset, .unset, .unset] [])) (fun t kk => ?_) ?_
          · show Steps p.tables e below (T463.setTop (mkF m 127 _ [(.ref rr)])) t
            refine XS.astore P464.here P464.x rfl (hb hby at_127) rfl rfl (l' := #[.val (.int p0), .val (.int p1), .val (.int p2), .val (.int p3), .val (.int p4), .val (.int (4 : Int32)), .val (.int (2 : Int32)), .val (.int e0), .val (.int e1), .val (.int e2), .val (.int e3), .val (.ref b394), .val (.ref rr), .unset, .unset, .unset, .unset, .unset, .unset, .unset, .unset, .unset, .unset, .unset, .unset, .unset, .unset, .unset, .unset, .unset, .unset, .unset, .unset, .unset, .unset, .unset, .unset, .unset, .unset, .unset, .unset, .unset]) rfl ?_
            show Steps p.tables e below (T463.setTop (mkF m 129 _ [])) t
            refine XS.iload P464.here P464.x rfl (hb hby at_129) rfl ?_
            show Steps p.tables e below (T463.setTop (mkF m 131 _ [(.int (2 : Int32))])) t
            refine XS.iconst P464.here P464.x rfl (hb hby at_131) ?_
            show Steps p.tables e below (T463.setTop (mkF m 132 _ [(.int (1 : Int32)), (.int (2 : Int32))])) t
            refine XS.icmpNo P464.here P464.x rfl (hb hby at_132) rfl (iiW_lt_f (by decide)) ?_
            show Steps p.tables e below (T463.setTop (mkF m 135 _ [])) t
            refine XS.iload P464.here P464.x rfl (hb hby at_135) rfl ?_
            show Steps p.tables e below (T463.setTop (mkF m 137 _ [(.int e0)])) t
            refine XS.i2l P464.here P464.x rfl (hb hby at_137) rfl ?_
            show Steps p.tables e below (T463.setTop (mkF m 138 _ [(.long e0.toInt64)])) t
            refine XS.goto P464.here P464.x rfl (pc0 := 138) (pc' := 144) rfl (hb hby at_138) (by decide) (by decide) ?_
            show Steps p.tables e below (T463.setTop (mkF m 144 _ [(.long e0.toInt64)])) t
            refine XS.lstore P464.here P464.x rfl (hb hby at_144) rfl (l' := #[.val (.int p0), .val (.int p1), .val (.int p2), .val (.int p3), .val (.int p4), .val (.int (4 : Int32)), .val (.int (2 : Int32)), .val (.int e0), .val (.int e1), .val (.int e2), .val (.int e3), .val (.ref b394), .val (.ref rr), .val (.long e0.toInt64), .second, .unset, .unset, .unset, .unset, .unset, .unset, .unset, .unset, .unset, .unset, .unset, .unset, .unset, .unset, .unset, .unset, .unset, .unset, .unset, .unset, .unset, .unset, .unset, .unset, .unset, .unset, .unset]) rfl ?_
            show Steps p.tables e below (T463.setTop (mkF m 146 _ [])) t
            refine XS.iload P464.here P464.x rfl (hb hby at_146) rfl ?_
            show Steps p.tables e below (T463.setTop (mkF m 148 _ [(.int (2 : Int32))])) t
            refine XS.iconst P464.here P464.x rfl (hb hby at_148) ?_
            show Steps p.tables e below (T463.setTop (mkF m 149 _ [(.int (2 : Int32)), (.int (2 : Int32))])) t
            refine XS.icmpNo P464.here P464.x rfl (hb hby at_149) rfl (iiW_lt_f (by decide)) ?_
            show Steps p.tables e below (T463.setTop (mkF m 152 _ [])) t
            refine XS.iload P464.here P464.x rfl (hb hby at_152) rfl ?_
            show Steps p.tables e below (T463.setTop (mkF m 154 _ [(.int e1)])) t
            refine XS.i2l P464.here P464.x rfl (hb hby at_154) rfl ?_
            show Steps p.tables e below (T463.setTop (mkF m 155 _ [(.long e1.toInt64)])) t
            refine XS.goto P464.here P464.x rfl (pc0 := 155) (pc' := 161) rfl (hb hby at_155) (by decide) (by decide) ?_
            show Steps p.tables e below (T463.setTop (mkF m 161 _ [(.long e1.toInt64)])) t
            refine XS.lstore P464.here P464.x rfl (hb hby at_161) rfl (l' := #[.val (.int p0), .val (.int p1), .val (.int p2), .val (.int p3), .val (.int p4), .val (.int (4 : Int32)), .val (.int (2 : Int32)), .val (.int e0), .val (.int e1), .val (.int e2), .val (.int e3), .val (.ref b394), .val (.ref rr), .val (.long e0.toInt64), .second, .val (.long e1.toInt64), .second, .unset, .unset, .unset, .unset, .unset, .unset, .unset, .unset, .unset, .unset, .unset, .unset, .unset, .unset, .unset, .unset, .unset, .unset, .unset, .unset, .unset, .unset, .unset, .unset, .unset]) rfl ?_
            show Steps p.tables e below (T463.setTop (mkF m 163 _ [])) t
            refine XS.iload P464.here P464.x rfl (hb hby at_163) rfl ?_
            show Steps p.tables e below (T463.setTop (mkF m 165 _ [(.int (2 : Int32))])) t
            refine XS.iconst P464.here P464.x rfl (hb hby at_165) ?_
            show Steps p.tables e below (T463.setTop (mkF m 166 _ [(.int (3 : Int32)), (.int (2 : Int32))])) t
            refine XS.icmpYes P464.here P464.x rfl (pc0 := 166) (pc' := 175) rfl (hb hby at_166) rfl (iiW_lt_t (by decide)) (by decide) (by decide) ?_
            show Steps p.tables e below (T463.setTop (mkF m 175 _ [])) t
            refine pLdcJ P464 (tw28 hw) (hb hby at_175) rfl ?_
            show Steps p.tables e below (T463.setTop (mkF m 178 _ [(.long (9223372036854775807 : Int64))])) t
            refine XS.lstore P464.here P464.x rfl (hb hby at_178) rfl (l' := #[.val (.int p0), .val (.int p1), .val (.int p2), .val (.int p3), .val (.int p4), .val (.int (4 : Int32)), .val (.int (2 : Int32)), .val (.int e0), .val (.int e1), .val (.int e2), .val (.int e3), .val (.ref b394), .val (.ref rr), .val (.long e0.toInt64), .second, .val (.long e1.toInt64), .second, .val (.long (9223372036854775807 : Int64)), .second, .unset, .unset, .unset, .unset, .unset, .unset, .unset, .unset, .unset, .unset, .unset, .unset, .unset, .unset, .unset, .unset, .unset, .unset, .unset, .unset, .unset, .unset, .unset]) rfl ?_
            show Steps p.tables e below (T463.setTop (mkF m 180 _ [])) t
            refine XS.iload P464.here P464.x rfl (hb hby at_180) rfl ?_
            show Steps p.tables e below (T463.setTop (mkF m 182 _ [(.int (2 : Int32))])) t
            refine XS.iconst P464.here P464.x rfl (hb hby at_182) ?_
            show Steps p.tables e below (T463.setTop (mkF m 183 _ [(.int (4 : Int32)), (.int (2 : Int32))])) t
            refine XS.icmpYes P464.here P464.x rfl (pc0 := 183) (pc' := 192) rfl (hb hby at_183) rfl (iiW_lt_t (by decide)) (by decide) (by decide) ?_
            show Steps p.tables e below (T463.setTop (mkF m 192 _ [])) t
            refine pLdcJ P464 (tw28 hw) (hb hby at_192) rfl ?_
            show Steps p.tables e below (T463.setTop (mkF m 195 _ [(.long (9223372036854775807 : Int64))])) t
            refine XS.lstore P464.here P464.x rfl (hb hby at_195) rfl (l' := #[.val (.int p0), .val (.int p1), .val (.int p2), .val (.int p3), .val (.int p4), .val (.int (4 : Int32)), .val (.int (2 : Int32)), .val (.int e0), .val (.int e1), .val (.int e2), .val (.int e3), .val (.ref b394), .val (.ref rr), .val (.long e0.toInt64), .second, .val (.long e1.toInt64), .second, .val (.long (9223372036854775807 : Int64)), .second, .val (.long (9223372036854775807 : Int64)), .second, .unset, .unset, .unset, .unset, .unset, .unset, .unset, .unset, .unset, .unset, .unset, .unset, .unset, .unset, .unset, .unset, .unset, .unset, .unset, .unset, .unset]) rfl ?_
            exact kk
          have f470 := (f467.keep K469)
          have fin := own_fin_4_2 e0 e1 d01 K1 J1 gK1 gJ1 K2 J2 gK2 gJ2 of hof
          exact tail _ _ _ rr _ _ (4 : Int32) (2 : Int32) 2 of e0.toInt64 e1.toInt64 (9223372036854775807 : Int64) (9223372036854775807 : Int64) P464 (by decide) (by decide) f470 F466 A465 (by decide) (fun _ => fin.1) (fun _ => fin.2) (fun hh => absurd hh (by decide)) (fun hh => absurd hh (by decide))
        · have nlt2 : ¬ (nv < (3 : Int32)) := by rcases hnv with rfl | rfl <;> decide
          refine Done.stepL (pc' := 103) (st' := [(.int e2), (.double (FP.i2d e2)), (.ref b394)]) (fun t kk => ?_) ?_
          · show Steps p.tables e below (T450.setTop (mkF m 90 _ [])) t
            refine XS.iload P451.here P451.x rfl (hb hby at_90) rfl ?_
            show Steps p.tables e below (T450.setTop (mkF m 92 _ [(.int nv)])) t
            refine XS.iconst P451.here P451.x rfl (hb hby at_92) ?_
            show Steps p.tables e below (T450.setTop (mkF m 93 _ [(.int (3 : Int32)), (.int nv)])) t
            refine XS.icmpNo P451.here P451.x rfl (hb hby at_93) rfl (iiW_lt_f nlt2) ?_
            show Steps p.tables e below (T450.setTop (mkF m 96 _ [])) t
            refine XS.aload P451.here P451.x rfl (hb hby at_96) rfl rfl ?_
            show Steps p.tables e below (T450.setTop (mkF m 98 _ [(.ref b394)])) t
            refine XS.iload P451.here P451.x rfl (hb hby at_98) rfl ?_
            show Steps p.tables e below (T450.setTop (mkF m 100 _ [(.int e2), (.ref b394)])) t
            refine XS.i2dS P451.here P451.x rfl (hb hby at_100) rfl rfl ?_
            show Steps p.tables e below (T450.setTop (mkF m 101 _ [(.double (FP.i2d e2)), (.ref b394)])) t
            refine XS.iload P451.here P451.x rfl (hb hby at_101) rfl ?_
            exact kk
          have f481 := (f460.keep K462)
          refine wCallV P451 (m_offA l Z a0 hw b394 b406 b407 (2 : Int32) 4 2 kf459 K2 J2 (4 : Int32) (FP.i2d e2) e2 e2.toInt (3 : Int32) h461 f481 F453 F454 F452 F455 A456 A457 (by first | assumption | exact Ne.symm (by assumption) | exact adr_ne (by omega)) (by first | assumption | exact Ne.symm (by assumption) | exact adr_ne (by omega)) q410 (by decide) rfl dK458 (i2d_int e2) (by decide) (by decide) (by decide)) (tw41 hw) (tw42 hw) (tw44 hw) (tw44 hw) (tw43 hw) (tw2 hw) (tw45 hw) (by decide) f481 (by rw [hml]; rfl) (lenOf pd_6 rfl) (argsL := [(.double (FP.i2d e2)), (.int e2)]) (rest := []) rfl rfl (W := 0) (Nat.le_of_eq rfl) (by decide) (by decide) (by decide) (by decide) (allS (Or.inr ge_b394) (allS (Or.inr ge_b406) (allS (Or.inr ge_b407) all0))) (hb hby at_103) rfl (k' := 3) (n' := 36) rfl rfl ?_
          rintro T471 h482 _ P472 K483 ⟨rfl, kf480, F473, F474, F475, F476, A477, dK479, A478⟩
          have szh482 : h461.size ≤ h482.size := K483.1
          generalize gK3 : (own_of 2 true K2 J2 e2.toInt e2).1 = K3 at dK479
          generalize gJ3 : (own_of 2 true K2 J2 e2.toInt e2).2 = J3 at A478
          show Done _ _ _ _ _ _ _ _ _ _ _ _ _ _ _ T471 (mkF m 106 _ [])
          rcases hnv with rfl | rfl
          · refine Done.stepL (pc' := 124) (st' := [(.ref b394)]) (fun t kk => ?_) ?_
            · show Steps p.tables e below (T471.setTop (mkF m 106 _ [])) t
              refine XS.iload P472.here P472.x rfl (hb hby at_106) rfl ?_
              show Steps p.tables e below (T471.setTop (mkF m 108 _ [(.int (3 : Int32))])) t
              refine XS.iconst P472.here P472.x rfl (hb hby at_108) ?_
              show Steps p.tables e below (T471.setTop (mkF m 109 _ [(.int (4 : Int32)), (.int (3 : Int32))])) t
              refine XS.icmpYes P472.here P472.x rfl (pc0 := 109) (pc' := 122) rfl (hb hby at_109) rfl (iiW_lt_t (by decide)) (by decide) (by decide) ?_
              show Steps p.tables e below (T471.setTop (mkF m 122 _ [])) t
              refine XS.aload P472.here P472.x rfl (hb hby at_122) rfl rfl ?_
              exact kk
            have f488 := (f481.keep K483)
            refine wCallV P472 (m_ra l Z a0 hw b394 b406 b407 (3 : Int32) 4 3 kf480 K3 J3 (4 : Int32) h482 f488 F474 F475 F473 F476 A477 A478 (by first | assumption | exact Ne.symm (by assumption) | exact adr_ne (by omega)) (by first | assumption | exact Ne.symm (by assumption) | exact adr_ne (by omega)) q410 (by decide) rfl dK479 (by decide) (by decide)) (tw21 hw) (tw22 hw) (tw24 hw) (tw24 hw) (tw23 hw) (tw2 hw) (tw25 hw) (by decide) f488 (by rw [hml]; rfl) (lenOf pd_5 rfl) (argsL := []) (rest := []) rfl rfl (W := 0) (Nat.le_of_eq rfl) (by decide) (by decide) (by decide) (by decide) (allS (Or.inr ge_b394) (allS (Or.inr ge_b406) (allS (Or.inr ge_b407) all0))) (hb hby at_124) rfl (k' := 4) (n' := 40) rfl rfl ?_
            rintro T484 h489 _ P485 K490 ⟨rr, of, rfl, ltr, F487, A486, hof⟩
            have szh489 : h482.size ≤ h489.size := K490.1
            show Done _ _ _ _ _ _ _ _ _ _ _ _ _ _ _ T484 (mkF m 127 _ [(.ref rr)])
            refine Done.step (T' := T484) (g' := (mkF m 197 #[.val (.int p0), .val (.int p1), .val (.int p2), .val (.int p3), .val (.int p4), .val (.int (4 : Int32)), .val (.int (3 : Int32)), .val (.int e0), .val (.int e1), .val (.int e2), .val (.int e3), .val (.ref b394), .val (.ref rr), .val (.long e0.toInt64), .second, .val (.long e1.toInt64), .second, .val (.long e2.toInt64), .second, .val (.long (9223372036854775807 : Int64)), .second, .unset, .unset, .unset, .unset, .unset, .unset, .unset, .unset, .unset, .unset, .unset, .unset, .unset, .unset, .unset, .unset, .unset, .unset, .unset, .unset, .unset] [])) (fun t kk => ?_) ?_
            · show Steps p.tables e below (T484.setTop (mkF m 127 _ [(.ref rr)])) t
              refine XS.astore P485.here P485.x rfl (hb hby at_127) rfl rfl (l' := #[.val (.int p0), .val (.int p1), .val (.int p2), .val (.int p3), .val (.int p4), .val (.int (4 : Int32)), .val (.int (3 : Int32)), .val (.int e0), .val (.int e1), .val (.int e2), .val (.int e3), .val (.ref b394), .val (.ref rr), .unset, .unset, .unset, .unset, .unset, .unset, .unset, .unset, .unset, .unset, .unset, .unset, .unset, .unset, .unset, .unset, .unset, .unset, .unset, .unset, .unset, .unset, .unset, .unset, .unset, .unset, .unset, .unset, .unset]) rfl ?_
              show Steps p.tables e below (T484.setTop (mkF m 129 _ [])) t
              refine XS.iload P485.here P485.x rfl (hb hby at_129) rfl ?_
              show Steps p.tables e below (T484.setTop (mkF m 131 _ [(.int (3 : Int32))])) t
              refine XS.iconst P485.here P485.x rfl (hb hby at_131) ?_
              show Steps p.tables e below (T484.setTop (mkF m 132 _ [(.int (1 : Int32)), (.int (3 : Int32))])) t
              refine XS.icmpNo P485.here P485.x rfl (hb hby at_132) rfl (iiW_lt_f (by decide)) ?_
              show Steps p.tables e below (T484.setTop (mkF m 135 _ [])) t
              refine XS.iload P485.here P485.x rfl (hb hby at_135) rfl ?_
              show Steps p.tables e below (T484.setTop (mkF m 137 _ [(.int e0)])) t
              refine XS.i2l P485.here P485.x rfl (hb hby at_137) rfl ?_
              show Steps p.tables e below (T484.setTop (mkF m 138 _ [(.long e0.toInt64)])) t
              refine XS.goto P485.here P485.x rfl (pc0 := 138) (pc' := 144) rfl (hb hby at_138) (by decide) (by decide) ?_
              show Steps p.tables e below (T484.setTop (mkF m 144 _ [(.long e0.toInt64)])) t
              refine XS.lstore P485.here P485.x rfl (hb hby at_144) rfl (l' := #[.val (.int p0), .val (.int p1), .val (.int p2), .val (.int p3), .val (.int p4), .val (.int (4 : Int32)), .val (.int (3 : Int32)), .val (.int e0), .val (.int e1), .val (.int e2), .val (.int e3), .val (.ref b394), .val (.ref rr), .val (.long e0.toInt64), .second, .unset, .unset, .unset, .unset, .unset, .unset, .unset, .unset, .unset, .unset, .unset, .unset, .unset, .unset, .unset, .unset, .unset, .unset, .unset, .unset, .unset, .unset, .unset, .unset, .unset, .unset, .unset]) rfl ?_
              show Steps p.tables e below (T484.setTop (mkF m 146 _ [])) t
              refine XS.iload P485.here P485.x rfl (hb hby at_146) rfl ?_
              show Steps p.tables e below (T484.setTop (mkF m 148 _ [(.int (3 : Int32))])) t
              refine XS.iconst P485.here P485.x rfl (hb hby at_148) ?_
              show Steps p.tables e below (T484.setTop (mkF m 149 _ [(.int (2 : Int32)), (.int (3 : Int32))])) t
              refine XS.icmpNo P485.here P485.x rfl (hb hby at_149) rfl (iiW_lt_f (by decide)) ?_
              show Steps p.tables e below (T484.setTop (mkF m 152 _ [])) t
              refine XS.iload P485.here P485.x rfl (hb hby at_152) rfl ?_
              show Steps p.tables e below (T484.setTop (mkF m 154 _ [(.int e1)])) t
              refine XS.i2l P485.here P485.x rfl (hb hby at_154) rfl ?_
              show Steps p.tables e below (T484.setTop (mkF m 155 _ [(.long e1.toInt64)])) t
              refine XS.goto P485.here P485.x rfl (pc0 := 155) (pc' := 161) rfl (hb hby at_155) (by decide) (by decide) ?_
              show Steps p.tables e below (T484.setTop (mkF m 161 _ [(.long e1.toInt64)])) t
              refine XS.lstore P485.here P485.x rfl (hb hby at_161) rfl (l' := #[.val (.int p0), .val (.int p1), .val (.int p2), .val (.int p3), .val (.int p4), .val (.int (4 : Int32)), .val (.int (3 : Int32)), .val (.int e0), .val (.int e1), .val (.int e2), .val (.int e3), .val (.ref b394), .val (.ref rr), .val (.long e0.toInt64), .second, .val (.long e1.toInt64), .second, .unset, .unset, .unset, .unset, .unset, .unset, .unset, .unset, .unset, .unset, .unset, .unset, .unset, .unset, .unset, .unset, .unset, .unset, .unset, .unset, .unset, .unset, .unset, .unset, .unset]) rfl ?_
              show Steps p.tables e below (T484.setTop (mkF m 163 _ [])) t
              refine XS.iload P485.here P485.x rfl (hb hby at_163) rfl ?_
              show Steps p.tables e below (T484.setTop (mkF m 165 _ [(.int (3 : Int32))])) t
              refine XS.iconst P485.here P485.x rfl (hb hby at_165) ?_
              show Steps p.tables e below (T484.setTop (mkF m 166 _ [(.int (3 : Int32)), (.int (3 : Int32))])) t
              refine XS.icmpNo P485.here P485.x rfl (hb hby at_166) rfl (iiW_lt_f (by decide)) ?_
              show Steps p.tables e below (T484.setTop (mkF m 169 _ [])) t
              refine XS.iload P485.here P485.x rfl (hb hby at_169) rfl ?_
              show Steps p.tables e below (T484.setTop (mkF m 171 _ [(.int e2)])) t
              refine XS.i2l P485.here P485.x rfl (hb hby at_171) rfl ?_
              show Steps p.tables e below (T484.setTop (mkF m 172 _ [(.long e2.toInt64)])) t
              refine XS.goto P485.here P485.x rfl (pc0 := 172) (pc' := 178) rfl (hb hby at_172) (by decide) (by decide) ?_
              show Steps p.tables e below (T484.setTop (mkF m 178 _ [(.long e2.toInt64)])) t
              refine XS.lstore P485.here P485.x rfl (hb hby at_178) rfl (l' := #[.val (.int p0), .val (.int p1), .val (.int p2), .val (.int p3), .val (.int p4), .val (.int (4 : Int32)), .val (.int (3 : Int32)), .val (.int e0), .val (.int e1), .val (.int e2), .val (.int e3), .val (.ref b394), .val (.ref rr), .val (.long e0.toInt64), .second, .val (.long e1.toInt64), .second, .val (.long e2.toInt64), .second, .unset, .unset, .unset, .unset, .unset, .unset, .unset, .unset, .unset, .unset, .unset, .unset, .unset, .unset, .unset, .unset, .unset, .unset, .unset, .unset, .unset, .unset, .unset]) rfl ?_
              show Steps p.tables e below (T484.setTop (mkF m 180 _ [])) t
              refine XS.iload P485.here P485.x rfl (hb hby at_180) rfl ?_
              show Steps p.tables e below (T484.setTop (mkF m 182 _ [(.int (3 : Int32))])) t
              refine XS.iconst P485.here P485.x rfl (hb hby at_182) ?_
              show Steps p.tables e below (T484.setTop (mkF m 183 _ [(.int (4 : Int32)), (.int (3 : Int32))])) t
              refine XS.icmpYes P485.here P485.x rfl (pc0 := 183) (pc' := 192) rfl (hb hby at_183) rfl (iiW_lt_t (by decide)) (by decide) (by decide) ?_
              show Steps p.tables e below (T484.setTop (mkF m 192 _ [])) t
              refine pLdcJ P485 (tw28 hw) (hb hby at_192) rfl ?_
              show Steps p.tables e below (T484.setTop (mkF m 195 _ [(.long (9223372036854775807 : Int64))])) t
              refine XS.lstore P485.here P485.x rfl (hb hby at_195) rfl (l' := #[.val (.int p0), .val (.int p1), .val (.int p2), .val (.int p3), .val (.int p4), .val (.int (4 : Int32)), .val (.int (3 : Int32)), .val (.int e0), .val (.int e1), .val (.int e2), .val (.int e3), .val (.ref b394), .val (.ref rr), .val (.long e0.toInt64), .second, .val (.long e1.toInt64), .second, .val (.long e2.toInt64), .second, .val (.long (9223372036854775807 : Int64)), .second, .unset, .unset, .unset, .unset, .unset, .unset, .unset, .unset, .unset, .unset, .unset, .unset, .unset, .unset, .unset, .unset, .unset, .unset, .unset, .unset, .unset]) rfl ?_
              exact kk
            have f491 := (f488.keep K490)
            have fin := own_fin_4_3 e0 e1 e2 d01 d02 d12 K1 J1 gK1 gJ1 K2 J2 gK2 gJ2 K3 J3 gK3 gJ3 of hof
            exact tail _ _ _ rr _ _ (4 : Int32) (3 : Int32) 3 of e0.toInt64 e1.toInt64 e2.toInt64 (9223372036854775807 : Int64) P485 (by decide) (by decide) f491 F487 A486 (by decide) (fun _ => fin.1) (fun _ => fin.2.1) (fun _ => fin.2.2) (fun hh => absurd hh (by decide))
          · refine Done.stepL (pc' := 119) (st' := [(.int e3), (.double (FP.i2d e3)), (.ref b394)]) (fun t kk => ?_) ?_
            · show Steps p.tables e below (T471.setTop (mkF m 106 _ [])) t
              refine XS.iload P472.here P472.x rfl (hb hby at_106) rfl ?_
              show Steps p.tables e below (T471.setTop (mkF m 108 _ [(.int (4 : Int32))])) t
              refine XS.iconst P472.here P472.x rfl (hb hby at_108) ?_
              show Steps p.tables e below (T471.setTop (mkF m 109 _ [(.int (4 : Int32)), (.int (4 : Int32))])) t
              refine XS.icmpNo P472.here P472.x rfl (hb hby at_109) rfl (iiW_lt_f (by decide)) ?_
              show Steps p.tables e below (T471.setTop (mkF m 112 _ [])) t
              refine XS.aload P472.here P472.x rfl (hb hby at_112) rfl rfl ?_
              show Steps p.tables e below (T471.setTop (mkF m 114 _ [(.ref b394)])) t
              refine XS.iload P472.here P472.x rfl (hb hby at_114) rfl ?_
              show Steps p.tables e below (T471.setTop (mkF m 116 _ [(.int e3), (.ref b394)])) t
              refine XS.i2dS P472.here P472.x rfl (hb hby at_116) rfl rfl ?_
              show Steps p.tables e below (T471.setTop (mkF m 117 _ [(.double (FP.i2d e3)), (.ref b394)])) t
              refine XS.iload P472.here P472.x rfl (hb hby at_117) rfl ?_
              exact kk
            have f502 := (f481.keep K483)
            refine wCallV P472 (m_offA l Z a0 hw b394 b406 b407 (3 : Int32) 4 3 kf480 K3 J3 (4 : Int32) (FP.i2d e3) e3 e3.toInt (4 : Int32) h482 f502 F474 F475 F473 F476 A477 A478 (by first | assumption | exact Ne.symm (by assumption) | exact adr_ne (by omega)) (by first | assumption | exact Ne.symm (by assumption) | exact adr_ne (by omega)) q410 (by decide) rfl dK479 (i2d_int e3) (by decide) (by decide) (by decide)) (tw41 hw) (tw42 hw) (tw44 hw) (tw44 hw) (tw43 hw) (tw2 hw) (tw45 hw) (by decide) f502 (by rw [hml]; rfl) (lenOf pd_6 rfl) (argsL := [(.double (FP.i2d e3)), (.int e3)]) (rest := []) rfl rfl (W := 0) (Nat.le_of_eq rfl) (by decide) (by decide) (by decide) (by decide) (allS (Or.inr ge_b394) (allS (Or.inr ge_b406) (allS (Or.inr ge_b407) all0))) (hb hby at_119) rfl (k' := 3) (n' := 36) rfl rfl ?_
            rintro T492 h503 _ P493 K504 ⟨rfl, kf501, F494, F495, F496, F497, A498, dK500, A499⟩
            have szh503 : h482.size ≤ h503.size := K504.1
            generalize gK4 : (own_of 3 true K3 J3 e3.toInt e3).1 = K4 at dK500
            generalize gJ4 : (own_of 3 true K3 J3 e3.toInt e3).2 = J4 at A499
            show Done _ _ _ _ _ _ _ _ _ _ _ _ _ _ _ T492 (mkF m 122 _ [])
            refine Done.stepL (pc' := 124) (st' := [(.ref b394)]) (fun t kk => ?_) ?_
            · show Steps p.tables e below (T492.setTop (mkF m 122 _ [])) t
              refine XS.aload P493.here P493.x rfl (hb hby at_122) rfl rfl ?_
              exact kk
            have f509 := (f502.keep K504)
            refine wCallV P493 (m_ra l Z a0 hw b394 b406 b407 (4 : Int32) 4 4 kf501 K4 J4 (4 : Int32) h503 f509 F495 F496 F494 F497 A498 A499 (by first | assumption | exact Ne.symm (by assumption) | exact adr_ne (by omega)) (by first | assumption | exact Ne.symm (by assumption) | exact adr_ne (by omega)) q410 (by decide) rfl dK500 (by decide) (by decide)) (tw21 hw) (tw22 hw) (tw24 hw) (tw24 hw) (tw23 hw) (tw2 hw) (tw25 hw) (by decide) f509 (by rw [hml]; rfl) (lenOf pd_5 rfl) (argsL := []) (rest := []) rfl rfl (W := 0) (Nat.le_of_eq rfl) (by decide) (by decide) (by decide) (by decide) (allS (Or.inr ge_b394) (allS (Or.inr ge_b406) (allS (Or.inr ge_b407) all0))) (hb hby at_124) rfl (k' := 4) (n' := 40) rfl rfl ?_
            rintro T505 h510 _ P506 K511 ⟨rr, of, rfl, ltr, F508, A507, hof⟩
            have szh510 : h503.size ≤ h510.size := K511.1
            show Done _ _ _ _ _ _ _ _ _ _ _ _ _ _ _ T505 (mkF m 127 _ [(.ref rr)])
            refine Done.step (T' := T505) (g' := (mkF m 197 #[.val (.int p0), .val (.int p1), .val (.int p2), .val (.int p3), .val (.int p4), .val (.int (4 : Int32)), .val (.int (4 : Int32)), .val (.int e0), .val (.int e1), .val (.int e2), .val (.int e3), .val (.ref b394), .val (.ref rr), .val (.long e0.toInt64), .second, .val (.long e1.toInt64), .second, .val (.long e2.toInt64), .second, .val (.long e3.toInt64), .second, .unset, .unset, .unset, .unset, .unset, .unset, .unset, .unset, .unset, .unset, .unset, .unset, .unset, .unset, .unset, .unset, .unset, .unset, .unset, .unset, .unset] [])) (fun t kk => ?_) ?_
            · show Steps p.tables e below (T505.setTop (mkF m 127 _ [(.ref rr)])) t
              refine XS.astore P506.here P506.x rfl (hb hby at_127) rfl rfl (l' := #[.val (.int p0), .val (.int p1), .val (.int p2), .val (.int p3), .val (.int p4), .val (.int (4 : Int32)), .val (.int (4 : Int32)), .val (.int e0), .val (.int e1), .val (.int e2), .val (.int e3), .val (.ref b394), .val (.ref rr), .unset, .unset, .unset, .unset, .unset, .unset, .unset, .unset, .unset, .unset, .unset, .unset, .unset, .unset, .unset, .unset, .unset, .unset, .unset, .unset, .unset, .unset, .unset, .unset, .unset, .unset, .unset, .unset, .unset]) rfl ?_
              show Steps p.tables e below (T505.setTop (mkF m 129 _ [])) t
              refine XS.iload P506.here P506.x rfl (hb hby at_129) rfl ?_
              show Steps p.tables e below (T505.setTop (mkF m 131 _ [(.int (4 : Int32))])) t
              refine XS.iconst P506.here P506.x rfl (hb hby at_131) ?_
              show Steps p.tables e below (T505.setTop (mkF m 132 _ [(.int (1 : Int32)), (.int (4 : Int32))])) t
              refine XS.icmpNo P506.here P506.x rfl (hb hby at_132) rfl (iiW_lt_f (by decide)) ?_
              show Steps p.tables e below (T505.setTop (mkF m 135 _ [])) t
              refine XS.iload P506.here P506.x rfl (hb hby at_135) rfl ?_
              show Steps p.tables e below (T505.setTop (mkF m 137 _ [(.int e0)])) t
              refine XS.i2l P506.here P506.x rfl (hb hby at_137) rfl ?_
              show Steps p.tables e below (T505.setTop (mkF m 138 _ [(.long e0.toInt64)])) t
              refine XS.goto P506.here P506.x rfl (pc0 := 138) (pc' := 144) rfl (hb hby at_138) (by decide) (by decide) ?_
              show Steps p.tables e below (T505.setTop (mkF m 144 _ [(.long e0.toInt64)])) t
              refine XS.lstore P506.here P506.x rfl (hb hby at_144) rfl (l' := #[.val (.int p0), .val (.int p1), .val (.int p2), .val (.int p3), .val (.int p4), .val (.int (4 : Int32)), .val (.int (4 : Int32)), .val (.int e0), .val (.int e1), .val (.int e2), .val (.int e3), .val (.ref b394), .val (.ref rr), .val (.long e0.toInt64), .second, .unset, .unset, .unset, .unset, .unset, .unset, .unset, .unset, .unset, .unset, .unset, .unset, .unset, .unset, .unset, .unset, .unset, .unset, .unset, .unset, .unset, .unset, .unset, .unset, .unset, .unset, .unset]) rfl ?_
              show Steps p.tables e below (T505.setTop (mkF m 146 _ [])) t
              refine XS.iload P506.here P506.x rfl (hb hby at_146) rfl ?_
              show Steps p.tables e below (T505.setTop (mkF m 148 _ [(.int (4 : Int32))])) t
              refine XS.iconst P506.here P506.x rfl (hb hby at_148) ?_
              show Steps p.tables e below (T505.setTop (mkF m 149 _ [(.int (2 : Int32)), (.int (4 : Int32))])) t
              refine XS.icmpNo P506.here P506.x rfl (hb hby at_149) rfl (iiW_lt_f (by decide)) ?_
              show Steps p.tables e below (T505.setTop (mkF m 152 _ [])) t
              refine XS.iload P506.here P506.x rfl (hb hby at_152) rfl ?_
              show Steps p.tables e below (T505.setTop (mkF m 154 _ [(.int e1)])) t
              refine XS.i2l P506.here P506.x rfl (hb hby at_154) rfl ?_
              show Steps p.tables e below (T505.setTop (mkF m 155 _ [(.long e1.toInt64)])) t
              refine XS.goto P506.here P506.x rfl (pc0 := 155) (pc' := 161) rfl (hb hby at_155) (by decide) (by decide) ?_
              show Steps p.tables e below (T505.setTop (mkF m 161 _ [(.long e1.toInt64)])) t
              refine XS.lstore P506.here P506.x rfl (hb hby at_161) rfl (l' := #[.val (.int p0), .val (.int p1), .val (.int p2), .val (.int p3), .val (.int p4), .val (.int (4 : Int32)), .val (.int (4 : Int32)), .val (.int e0), .val (.int e1), .val (.int e2), .val (.int e3), .val (.ref b394), .val (.ref rr), .val (.long e0.toInt64), .second, .val (.long e1.toInt64), .second, .unset, .unset, .unset, .unset, .unset, .unset, .unset, .unset, .unset, .unset, .unset, .unset, .unset, .unset, .unset, .unset, .unset, .unset, .unset, .unset, .unset, .unset, .unset, .unset, .unset]) rfl ?_
              show Steps p.tables e below (T505.setTop (mkF m 163 _ [])) t
              refine XS.iload P506.here P506.x rfl (hb hby at_163) rfl ?_
              show Steps p.tables e below (T505.setTop (mkF m 165 _ [(.int (4 : Int32))])) t
              refine XS.iconst P506.here P506.x rfl (hb hby at_165) ?_
              show Steps p.tables e below (T505.setTop (mkF m 166 _ [(.int (3 : Int32)), (.int (4 : Int32))])) t
              refine XS.icmpNo P506.here P506.x rfl (hb hby at_166) rfl (iiW_lt_f (by decide)) ?_
              show Steps p.tables e below (T505.setTop (mkF m 169 _ [])) t
              refine XS.iload P506.here P506.x rfl (hb hby at_169) rfl ?_
              show Steps p.tables e below (T505.setTop (mkF m 171 _ [(.int e2)])) t
              refine XS.i2l P506.here P506.x rfl (hb hby at_171) rfl ?_
              show Steps p.tables e below (T505.setTop (mkF m 172 _ [(.long e2.toInt64)])) t
              refine XS.goto P506.here P506.x rfl (pc0 := 172) (pc' := 178) rfl (hb hby at_172) (by decide) (by decide) ?_
              show Steps p.tables e below (T505.setTop (mkF m 178 _ [(.long e2.toInt64)])) t
              refine XS.lstore P506.here P506.x rfl (hb hby at_178) rfl (l' := #[.val (.int p0), .val (.int p1), .val (.int p2), .val (.int p3), .val (.int p4), .val (.int (4 : Int32)), .val (.int (4 : Int32)), .val (.int e0), .val (.int e1), .val (.int e2), .val (.int e3), .val (.ref b394), .val (.ref rr), .val (.long e0.toInt64), .second, .val (.long e1.toInt64), .second, .val (.long e2.toInt64), .second, .unset, .unset, .unset, .unset, .unset, .unset, .unset, .unset, .unset, .unset, .unset, .unset, .unset, .unset, .unset, .unset, .unset, .unset, .unset, .unset, .unset, .unset, .unset]) rfl ?_
              show Steps p.tables e below (T505.setTop (mkF m 180 _ [])) t
              refine XS.iload P506.here P506.x rfl (hb hby at_180) rfl ?_
              show Steps p.tables e below (T505.setTop (mkF m 182 _ [(.int (4 : Int32))])) t
              refine XS.iconst P506.here P506.x rfl (hb hby at_182) ?_
              show Steps p.tables e below (T505.setTop (mkF m 183 _ [(.int (4 : Int32)), (.int (4 : Int32))])) t
              refine XS.icmpNo P506.here P506.x rfl (hb hby at_183) rfl (iiW_lt_f (by decide)) ?_
              show Steps p.tables e below (T505.setTop (mkF m 186 _ [])) t
              refine XS.iload P506.here P506.x rfl (hb hby at_186) rfl ?_
              show Steps p.tables e below (T505.setTop (mkF m 188 _ [(.int e3)])) t
              refine XS.i2l P506.here P506.x rfl (hb hby at_188) rfl ?_
              show Steps p.tables e below (T505.setTop (mkF m 189 _ [(.long e3.toInt64)])) t
              refine XS.goto P506.here P506.x rfl (pc0 := 189) (pc' := 195) rfl (hb hby at_189) (by decide) (by decide) ?_
              show Steps p.tables e below (T505.setTop (mkF m 195 _ [(.long e3.toInt64)])) t
              refine XS.lstore P506.here P506.x rfl (hb hby at_195) rfl (l' := #[.val (.int p0), .val (.int p1), .val (.int p2), .val (.int p3), .val (.int p4), .val (.int (4 : Int32)), .val (.int (4 : Int32)), .val (.int e0), .val (.int e1), .val (.int e2), .val (.int e3), .val (.ref b394), .val (.ref rr), .val (.long e0.toInt64), .second, .val (.long e1.toInt64), .second, .val (.long e2.toInt64), .second, .val (.long e3.toInt64), .second, .unset, .unset, .unset, .unset, .unset, .unset, .unset, .unset, .unset, .unset, .unset, .unset, .unset, .unset, .unset, .unset, .unset, .unset, .unset, .unset, .unset]) rfl ?_
              exact kk
            have f512 := (f509.keep K511)
            have fin := own_fin_4_4 e0 e1 e2 e3 d01 d02 d03 d12 d13 d23 K1 J1 gK1 gJ1 K2 J2 gK2 gJ2 K3 J3 gK3 gJ3 K4 J4 gK4 gJ4 of hof
            exact tail _ _ _ rr _ _ (4 : Int32) (4 : Int32) 4 of e0.toInt64 e1.toInt64 e2.toInt64 e3.toInt64 P506 (by decide) (by decide) f512 F508 A507 (by decide) (fun _ => fin.1) (fun _ => fin.2.1) (fun _ => fin.2.2.1) (fun _ => fin.2.2.2)
set_option maxRecDepth 65536 in
set_option maxHeartbeats 4000000 in
theorem comes_1 {Post : Tables → Env → Array Value → State → Outcome → State → Prop} (hpost : ∀ tb e args s v u, (limb_1_1.after args s (.returned v) u = true ∧ limb_1_2.after args s (.returned v) u = true ∧ True) → FrameEnd s (.returned v) u (Jvm.fieldLocs frame_1_writes args s ++ Jvm.arrayLocs frame_1_arrays args s ++ Jvm.staticLocs frame_1_statics s) 16 128 → Post tb e args s (.returned v) u) :
    ArmFor flags0 classFile x code maxLocals ret World_1 tables_1 room_1 Calls_1 rest_1 Pre_1 Post := by
  intro l hfl _ _ p e ha hc hk s m args below hf hA hF happ hP
  obtain ⟨hcalls, hrest, hpre⟩ := hP
  obtain ⟨-, -, -, hnamed, -, -, -, hat⟩ := (Spec.applies_iff hf).mp happ
  obtain ⟨hg, hn⟩ := and_e (Cond.before_iff.mp (show (Jvm.Cond.and given_1 narrow_1).before args s = true from hpre))
  obtain ⟨h1, g0⟩ := and_e hg
  obtain ⟨q0, g1⟩ := and_e g0
  obtain ⟨q1, g2⟩ := and_e g1
  obtain ⟨q2, g3⟩ := and_e g2
  obtain ⟨q3, g4⟩ := and_e g3
  obtain ⟨w0, w1, w2, w3, w4, rfl⟩ : ∃ w0 w1 w2 w3 w4 : Value, args = #[w0, w1, w2, w3, w4] := by
    have hs : args.size = 5 := by simpa [Cond.value, given_1] using h1
    obtain ⟨L⟩ := args
    match L, hs with
    | [w0, w1, w2, w3, w4], _ => exact ⟨w0, w1, w2, w3, w4, rfl⟩
  have hw := fun d (hd : d ∈ tables_1) => atoms_spec (ws := Jvm.Cond.code x code maxLocals ret :: tables_1) hat d (List.mem_cons_of_mem _ hd)
  have hfit : Fit s := fun {y c} hc i hi => by
    obtain ⟨ha, rfl⟩ := Array.getElem?_eq_some_iff.mp hc
    have q := List.all_eq_true.mp ((Array.all_eq_true_iff_forall_mem.mp hF) _ (Array.getElem_mem ha)) i (List.mem_range.mpr hi)
    simpa [Array.getElem?_eq_getElem hi] using q
  obtain ⟨i0, e0⟩ := is_v q0
  obtain rfl : w0 = (.int i0) := Option.some.inj e0
  obtain ⟨i1, e1⟩ := is_v q1
  obtain rfl : w1 = (.int i1) := Option.some.inj e1
  obtain ⟨i2, e2⟩ := is_v q2
  obtain rfl : w2 = (.int i2) := Option.some.inj e2
  obtain ⟨i3, e3⟩ := is_v q3
  obtain rfl : w3 = (.int i3) := Option.some.inj e3
  obtain ⟨i4, e4⟩ := is_v g4
  obtain rfl : w4 = (.int i4) := Option.some.inj e4
  obtain ⟨n, o, h1, h2, h3, _, L, rfl, ⟨rfl, N, -⟩, hq⟩ := m_law l s _ hw  i0 i1 i2 i3 i4  s.heap  p e ha hc hk s m _ below hf ((Spec.applies_iff_loose hf).mp happ).1 ⟨rfl, State.Warmed39.refl s, rfl⟩ trivial
  refine ⟨n, _, h1, h2, h3, hpost _ _ _ _ _ _ ⟨Cond.after_iff.mpr rfl, Cond.after_iff.mpr (eq_i res_at (Term.int_eval (1)) rfl), trivial⟩ ⟨hq.1, hq.2.1, (hq.2.2.sift fun y hy => Or.inr ((N y hy).resolve_left (by simp))).mono (by decide) (by decide)⟩⟩
theorem main_1_1 : Claimed_1_1 := comes_1 fun _ _ _ _ _ _ h hF => ⟨h.1, hF⟩
theorem main_1_2 : Claimed_1_2 := comes_1 fun _ _ _ _ _ _ h hF => ⟨h.2.1, hF⟩
end Jvm.Pilot.@@N@@
namespace Jvm.Pilot.@@N@@
open Jvm Jvm.ClassFile Sem Op Lib Jvm.Free Jvm.Stand Jvm.Pilot.@@N@@.Jvm.D
/-! MADE BY PROGRAM (witnessworld.py) out of the Statement's table words and the real class files: 12 classes; the members and pool entries that the words name. The judged class is class 1, her method 1. -/
namespace start1
open Jvm.ClassFile
def u (s : String) : CpInfo := .utf8 (stringToUtf16 s)
/-- a pool by its gaps: so many unusable entries, then the entry; so many at the end -/
def gap : Nat → List CpInfo → List CpInfo
  | 0, r => r
  | n + 1, r => .unusable :: gap n r
def poolList (es : List (Nat × CpInfo)) (last : Nat) : List CpInfo := es.foldr (fun e r => gap e.1 (e.2 :: r)) (gap last [])
def pool (es : List (Nat × CpInfo)) (last : Nat) : Array CpInfo := ⟨poolList es last⟩
def fileOf (pool : Array CpInfo) (this : Nat) (attrs : Array Attribute := #[]) (ms : Array MethodInfo := #[]) (fl : Nat := 33) (sup : Nat := 0) (ifs : Array Nat := #[]) (fds : Array FieldInfo := #[]) : ClassFile where
  minorVersion := 0
  majorVersion := 65
  constantPool := pool
  accessFlags := fl
  thisClass := this
  superClass := sup
  interfaces := ifs
  fields := fds
  methods := ms
  attributes := attrs
def plain (name : String) (sup : Option ClassId) : Class where
  name := name
  kind := .ordinary
  loader := none
  accessFlags := 33
  super := sup
  interfaces := #[]
  cf := none
  fields := #[]
  methods := #[]
  instanceTypes := #[]
  staticTypes := #[]
  resolved := #[]
  callSites := []
  init := .initialized
  statics := none
  mirror := none

def pool0 : Array CpInfo := pool [(5, u "<init>"), (0, u "()V"), (1, .class_ 10), (1, u "java/lang/Object")] 113

def k0c0 : Code := { maxStack := 0, maxLocals := 1, code := object_method_1_code, exceptionTable := #[], attributes := #[] }
def k0m0 : Method := { name := "<init>", desc := "()V", sig := { parameters := [], returnType := none }, accessFlags := 1, code := some k0c0 }
/-- java/lang/Object -/
def k0 : Class := { plain "java/lang/Object" none with
  accessFlags := 33
  interfaces := #[]
  cf := some (fileOf pool0 8 #[] #[{ accessFlags := 1, nameIndex := 5, descriptorIndex := 6, attributes := #[] }] 33 0 #[] #[])
  fields := #[]
  methods := #[k0m0]
  instanceTypes := #[]
  staticTypes := #[]
  resolved := Array.replicate 124 none
  statics := none }

def pool1 : Array CpInfo := pool [(2, .class_ 4), (1, u "java/lang/Object"), (0, u "<init>"), (0, u "()V"), (0, .class_ 8), (0, u "com/example/urnwise/urnwise/sampler/SmallestKeys"), (0, .methodref 7 10), (0, .nameAndType 5 11), (0, u "(I)V"), (0, .methodref 7 13), (0, .nameAndType 14 15), (0, u "offer"), (0, u "(DI)V"), (0, .methodref 7 17), (0, .nameAndType 18 19), (0, u "removeAll"), (0, u "()[I"), (2, .long 9223372036854775807), (1, .methodref 25 26), (0, .class_ 27), (0, .nameAndType 28 29), (0, u "java/lang/Math"), (0, u "min"), (0, u "(JJ)J"), (0, .methodref 25 31), (0, .nameAndType 32 29), (0, u "max"), (0, .methodref 25 34), (0, .nameAndType 28 35), (0, u "(II)I"), (0, .methodref 7 37), (0, .nameAndType 38 39), (0, u "size"), (0, u "()I"), (0, .class_ 41), (0, u "com/example/urnwise/urnwise/sampler/SmallestKeysRemoveAllPinLaw"), (2, u "law"), (0, u "(IIIII)Z")] 5

def k1m0 : Method := { name := "<init>", desc := "()V", sig := { parameters := [], returnType := none }, accessFlags := 1, code := none }
def k1c1 : Code := { maxStack := 4, maxLocals := 42, code := code, exceptionTable := #[], attributes := #[] }
def k1m1 : Method := { name := "law", desc := "(IIIII)Z", sig := { parameters := [.int, .int, .int, .int, .int], returnType := some .boolean }, accessFlags := 9, code := some k1c1 }
/-- com/example/urnwise/urnwise/sampler/SmallestKeysRemoveAllPinLaw -/
def k1 : Class := { plain "com/example/urnwise/urnwise/sampler/SmallestKeysRemoveAllPinLaw" (some 0) with
  accessFlags := 49
  interfaces := #[]
  cf := some (fileOf pool1 40 #[] #[{ accessFlags := 1, nameIndex := 5, descriptorIndex := 6, attributes := #[] }, { accessFlags := 9, nameIndex := 44, descriptorIndex := 45, attributes := #[] }] 49 2 #[] #[])
  fields := #[]
  methods := #[k1m0, k1m1]
  instanceTypes := #[]
  staticTypes := #[]
  resolved := Array.replicate 51 none
  statics := none }

def pool2 : Array CpInfo := pool [(1, .methodref 2 3), (0, .class_ 4), (0, .nameAndType 5 6), (0, u "java/lang/Object"), (0, u "<init>"), (0, u "()V"), (0, .fieldref 8 9), (0, .class_ 10), (0, .nameAndType 11 12), (0, u "com/example/urnwise/urnwise/sampler/SmallestKeys"), (0, u "capacity"), (0, u "I"), (0, .methodref 14 15), (0, .class_ 16), (0, .nameAndType 17 18), (0, u "java/lang/Math"), (0, u "min"), (0, u "(II)I"), (0, .fieldref 8 20), (0, .nameAndType 21 22), (0, u "keys"), (0, u "[D"), (0, .fieldref 8 24), (0, .nameAndType 25 26), (0, u "indices"), (0, u "[I"), (0, .fieldref 8 28), (0, .nameAndType 29 12), (0, u "size"), (3, .methodref 8 34), (0, .nameAndType 35 36), (0, u "siftUp"), (0, u "(IDI)V"), (0, .methodref 8 38), (0, .nameAndType 39 36), (0, u "siftDown"), (0, .methodref 8 41), (0, .nameAndType 42 43), (0, u "removeLargest"), (0, u "()I"), (14, u "INITIAL_LENGTH"), (2, u "(I)V"), (2, u "offer"), (0, u "(DI)V"), (7, u "removeAll"), (0, u "()[I")] 3

def k2c0 : Code := { maxStack := 3, maxLocals := 2, code := prog_15_method_1_code, exceptionTable := #[], attributes := #[] }
def k2m0 : Method := { name := "<init>", desc := "(I)V", sig := { parameters := [.int], returnType := none }, accessFlags := 0, code := some k2c0 }
def k2c1 : Code := { maxStack := 5, maxLocals := 4, code := prog_15_method_2_code, exceptionTable := #[], attributes := #[] }
def k2m1 : Method := { name := "offer", desc := "(DI)V", sig := { parameters := [.double, .int], returnType := none }, accessFlags := 0, code := some k2c1 }
def k2c2 : Code := { maxStack := 1, maxLocals := 1, code := prog_15_method_3_code, exceptionTable := #[], attributes := #[] }
def k2m2 : Method := { name := "size", desc := "()I", sig := { parameters := [], returnType := some .int }, accessFlags := 0, code := some k2c2 }
def k2c3 : Code := { maxStack := 3, maxLocals := 3, code := prog_15_method_7_code, exceptionTable := #[], attributes := #[] }
def k2m3 : Method := { name := "removeAll", desc := "()[I", sig := { parameters := [], returnType := some (.array .int) }, accessFlags := 0, code := some k2c3 }
def k2c4 : Code := { maxStack := 6, maxLocals := 2, code := prog_15_method_8_code, exceptionTable := #[], attributes := #[] }
def k2m4 : Method := { name := "removeLargest", desc := "()I", sig := { parameters := [], returnType := some .int }, accessFlags := 2, code := some k2c4 }
def k2c5 : Code := { maxStack := 4, maxLocals := 6, code := prog_15_method_10_code, exceptionTable := #[], attributes := #[] }
def k2m5 : Method := { name := "siftDown", desc := "(IDI)V", sig := { parameters := [.int, .double, .int], returnType := none }, accessFlags := 2, code := some k2c5 }
def k2c6 : Code := { maxStack := 4, maxLocals := 6, code := prog_15_method_11_code, exceptionTable := #[], attributes := #[] }
def k2m6 : Method := { name := "siftUp", desc := "(IDI)V", sig := { parameters := [.int, .double, .int], returnType := none }, accessFlags := 2, code := some k2c6 }
/-- com/example/urnwise/urnwise/sampler/SmallestKeys -/
def k2 : Class := { plain "com/example/urnwise/urnwise/sampler/SmallestKeys" (some 0) with
  accessFlags := 48
  interfaces := #[]
  cf := some (fileOf pool2 8 #[] #[{ accessFlags := 0, nameIndex := 5, descriptorIndex := 61, attributes := #[] }, { accessFlags := 0, nameIndex := 64, descriptorIndex := 65, attributes := #[] }, { accessFlags := 0, nameIndex := 29, descriptorIndex := 43, attributes := #[] }, { accessFlags := 0, nameIndex := 73, descriptorIndex := 74, attributes := #[] }, { accessFlags := 2, nameIndex := 42, descriptorIndex := 43, attributes := #[] }, { accessFlags := 2, nameIndex := 39, descriptorIndex := 36, attributes := #[] }, { accessFlags := 2, nameIndex := 35, descriptorIndex := 36, attributes := #[] }] 48 2 #[] #[{ accessFlags := 26, nameIndex := 58, descriptorIndex := 12, attributes := #[] }, { accessFlags := 18, nameIndex := 11, descriptorIndex := 12, attributes := #[] }, { accessFlags := 2, nameIndex := 21, descriptorIndex := 22, attributes := #[] }, { accessFlags := 2, nameIndex := 25, descriptorIndex := 26, attributes := #[] }, { accessFlags := 2, nameIndex := 29, descriptorIndex := 12, attributes := #[] }])
  fields := #[{ name := "INITIAL_LENGTH", type := .int, accessFlags := 26, slot := 0, constantValue := 0 }, { name := "capacity", type := .int, accessFlags := 18, slot := 0, constantValue := 0 }, { name := "keys", type := (.array .double), accessFlags := 2, slot := 1, constantValue := 0 }, { name := "indices", type := (.array .int), accessFlags := 2, slot := 2, constantValue := 0 }, { name := "size", type := .int, accessFlags := 2, slot := 3, constantValue := 0 }]
  methods := #[k2m0, k2m1, k2m2, k2m3, k2m4, k2m5, k2m6]
  instanceTypes := #[.int, (.array .double), (.array .int), .int]
  staticTypes := #[.int]
  resolved := Array.replicate 78 none
  statics := none }

def pool3 : Array CpInfo := pool [(1, .class_ 2), (0, u "java/lang/Math"), (1, .class_ 6), (1, u "java/lang/Object"), (0, u "<init>"), (0, u "()V"), (89, .class_ 100), (1, u "java/lang/Math$RandomNumberGeneratorHolder"), (20, u "(JJ)J"), (50, u "negativeZeroFloatBits"), (0, u "J"), (2, u "negativeZeroDoubleBits"), (21, u "max"), (2, u "min"), (43, u "$assertionsDisabled"), (0, u "Z"), (88, u "(II)I"), (2, u "twoToTheDoubleScaleDown"), (0, u "D"), (4, u "twoToTheDoubleScaleUp"), (9, u "E"), (3, u "PI"), (2, u "TAU"), (2, u "DEGREES_TO_RADIANS"), (0, u "RADIANS_TO_DEGREES")] 94

def k3m0 : Method := { name := "<init>", desc := "()V", sig := { parameters := [], returnType := none }, accessFlags := 2, code := none }
def k3c1 : Code := { maxStack := 4, maxLocals := 4, code := jdk_29_method_66_code, exceptionTable := #[], attributes := #[] }
def k3m1 : Method := { name := "max", desc := "(JJ)J", sig := { parameters := [.long, .long], returnType := some .long }, accessFlags := 9, code := some k3c1 }
def k3c2 : Code := { maxStack := 2, maxLocals := 2, code := jdk_29_method_69_code, exceptionTable := #[], attributes := #[] }
def k3m2 : Method := { name := "min", desc := "(II)I", sig := { parameters := [.int, .int], returnType := some .int }, accessFlags := 9, code := some k3c2 }
def k3c3 : Code := { maxStack := 4, maxLocals := 4, code := jdk_29_method_70_code, exceptionTable := #[], attributes := #[] }
def k3m3 : Method := { name := "min", desc := "(JJ)J", sig := { parameters := [.long, .long], returnType := some .long }, accessFlags := 9, code := some k3c3 }
/-- java/lang/Math -/
def k3 : Class := { plain "java/lang/Math" (some 0) with
  accessFlags := 49
  interfaces := #[]
  cf := some (fileOf pool3 1 #[.nestMembers #[98]] #[{ accessFlags := 2, nameIndex := 7, descriptorIndex := 8, attributes := #[] }, { accessFlags := 9, nameIndex := 198, descriptorIndex := 121, attributes := #[] }, { accessFlags := 9, nameIndex := 201, descriptorIndex := 335, attributes := #[] }, { accessFlags := 9, nameIndex := 201, descriptorIndex := 121, attributes := #[] }] 49 4 #[] #[{ accessFlags := 25, nameIndex := 354, descriptorIndex := 339, attributes := #[] }, { accessFlags := 25, nameIndex := 358, descriptorIndex := 339, attributes := #[] }, { accessFlags := 25, nameIndex := 361, descriptorIndex := 339, attributes := #[] }, { accessFlags := 26, nameIndex := 364, descriptorIndex := 339, attributes := #[] }, { accessFlags := 26, nameIndex := 365, descriptorIndex := 339, attributes := #[] }, { accessFlags := 26, nameIndex := 172, descriptorIndex := 173, attributes := #[] }, { accessFlags := 26, nameIndex := 176, descriptorIndex := 173, attributes := #[] }, { accessFlags := 8, nameIndex := 344, descriptorIndex := 339, attributes := #[] }, { accessFlags := 8, nameIndex := 338, descriptorIndex := 339, attributes := #[] }, { accessFlags := 4120, nameIndex := 245, descriptorIndex := 246, attributes := #[] }])
  fields := #[{ name := "E", type := .double, accessFlags := 25, slot := 0, constantValue := 0 }, { name := "PI", type := .double, accessFlags := 25, slot := 1, constantValue := 0 }, { name := "TAU", type := .double, accessFlags := 25, slot := 2, constantValue := 0 }, { name := "DEGREES_TO_RADIANS", type := .double, accessFlags := 26, slot := 3, constantValue := 0 }, { name := "RADIANS_TO_DEGREES", type := .double, accessFlags := 26, slot := 4, constantValue := 0 }, { name := "negativeZeroFloatBits", type := .long, accessFlags := 26, slot := 5, constantValue := 0 }, { name := "negativeZeroDoubleBits", type := .long, accessFlags := 26, slot := 6, constantValue := 0 }, { name := "twoToTheDoubleScaleUp", type := .double, accessFlags := 8, slot := 7, constantValue := 0 }, { name := "twoToTheDoubleScaleDown", type := .double, accessFlags := 8, slot := 8, constantValue := 0 }, { name := "$assertionsDisabled", type := .boolean, accessFlags := 4120, slot := 9, constantValue := 0 }]
  methods := #[k3m0, k3m1, k3m2, k3m3]
  instanceTypes := #[]
  staticTypes := #[.double, .double, .double, .double, .double, .long, .long, .double, .double, .boolean]
  resolved := Array.replicate 460 none
  statics := none }

def pool4 : Array CpInfo := pool [(1, u "java/lang/Cloneable"), (0, .class_ 1), (0, u "java/lang/Object"), (0, .class_ 3)] 3

/-- java/lang/Cloneable -/
def k4 : Class := { plain "java/lang/Cloneable" (some 0) with
  accessFlags := 1537
  interfaces := #[]
  cf := some (fileOf pool4 2 #[] #[] 1537 4 #[] #[])
  fields := #[]
  methods := #[]
  instanceTypes := #[]
  staticTypes := #[]
  resolved := Array.replicate 8 none
  statics := none }

def pool5 : Array CpInfo := pool [(1, u "java/io/Serializable"), (0, .class_ 1), (0, u "java/lang/Object"), (0, .class_ 3)] 3

/-- java/io/Serializable -/
def k5 : Class := { plain "java/io/Serializable" (some 0) with
  accessFlags := 1537
  interfaces := #[]
  cf := some (fileOf pool5 2 #[] #[] 1537 4 #[] #[])
  fields := #[]
  methods := #[]
  instanceTypes := #[]
  staticTypes := #[]
  resolved := Array.replicate 8 none
  statics := none }

/-- the primitive byte -/
def k6 : Class := { plain "byte" none with kind := .primitive 'B', accessFlags := 0x411 }
/-- [B -/
def k7 : Class := { plain "[B" (some 0) with kind := .array 6 .byte, interfaces := #[4, 5], accessFlags := 1041 }

/-- the primitive double -/
def k8 : Class := { plain "double" none with kind := .primitive 'D', accessFlags := 0x411 }
/-- [D -/
def k9 : Class := { plain "[D" (some 0) with kind := .array 8 .double, interfaces := #[4, 5], accessFlags := 1041 }

/-- the primitive int -/
def k10 : Class := { plain "int" none with kind := .primitive 'I', accessFlags := 0x411 }
/-- [I -/
def k11 : Class := { plain "[I" (some 0) with kind := .array 10 .int, interfaces := #[4, 5], accessFlags := 1041 }

def heap : Heap := #[]
def classes : Array Class := #[k0, k1, k2, k3, k4, k5, k6, k7, k8, k9, k10, k11]
def interned : List (Array UInt16 × Addr) := []
def slotsUsed : Nat := 0
def theMethod : MethodId := ⟨1, 1⟩
def args0 : Array Value := #[.int 5, .int 1, .int 2, .int 3, .int 4]
def aboutOver (below : List Frame) : State where
  vm := { classes := classes, interned := interned.toArray }
  heap := heap
  slotsUsed := slotsUsed
  threads := #[{ frames := .invoking theMethod args0 :: below }]
def below0 : List Frame := [.native { method := ⟨0, 0⟩, args := #[] }]
def about1 : State := aboutOver below0
def p0 : Program := .bare "" "" ""
def e0 : Env := launch0.env 0 0 0
theorem w_frames : about1.frames = Frame.invoking theMethod args0 :: below0 := rfl
set_option maxRecDepth 65536 in
theorem w_args : argsFit about1.vm theMethod args0 = true := by decide +kernel
set_option maxRecDepth 65536 in
theorem w_heap : heapFits about1 = true := by decide +kernel
set_option maxRecDepth 65536 in
theorem w_runnable : about1.curStatus? = some .runnable := by decide +kernel
set_option maxRecDepth 65536 in
theorem w_alone : about1.alone = true := by decide +kernel
set_option maxRecDepth 65536 in
theorem w_named : about1.methodNamed? x = some theMethod := by decide +kernel
set_option maxRecDepth 65536 in
theorem w_hears : about1.hears theMethod below0 = true := by decide +kernel
set_option maxRecDepth 65536 in
theorem w_ripe : about1.ripe theMethod args0 below0 = true := by decide +kernel
theorem w_running : about1.status = .running := rfl
set_option maxRecDepth 65536 in
theorem w_room : about1.hasRoom e0.platform room_1 = true :=
  launch0.hasRoom_least _ room_1 (by decide +kernel) (by decide +kernel) (by decide +kernel) (by decide +kernel) (by decide +kernel) (by decide +kernel)
theorem allAtoms_all (ts : List Jvm.Cond) (a : Array Jvm.Value) (st : Jvm.State) : (allAtoms ts).before a st = ts.all (fun c => c.before a st) := by
  induction ts with
  | nil => rfl
  | cons c t ih =>
    show (Jvm.Cond.and c (allAtoms t)).before a st = _
    rw [Jvm.Cond.before_and, ih, List.all_cons]
def words1 : List Jvm.Cond := Jvm.Cond.code x code maxLocals ret :: tables_1
/-- a 'code' word, met by the world's own term for the bytes: nothing is compared byte by byte -/
theorem code_word {y : MethodName} {bytes : ByteArray} {mx : Nat} {rt : Option FieldType} {a : Array Value} {s : State} {m : MethodId} {meth : Method} {c : Code} (h1 : s.methodNamed? y = some m) (h2 : s.vm.method? m = some meth) (h3 : meth.code = some c) (h4 : c.code = bytes)
    (h5 : (c.maxLocals == mx && c.exceptionTable.isEmpty && decide (c.maxStack ≤ mostOperands) && decide (meth.sig.returnType = rt) && !meth.locks && decide (parseMethodDescriptor y.desc = some meth.sig)) = true) : (Jvm.Cond.code y bytes mx rt).before a s = true := by
  simp only [Bool.and_eq_true, beq_iff_eq, Bool.not_eq_true', decide_eq_true_eq] at h5
  obtain ⟨⟨⟨⟨⟨g1, g2⟩, g3⟩, g4⟩, g5⟩, g6⟩ := h5
  simp [Cond.before, Cond.holds, Cond.value, h1, h2, h3, h4, g1, g2, g3, g4, g5, g6]
def isCode : Jvm.Cond → Bool
  | .code _ _ _ _ => true
  | _ => false
theorem all_split {L : List Jvm.Cond} {P : Jvm.Cond → Bool} (h1 : L.all (fun c => isCode c || P c) = true) (h2 : ∀ c ∈ L.filter isCode, P c = true) : L.all P = true := by
  refine List.all_eq_true.mpr fun c hc => ?_
  have h := List.all_eq_true.mp h1 c hc
  rcases Bool.eq_false_or_eq_true (isCode c) with hi | hi
  · exact h2 c (List.mem_filter.mpr ⟨hc, hi⟩)
  · simpa [hi] using h
set_option maxRecDepth 65536 in
theorem w_c0 : (Jvm.Cond.code x code maxLocals ret).before args0 about1 = true := code_word (m := ⟨1, 1⟩) (meth := k1m1) (c := k1c1) (by decide +kernel) rfl rfl rfl (by decide +kernel)
set_option maxRecDepth 65536 in
theorem w_c1 : (Jvm.Cond.code ({ cls := "com/example/urnwise/urnwise/sampler/SmallestKeys", name := "<init>", desc := "(I)V" } : Jvm.MethodName) prog_15_method_1_code (2 : Nat) (Option.none : Option Jvm.ClassFile.FieldType)).before args0 about1 = true := code_word (m := ⟨2, 0⟩) (meth := k2m0) (c := k2c0) (by decide +kernel) rfl rfl rfl (by decide +kernel)
set_option maxRecDepth 65536 in
theorem w_c2 : (Jvm.Cond.code ({ cls := "java/lang/Object", name := "<init>", desc := "()V" } : Jvm.MethodName) object_method_1_code (1 : Nat) (Option.none : Option Jvm.ClassFile.FieldType)).before args0 about1 = true := code_word (m := ⟨0, 0⟩) (meth := k0m0) (c := k0c0) (by decide +kernel) rfl rfl rfl (by decide +kernel)
set_option maxRecDepth 65536 in
theorem w_c3 : (Jvm.Cond.code ({ cls := "java/lang/Math", name := "min", desc := "(II)I" } : Jvm.MethodName) jdk_29_method_69_code (2 : Nat) (Option.some Jvm.ClassFile.FieldType.int)).before args0 about1 = true := code_word (m := ⟨3, 2⟩) (meth := k3m2) (c := k3c2) (by decide +kernel) rfl rfl rfl (by decide +kernel)
set_option maxRecDepth 65536 in
theorem w_c4 : (Jvm.Cond.code ({ cls := "com/example/urnwise/urnwise/sampler/SmallestKeys", name := "removeAll", desc := "()[I" } : Jvm.MethodName) prog_15_method_7_code (3 : Nat) (Option.some (Jvm.ClassFile.FieldType.array Jvm.ClassFile.FieldType.int))).before args0 about1 = true := code_word (m := ⟨2, 3⟩) (meth := k2m3) (c := k2c3) (by decide +kernel) rfl rfl rfl (by decide +kernel)
set_option maxRecDepth 65536 in
theorem w_c5 : (Jvm.Cond.code ({ cls := "java/lang/Math", name := "min", desc := "(JJ)J" } : Jvm.MethodName) jdk_29_method_70_code (4 : Nat) (Option.some Jvm.ClassFile.FieldType.long)).before args0 about1 = true := code_word (m := ⟨3, 3⟩) (meth := k3m3) (c := k3c3) (by decide +kernel) rfl rfl rfl (by decide +kernel)
set_option maxRecDepth 65536 in
theorem w_c6 : (Jvm.Cond.code ({ cls := "java/lang/Math", name := "max", desc := "(JJ)J" } : Jvm.MethodName) jdk_29_method_66_code (4 : Nat) (Option.some Jvm.ClassFile.FieldType.long)).before args0 about1 = true := code_word (m := ⟨3, 1⟩) (meth := k3m1) (c := k3c1) (by decide +kernel) rfl rfl rfl (by decide +kernel)
set_option maxRecDepth 65536 in
theorem w_c7 : (Jvm.Cond.code ({ cls := "com/example/urnwise/urnwise/sampler/SmallestKeys", name := "size", desc := "()I" } : Jvm.MethodName) prog_15_method_3_code (1 : Nat) (Option.some Jvm.ClassFile.FieldType.int)).before args0 about1 = true := code_word (m := ⟨2, 2⟩) (meth := k2m2) (c := k2c2) (by decide +kernel) rfl rfl rfl (by decide +kernel)
set_option maxRecDepth 65536 in
theorem w_c8 : (Jvm.Cond.code ({ cls := "com/example/urnwise/urnwise/sampler/SmallestKeys", name := "offer", desc := "(DI)V" } : Jvm.MethodName) prog_15_method_2_code (4 : Nat) (Option.none : Option Jvm.ClassFile.FieldType)).before args0 about1 = true := code_word (m := ⟨2, 1⟩) (meth := k2m1) (c := k2c1) (by decide +kernel) rfl rfl rfl (by decide +kernel)
set_option maxRecDepth 65536 in
theorem w_c9 : (Jvm.Cond.code ({ cls := "com/example/urnwise/urnwise/sampler/SmallestKeys", name := "siftUp", desc := "(IDI)V" } : Jvm.MethodName) prog_15_method_11_code (6 : Nat) (Option.none : Option Jvm.ClassFile.FieldType)).before args0 about1 = true := code_word (m := ⟨2, 6⟩) (meth := k2m6) (c := k2c6) (by decide +kernel) rfl rfl rfl (by decide +kernel)
set_option maxRecDepth 65536 in
theorem w_c10 : (Jvm.Cond.code ({ cls := "com/example/urnwise/urnwise/sampler/SmallestKeys", name := "siftDown", desc := "(IDI)V" } : Jvm.MethodName) prog_15_method_10_code (6 : Nat) (Option.none : Option Jvm.ClassFile.FieldType)).before args0 about1 = true := code_word (m := ⟨2, 5⟩) (meth := k2m5) (c := k2c5) (by decide +kernel) rfl rfl rfl (by decide +kernel)
set_option maxRecDepth 65536 in
theorem w_c11 : (Jvm.Cond.code ({ cls := "com/example/urnwise/urnwise/sampler/SmallestKeys", name := "removeLargest", desc := "()I" } : Jvm.MethodName) prog_15_method_8_code (2 : Nat) (Option.some Jvm.ClassFile.FieldType.int)).before args0 about1 = true := code_word (m := ⟨2, 4⟩) (meth := k2m4) (c := k2c4) (by decide +kernel) rfl rfl rfl (by decide +kernel)
def codes1 : List Jvm.Cond := [Jvm.Cond.code x code maxLocals ret, Jvm.Cond.code ({ cls := "com/example/urnwise/urnwise/sampler/SmallestKeys", name := "<init>", desc := "(I)V" } : Jvm.MethodName) prog_15_method_1_code (2 : Nat) (Option.none : Option Jvm.ClassFile.FieldType), Jvm.Cond.code ({ cls := "java/lang/Object", name := "<init>", desc := "()V" } : Jvm.MethodName) object_method_1_code (1 : Nat) (Option.none : Option Jvm.ClassFile.FieldType), Jvm.Cond.code ({ cls := "java/lang/Math", name := "min", desc := "(II)I" } : Jvm.MethodName) jdk_29_method_69_code (2 : Nat) (Option.some Jvm.ClassFile.FieldType.int), Jvm.Cond.code ({ cls := "com/example/urnwise/urnwise/sampler/SmallestKeys", name := "removeAll", desc := "()[I" } : Jvm.MethodName) prog_15_method_7_code (3 : Nat) (Option.some (Jvm.ClassFile.FieldType.array Jvm.ClassFile.FieldType.int)), Jvm.Cond.code ({ cls := "java/lang/Math", name := "min", desc := "(JJ)J" } : Jvm.MethodName) jdk_29_method_70_code (4 : Nat) (Option.some Jvm.ClassFile.FieldType.long), Jvm.Cond.code ({ cls := "java/lang/Math", name := "max", desc := "(JJ)J" } : Jvm.MethodName) jdk_29_method_66_code (4 : Nat) (Option.some Jvm.ClassFile.FieldType.long), Jvm.Cond.code ({ cls := "com/example/urnwise/urnwise/sampler/SmallestKeys", name := "size", desc := "()I" } : Jvm.MethodName) prog_15_method_3_code (1 : Nat) (Option.some Jvm.ClassFile.FieldType.int), Jvm.Cond.code ({ cls := "com/example/urnwise/urnwise/sampler/SmallestKeys", name := "offer", desc := "(DI)V" } : Jvm.MethodName) prog_15_method_2_code (4 : Nat) (Option.none : Option Jvm.ClassFile.FieldType), Jvm.Cond.code ({ cls := "com/example/urnwise/urnwise/sampler/SmallestKeys", name := "siftUp", desc := "(IDI)V" } : Jvm.MethodName) prog_15_method_11_code (6 : Nat) (Option.none : Option Jvm.ClassFile.FieldType), Jvm.Cond.code ({ cls := "com/example/urnwise/urnwise/sampler/SmallestKeys", name := "siftDown", desc := "(IDI)V" } : Jvm.MethodName) prog_15_method_10_code (6 : Nat) (Option.none : Option Jvm.ClassFile.FieldType), Jvm.Cond.code ({ cls := "com/example/urnwise/urnwise/sampler/SmallestKeys", name := "removeLargest", desc := "()I" } : Jvm.MethodName) prog_15_method_8_code (2 : Nat) (Option.some Jvm.ClassFile.FieldType.int)]
set_option maxRecDepth 65536 in
theorem codes_eq : words1.filter isCode = codes1 := rfl
theorem w_codes : ∀ c ∈ words1.filter isCode, c.before args0 about1 = true := by
  rw [codes_eq]
  intro c hc
  simp only [codes1, List.mem_cons, List.not_mem_nil, or_false] at hc
  rcases hc with rfl | rfl | rfl | rfl | rfl | rfl | rfl | rfl | rfl | rfl | rfl | rfl
  · exact w_c0
  · exact w_c1
  · exact w_c2
  · exact w_c3
  · exact w_c4
  · exact w_c5
  · exact w_c6
  · exact w_c7
  · exact w_c8
  · exact w_c9
  · exact w_c10
  · exact w_c11
set_option maxRecDepth 65536 in
theorem w_t1 : (words1.take 24).all (fun c => isCode c || c.before args0 about1) = true := by decide +kernel
set_option maxRecDepth 65536 in
theorem w_t2 : ((words1.drop 24).take 24).all (fun c => isCode c || c.before args0 about1) = true := by decide +kernel
set_option maxRecDepth 65536 in
theorem w_t3 : ((words1.drop 24).drop 24).all (fun c => isCode c || c.before args0 about1) = true := by decide +kernel
theorem w_tables : (allAtoms (Jvm.Cond.code x code maxLocals ret :: tables_1)).before args0 about1 = true := by
  rw [allAtoms_all]
  show words1.all (fun c => c.before args0 about1) = true
  refine all_split ?_ w_codes
  rw [← List.take_append_drop 24 words1, List.all_append, w_t1, ← List.take_append_drop 24 (words1.drop 24), List.all_append, w_t2, w_t3]
  rfl
set_option maxRecDepth 65536 in
theorem w_case : (Jvm.Cond.and given_1 narrow_1).before args0 about1 = true := by decide +kernel
theorem w_applies : (headSpec (Jvm.Cond.code x code maxLocals ret :: tables_1) room_1).applies x e0.platform about1 = true :=
  (Spec.applies_iff w_frames).mpr ⟨w_running, w_runnable, w_alone, w_named, w_hears, w_ripe, w_room, w_tables⟩
theorem atStart : AtStart classFile x code maxLocals ret World_1 tables_1 room_1 Calls_1 rest_1 Pre_1 launch0 p0 e0 about1 theMethod args0 below0 :=
  ⟨lists_1, trivial, launch0.admits_env _ _ _, launch0.least_env, fairChoices_fair.cas, fairChoices_fair.clock, w_frames, w_args, w_heap, w_applies, trivial, trivial, w_case⟩
end start1
theorem witness_1 : WitnessClaimed_1 := ⟨start1.p0, start1.e0, start1.about1, start1.theMethod, start1.args0, start1.below0, start1.atStart⟩
end Jvm.Pilot.@@N@@
