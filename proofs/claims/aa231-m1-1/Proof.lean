import JvmDerived
import JvmDerived.Pilot.@@N@@Statement
import JvmDerived.Pilot.@@N@@Code
set_option linter.unusedVariables false
set_option linter.unusedSimpArgs false
namespace Jvm.OwnGo
open Jvm Sem ClassFile Op Lib Jvm.Stand Jvm.Free Jvm.LawKit Jvm.RoadKit
/-! ## 1. where a walk stands, and how it ends -/
/-- a walk may bear one more word on its base; KT: none -/
def KT : State → Prop := fun _ => True
def Ctx (K : State → Prop) (Z : State) (y : MethodName) (bytes : ByteArray) (ml : Nat) (ret : Option FieldType) (p : Program) (s : State) (m : MethodId) (meth : Method) (c : Code) : Prop :=
  p.tables.exec = Jvm.exec ∧ c.code = bytes ∧ c.maxLocals = ml ∧ s.vm.findClass y.cls = some m.cls ∧ Z.Warmed39 s.vm ∧ meth.sig.returnType = ret ∧ meth.locks = false ∧ meth.name = y.name ∧ K s
/-- what the walk's base has to do with the method's start: the same, or (where literals may be made) the start under later tables -/
def Base (wd : Bool) (s0 s : State) (h : Heap) : Prop := if wd = true then ∃ vm0 k0, s = s0.setVm vm0 ∧ s0.Since vm0 k0 ∧ k0 ≤ h.size else s = s0
def EndK (wd : Bool) (s0 : State) (o : Outcome) (t : State) (L : List Loc) (k n : Nat) : Prop := if wd = true then ReturnedEndW s0 o t L k n else FrameEnd s0 o t L k n
def Ends (wd : Bool) (n0 kc ks : Nat) (Q : Option Value → Heap → Prop) (p : Program) (e : Env) (below : List Frame) (s0 T : State) (g : JFrame) : Prop :=
  ∃ s₂ o, Steps p.tables e below (T.setTop g) s₂ ∧ s₂.status = .running ∧ Ended s₂ below o ∧ ∃ v L, o = .returned v ∧ (Q v s₂.heap ∧ Fr n0 L) ∧ EndK wd s0 o s₂ L kc ks
def Go (wd : Bool) (K : State → Prop) (l : Launch) (Z : State) (R : Room) (y : MethodName) (bytes : ByteArray) (ml : Nat) (ret : Option FieldType) (n0 kc ks : Nat) (Q : Option Value → Heap → Prop) (h : Heap) (k n pc : Nat) (ls : List Slot) (st : List Value) : Prop :=
  ∀ (p : Program) (e : Env) (s0 s : State) (m : MethodId) (args : Array Value) (below : List Frame) (meth : Method) (c : Code) (T : State) (L : List Loc),
    Base wd s0 s h → Ctx K Z y bytes ml ret p s m meth c → Stand p l e R s m args below meth c T L k n → T.heap = h → Fr n0 L → Ends wd n0 kc ks Q p e below s0 T (mkF m pc ls.toArray st)
/-- a contract: what a body leaves, called with the values as' over the heap h -/
def Con (wd : Bool) (l : Launch) (Z : State) (y : MethodName) (bytes : ByteArray) (ml : Nat) (ret : Option FieldType) (rm : Room) (as' : Array Value) (h : Heap) (n0 : Nat) (Q : Option Value → Heap → Prop) : Prop :=
  ∀ ws : List Cond, MetFree l y (head1 (Cond.code y bytes ml ret :: ws) rm) (fun a U => a = as' ∧ Z.Warmed39 U.vm ∧ U.heap = h) (fun _ _ _ _ _ => True)
    (fun _ U o U' => ∃ v L, o = .returned v ∧ ((Q v U'.heap ∧ h.size ≤ U'.heap.size) ∧ Fr n0 L) ∧ EndK wd U o U' L rm.cells rm.slots)
/-- it returns a value -/
def R1 (P : Value → Heap → Prop) : Option Value → Heap → Prop := fun v h => ∃ w, v = some w ∧ P w h
/-- it returns nothing -/
def R0 (P : Heap → Prop) : Option Value → Heap → Prop := fun v h => v = none ∧ P h
/-- it returns this value and leaves the heap as it was -/
abbrev Ret (w : Value) (h : Heap) : Option Value → Heap → Prop := R1 fun w' h' => w' = w ∧ h = h'
/-- a local variable written over -/
def setl : List Slot → Nat → Slot → List Slot
  | [], _, _ => []
  | _ :: r, 0, x => x :: r
  | a :: r, i + 1, x => a :: setl r i x
def lupd {α : Type} : List α → Nat → α → List α
  | [], _, _ => []
  | _ :: r, 0, x => x :: r
  | a :: r, i + 1, x => a :: lupd r i x
def one : Slot → Bool
  | .unset => true
  | .val v => v.category == 1
  | .second => false
def two : Slot → Slot → Bool
  | .val v, .second => v.category == 2
  | a, b => one a && one b
def Dc (bytes : ByteArray) (pc : Nat) (i : Instr) (len pc' : Nat) : Prop := decode bytes pc = .ok (i, len) ∧ pc + len = pc'
def Dp (bytes : ByteArray) (pc : Nat) (v : Int32) (pc' : Nat) : Prop := (∃ i, decode bytes pc = .ok (.iconst i, 1) ∧ Int32.ofInt i = v ∧ pc + 1 = pc') ∨ (∃ i, decode bytes pc = .ok (.bipush i, 2) ∧ (Int8.ofInt i).toInt32 = v ∧ pc + 2 = pc') ∨ (∃ i, decode bytes pc = .ok (.sipush i, 3) ∧ (Int16.ofInt i).toInt32 = v ∧ pc + 3 = pc')
def Dlc (bytes : ByteArray) (pc : Nat) (v : Int64) (pc' : Nat) : Prop := ∃ k : Fin 2, decode bytes pc = .ok (.lconst k, 1) ∧ Int64.ofNat k = v ∧ pc + 1 = pc'
/-- a branch: where it goes on, and where it leads -/
def Db (bytes : ByteArray) (pc : Nat) (f : Int → Instr) (pc' tg : Nat) : Prop := ∃ o : Int, decode bytes pc = .ok (f o, 3) ∧ pc + 3 = pc' ∧ 0 ≤ (pc : Int) + o ∧ ((pc : Int) + o).toNat = tg
def Dld (bytes : ByteArray) (pc : Nat) (f : Nat → Instr) (fn : Fin 4 → Instr) (i pc' : Nat) : Prop := (decode bytes pc = .ok (f i, 2) ∧ pc + 2 = pc') ∨ (∃ k : Fin 4, decode bytes pc = .ok (fn k, 1) ∧ k.val = i ∧ pc + 1 = pc')
def Dinc (bytes : ByteArray) (pc i : Nat) (v : Int32) (pc' : Nat) : Prop := ∃ c : Int, decode bytes pc = .ok (.iinc i c, 3) ∧ Int32.ofInt c = v ∧ pc + 3 = pc'
/-- the same, by the instructions' sorts -/
abbrev Dil (b : ByteArray) (pc i pc' : Nat) : Prop := Dld b pc .iload .iload_n i pc'
abbrev Dal (b : ByteArray) (pc i pc' : Nat) : Prop := Dld b pc .aload .aload_n i pc'
abbrev Dll (b : ByteArray) (pc i pc' : Nat) : Prop := Dld b pc .lload .lload_n i pc'
abbrev Dis (b : ByteArray) (pc i pc' : Nat) : Prop := Dld b pc .istore .istore_n i pc'
abbrev Das (b : ByteArray) (pc i pc' : Nat) : Prop := Dld b pc .astore .astore_n i pc'
abbrev Dls (b : ByteArray) (pc i pc' : Nat) : Prop := Dld b pc .lstore .lstore_n i pc'
section Walk
variable {wd : Bool} {K₀ : State → Prop} {l : Launch} {Z : State} {R : Room} {y : MethodName} {bytes : ByteArray} {ml : Nat} {ret : Option FieldType} {n0 kc ks : Nat} {Q : Option Value → Heap → Prop} {h : Heap} {k n pc pc' tg i : Nat} {ls : List Slot} {st : List Value} {a0 : Array Value}
theorem lrem64 (x y : Int64) : x - x / y * y = x % y := by
  apply Int64.toInt_inj.mp
  have h1 := Int64.le_toInt (x % y)
  have h2 := Int64.toInt_lt (x % y)
  rw [Int64.toInt_sub, Int64.toInt_mul, Int64.toInt_div, Int.bmod_mul_bmod, Int.sub_bmod_bmod, Int.mul_comm (x.toInt.tdiv y.toInt), ← Int.tmod_def, ← Int64.toInt_mod]
  exact Int.bmod_eq_of_le_mul_two (by omega) (by omega)
theorem setl_arr : ∀ (ls : List Slot) (i : Nat) (x : Slot), (setl ls i x).toArray = ls.toArray.setIfInBounds i x := by
  intro ls i x
  rw [List.setIfInBounds_toArray]
  congr 1
  induction ls generalizing i with
  | nil => simp [setl]
  | cons a r ih => cases i with
    | zero => simp [setl]
    | succ i => simp [setl, ih]
theorem setl_len : ∀ (ls : List Slot) (i : Nat) (x : Slot), (setl ls i x).length = ls.length := by
  intro ls i x
  induction ls generalizing i with
  | nil => rfl
  | cons a r ih => cases i with
    | zero => rfl
    | succ i => simp [setl, ih]
theorem upd_set {α : Type} : ∀ (ls : List α) (i : Nat) (x : α), lupd ls i x = ls.set i x := by
  intro ls i x
  induction ls generalizing i with
  | nil => simp [lupd]
  | cons a r ih => cases i with
    | zero => simp [lupd]
    | succ i => simp [lupd, ih]
theorem setl_get {ls : List Slot} {i : Nat} {x o : Slot} (h : ls[i]? = some o) (j : Nat) : (setl ls i x)[j]? = if j = i then some x else ls[j]? := by
  induction ls generalizing i j with
  | nil => simp at h
  | cons a r ih => cases i with
    | zero => cases j <;> simp [setl]
    | succ i => cases j with
      | zero => simp [setl]
      | succ j => simp only [setl, List.getElem?_cons_succ] at h ⊢; rw [ih h j]; simp
theorem Base.mono {s0 s : State} {h' : Heap} (B : Base wd s0 s h) (q : h.size ≤ h'.size) : Base wd s0 s h' := by
  cases wd
  · exact B
  · obtain ⟨vm0, k0, e1, e2, e3⟩ := B; exact ⟨vm0, k0, e1, e2, Nat.le_trans e3 q⟩
theorem Base.start (s : State) (hh : s.heap = h) : Base wd s s h := by
  cases wd
  · exact (rfl : s = s)
  · exact ⟨s.vm, h.size, rfl, (State.WarmedH.refl s).since _, Nat.le_refl _⟩
theorem EndK.size {s0 t : State} {o : Outcome} {L : List Loc} {k n : Nat} (E : EndK wd s0 o t L k n) : s0.heap.size ≤ t.heap.size := by
  cases wd
  · exact E.2.2.2.1
  · exact E.2.2.2.2.1
theorem endK {s0 s T : State} {fs : List Frame} {v : Option Value} {L : List Loc} (B : Base wd s0 s h) (hh : T.heap = h) (hW : s.WarmedH (T.setFrames fs).vm) (hsame : s.sameButNew ({ T.setFrames fs with vm := s.vm } : State) L k n) (hk : k ≤ kc) (hn : n ≤ ks) : EndK wd s0 (.returned v) (T.setFrames fs) L kc ks := by
  cases wd
  · have e : s = s0 := B
    subst e
    exact ⟨⟨_, rfl⟩, hW, hsame.mono hk hn⟩
  · obtain ⟨vm0, k0, rfl, hS, hk0⟩ := B
    obtain ⟨a1, a2, a3⟩ := hS.ended (U := T.setFrames fs) hW (by show k0 ≤ T.heap.size; rw [hh]; exact hk0) hsame
    exact ⟨⟨_, rfl⟩, a1, a2, a3.mono hk hn⟩
theorem Ends.pre {p : Program} {e : Env} {below : List Frame} {s0 T T' : State} {g g' : JFrame} (E : Ends wd n0 kc ks Q p e below s0 T' g') (st : ∀ t, Steps p.tables e below (T'.setTop g') t → Steps p.tables e below (T.setTop g) t) : Ends wd n0 kc ks Q p e below s0 T g := by
  obtain ⟨s₂, o, h1, r⟩ := E; exact ⟨s₂, o, st _ h1, r⟩
theorem go_pure {ls' : List Slot} {st' : List Value} (G : Go wd K₀ l Z R y bytes ml ret n0 kc ks Q h k n pc' ls' st') (H : ∀ {p : Program} {e : Env} {s : State} {m : MethodId} {args : Array Value} {below : List Frame} {meth : Method} {c : Code} {T : State} {L : List Loc}, Ctx K₀ Z y bytes ml ret p s m meth c → Stand p l e R s m args below meth c T L k n →
    ∀ t, Steps p.tables e below (T.setTop (mkF m pc' ls'.toArray st')) t → Steps p.tables e below (T.setTop (mkF m pc ls.toArray st)) t) : Go wd K₀ l Z R y bytes ml ret n0 kc ks Q h k n pc ls st :=
  fun p e s0 s m args below meth c T L B C X hh N => (G p e s0 s m args below meth c T L B C X hh N).pre (H C X)
theorem go_more {k' n' : Nat} (hk : k ≤ k') (hn : n ≤ n') (G : Go wd K₀ l Z R y bytes ml ret n0 kc ks Q h k' n' pc ls st) : Go wd K₀ l Z R y bytes ml ret n0 kc ks Q h k n pc ls st :=
  fun p e s0 s m args below meth c T L B C X hh N => G p e s0 s m args below meth c T L B C (X.more hk hn) hh N
theorem go_nameI {x : Int32} (G : ∀ v : Int32, v = x → Go wd K₀ l Z R y bytes ml ret n0 kc ks Q h k n pc ls (.int v :: st)) : Go wd K₀ l Z R y bytes ml ret n0 kc ks Q h k n pc ls (.int x :: st) := G x rfl
theorem go_nameJ {x : Int64} (G : ∀ v : Int64, v = x → Go wd K₀ l Z R y bytes ml ret n0 kc ks Q h k n pc ls (.long v :: st)) : Go wd K₀ l Z R y bytes ml ret n0 kc ks Q h k n pc ls (.long x :: st) := G x rfl
theorem go_isI {x : Int32} (x' : Int32) (q : x = x') (G : Go wd K₀ l Z R y bytes ml ret n0 kc ks Q h k n pc ls (.int x' :: st)) : Go wd K₀ l Z R y bytes ml ret n0 kc ks Q h k n pc ls (.int x :: st) := q ▸ G
theorem go_isJ {x : Int64} (x' : Int64) (q : x = x') (G : Go wd K₀ l Z R y bytes ml ret n0 kc ks Q h k n pc ls (.long x' :: st)) : Go wd K₀ l Z R y bytes ml ret n0 kc ks Q h k n pc ls (.long x :: st) := q ▸ G
theorem go_iload {v : Int32} (D : Dil bytes pc i pc') (hl : ls[i]? = some (.val (.int v))) (G : Go wd K₀ l Z R y bytes ml ret n0 kc ks Q h k n pc' ls (.int v :: st)) : Go wd K₀ l Z R y bytes ml ret n0 kc ks Q h k n pc ls st := by
  rcases D with ⟨hd, rfl⟩ | ⟨kk, hd, rfl, rfl⟩
  · exact go_pure G (fun C X t => XS.iload X.here C.1 (g := mkF _ pc ls.toArray st) rfl (hb C.2.1 hd) (by simpa using hl))
  · exact go_pure G (fun C X t => XS.iloadN X.here C.1 (g := mkF _ pc ls.toArray st) rfl (hb C.2.1 hd) (by simpa using hl))
theorem go_lload {v : Int64} (D : Dll bytes pc i pc') (hl : ls[i]? = some (.val (.long v))) (G : Go wd K₀ l Z R y bytes ml ret n0 kc ks Q h k n pc' ls (.long v :: st)) : Go wd K₀ l Z R y bytes ml ret n0 kc ks Q h k n pc ls st := by
  rcases D with ⟨hd, rfl⟩ | ⟨kk, hd, rfl, rfl⟩
  · exact go_pure G (fun C X t => XT.lload X.here C.1 (g := mkF _ pc ls.toArray st) rfl (hb C.2.1 hd) (by simpa using hl))
  · exact go_pure G (fun C X t => XT.lloadN X.here C.1 (g := mkF _ pc ls.toArray st) rfl (hb C.2.1 hd) (by simpa using hl))
theorem go_aload {v : Value} (D : Dal bytes pc i pc') (hl : ls[i]? = some (.val v)) (hv : v.isRef = true) (G : Go wd K₀ l Z R y bytes ml ret n0 kc ks Q h k n pc' ls (v :: st)) : Go wd K₀ l Z R y bytes ml ret n0 kc ks Q h k n pc ls st := by
  rcases D with ⟨hd, rfl⟩ | ⟨kk, hd, rfl, rfl⟩
  · exact go_pure G (fun C X t => XS.aload X.here C.1 (g := mkF _ pc ls.toArray st) rfl (hb C.2.1 hd) (by simpa using hl) hv)
  · exact go_pure G (fun C X t => XS.aloadN X.here C.1 (g := mkF _ pc ls.toArray st) rfl (hb C.2.1 hd) (by simpa using hl) hv)
theorem store_one {ls : List Slot} {i : Nat} {v : Value} {o : Slot} (hv : v.category = 1) (hl : ls[i]? = some o) (ho : one o = true) : storeLocals ls.toArray i v = some (setl ls i (.val v)).toArray := by
  rw [setl_arr]
  refine storeLocals_cat1 (x := o) (by simpa using hl) hv ?_
  cases o <;> simp [one] at ho ⊢
  exact ho
theorem store_two {ls : List Slot} {i : Nat} {v : Value} {o o' : Slot} (hv : v.category = 2) (hl : ls[i]? = some o) (hl' : ls[i + 1]? = some o') (ho : two o o' = true) : storeLocals ls.toArray i v = some (setl (setl ls i (.val v)) (i + 1) .second).toArray := by
  rw [setl_arr, setl_arr]
  refine Jvm.Free.Fl.storeLocals_cat2 (by simpa using hl) (by simpa using hl') hv ?_
  cases o <;> cases o' <;> simp_all [two, one, Jvm.Free.Fl.Plain1]
theorem go_istore {x : Int32} {o : Slot} (D : Dis bytes pc i pc') (hl : ls[i]? = some o) (ho : one o = true) (G : Go wd K₀ l Z R y bytes ml ret n0 kc ks Q h k n pc' (setl ls i (.val (.int x))) st) : Go wd K₀ l Z R y bytes ml ret n0 kc ks Q h k n pc ls (.int x :: st) := by
  rcases D with ⟨hd, rfl⟩ | ⟨kk, hd, rfl, rfl⟩
  · exact go_pure G (fun C X t => XS.istore X.here C.1 (g := mkF _ pc ls.toArray (.int x :: st)) rfl (hb C.2.1 hd) rfl (store_one rfl hl ho))
  · exact go_pure G (fun C X t => XS.istoreN X.here C.1 (g := mkF _ pc ls.toArray (.int x :: st)) rfl (hb C.2.1 hd) rfl (store_one rfl hl ho))
theorem go_astore {x : Value} {o : Slot} (D : Das bytes pc i pc') (hv : x.isRef = true) (hl : ls[i]? = some o) (ho : one o = true) (G : Go wd K₀ l Z R y bytes ml ret n0 kc ks Q h k n pc' (setl ls i (.val x)) st) : Go wd K₀ l Z R y bytes ml ret n0 kc ks Q h k n pc ls (x :: st) := by
  have hc : x.category = 1 := XT.cat1 hv
  rcases D with ⟨hd, rfl⟩ | ⟨kk, hd, rfl, rfl⟩
  · exact go_pure G (fun C X t => XS.astore X.here C.1 (g := mkF _ pc ls.toArray (x :: st)) rfl (hb C.2.1 hd) rfl hv (store_one hc hl ho))
  · exact go_pure G (fun C X t => XS.astoreN X.here C.1 (g := mkF _ pc ls.toArray (x :: st)) rfl (hb C.2.1 hd) rfl hv (store_one hc hl ho))
theorem go_lstore {x : Int64} {o o' : Slot} (D : Dls bytes pc i pc') (hl : ls[i]? = some o) (hl' : ls[i + 1]? = some o') (ho : two o o' = true) (G : Go wd K₀ l Z R y bytes ml ret n0 kc ks Q h k n pc' (setl (setl ls i (.val (.long x))) (i + 1) .second) st) : Go wd K₀ l Z R y bytes ml ret n0 kc ks Q h k n pc ls (.long x :: st) := by
  rcases D with ⟨hd, rfl⟩ | ⟨kk, hd, rfl, rfl⟩
  · exact go_pure G (fun C X t => XT.lstore X.here C.1 (g := mkF _ pc ls.toArray (.long x :: st)) rfl (hb C.2.1 hd) rfl (store_two rfl hl hl' ho))
  · exact go_pure G (fun C X t => XT.lstoreN X.here C.1 (g := mkF _ pc ls.toArray (.long x :: st)) rfl (hb C.2.1 hd) rfl (store_two rfl hl hl' ho))
/-- any store, the locals said -/
theorem go_istoreX {x : Int32} {ls' : List Slot} (D : Dis bytes pc i pc') (hl : storeLocals ls.toArray i (.int x) = some ls'.toArray) (G : Go wd K₀ l Z R y bytes ml ret n0 kc ks Q h k n pc' ls' st) : Go wd K₀ l Z R y bytes ml ret n0 kc ks Q h k n pc ls (.int x :: st) := by
  rcases D with ⟨hd, rfl⟩ | ⟨kk, hd, rfl, rfl⟩
  · exact go_pure G (fun C X t => XS.istore X.here C.1 (g := mkF _ pc ls.toArray (.int x :: st)) rfl (hb C.2.1 hd) rfl hl)
  · exact go_pure G (fun C X t => XS.istoreN X.here C.1 (g := mkF _ pc ls.toArray (.int x :: st)) rfl (hb C.2.1 hd) rfl hl)
theorem go_astoreX {x : Value} {ls' : List Slot} (D : Das bytes pc i pc') (hv : x.isRef = true) (hl : storeLocals ls.toArray i x = some ls'.toArray) (G : Go wd K₀ l Z R y bytes ml ret n0 kc ks Q h k n pc' ls' st) : Go wd K₀ l Z R y bytes ml ret n0 kc ks Q h k n pc ls (x :: st) := by
  rcases D with ⟨hd, rfl⟩ | ⟨kk, hd, rfl, rfl⟩
  · exact go_pure G (fun C X t => XS.astore X.here C.1 (g := mkF _ pc ls.toArray (x :: st)) rfl (hb C.2.1 hd) rfl hv hl)
  · exact go_pure G (fun C X t => XS.astoreN X.here C.1 (g := mkF _ pc ls.toArray (x :: st)) rfl (hb C.2.1 hd) rfl hv hl)
theorem go_lstoreX {x : Int64} {ls' : List Slot} (D : Dls bytes pc i pc') (hl : storeLocals ls.toArray i (.long x) = some ls'.toArray) (G : Go wd K₀ l Z R y bytes ml ret n0 kc ks Q h k n pc' ls' st) : Go wd K₀ l Z R y bytes ml ret n0 kc ks Q h k n pc ls (.long x :: st) := by
  rcases D with ⟨hd, rfl⟩ | ⟨kk, hd, rfl, rfl⟩
  · exact go_pure G (fun C X t => XT.lstore X.here C.1 (g := mkF _ pc ls.toArray (.long x :: st)) rfl (hb C.2.1 hd) rfl hl)
  · exact go_pure G (fun C X t => XT.lstoreN X.here C.1 (g := mkF _ pc ls.toArray (.long x :: st)) rfl (hb C.2.1 hd) rfl hl)
theorem go_iinc {x v : Int32} (D : Dinc bytes pc i v pc') (hl : ls[i]? = some (.val (.int x))) (G : Go wd K₀ l Z R y bytes ml ret n0 kc ks Q h k n pc' (setl ls i (.val (.int (x + v)))) st) : Go wd K₀ l Z R y bytes ml ret n0 kc ks Q h k n pc ls st := by
  obtain ⟨c, hd, rfl, rfl⟩ := D
  exact go_pure G (fun C X t => XS.iinc X.here C.1 (g := mkF _ pc ls.toArray st) rfl (hb C.2.1 hd) (by simpa using hl) (store_one rfl hl rfl))
theorem go_iincX {x v x' : Int32} (D : Dinc bytes pc i v pc') (hl : ls[i]? = some (.val (.int x))) (q : x + v = x') (G : Go wd K₀ l Z R y bytes ml ret n0 kc ks Q h k n pc' (setl ls i (.val (.int x'))) st) : Go wd K₀ l Z R y bytes ml ret n0 kc ks Q h k n pc ls st := go_iinc D hl (q ▸ G)
theorem go_push {v : Int32} (D : Dp bytes pc v pc') (G : Go wd K₀ l Z R y bytes ml ret n0 kc ks Q h k n pc' ls (.int v :: st)) : Go wd K₀ l Z R y bytes ml ret n0 kc ks Q h k n pc ls st := by
  rcases D with ⟨_, hd, rfl, rfl⟩ | ⟨_, hd, rfl, rfl⟩ | ⟨_, hd, rfl, rfl⟩
  · exact go_pure G (fun C X t => XS.iconst X.here C.1 (g := mkF _ pc ls.toArray st) rfl (hb C.2.1 hd))
  · exact go_pure G (fun C X t => XS.bipush X.here C.1 (g := mkF _ pc ls.toArray st) rfl (hb C.2.1 hd))
  · exact go_pure G (fun C X t => XS.sipush X.here C.1 (g := mkF _ pc ls.toArray st) rfl (hb C.2.1 hd))
theorem go_lconst {v : Int64} (D : Dlc bytes pc v pc') (G : Go wd K₀ l Z R y bytes ml ret n0 kc ks Q h k n pc' ls (.long v :: st)) : Go wd K₀ l Z R y bytes ml ret n0 kc ks Q h k n pc ls st := by
  obtain ⟨_, hd, rfl, rfl⟩ := D
  exact go_pure G (fun C X t => XT.lconst X.here C.1 (g := mkF _ pc ls.toArray st) rfl (hb C.2.1 hd))
theorem go_null (D : Dc bytes pc .aconst_null 1 pc') (G : Go wd K₀ l Z R y bytes ml ret n0 kc ks Q h k n pc' ls (.null :: st)) : Go wd K₀ l Z R y bytes ml ret n0 kc ks Q h k n pc ls st := by
  obtain ⟨hd, rfl⟩ := D
  exact go_pure G (fun C X t => XS.aconstNull X.here C.1 (g := mkF _ pc ls.toArray st) rfl (hb C.2.1 hd))
theorem go_iadd {a : Int32} {b : Int32} (D : Dc bytes pc .iadd 1 pc') (G : Go wd K₀ l Z R y bytes ml ret n0 kc ks Q h k n pc' ls (.int (a + b) :: st)) : Go wd K₀ l Z R y bytes ml ret n0 kc ks Q h k n pc ls (.int b :: .int a :: st) := by
  obtain ⟨hd, rfl⟩ := D
  exact go_pure G (fun C X t => XS.iadd X.here C.1 (g := mkF _ pc ls.toArray (.int b :: .int a :: st)) rfl (hb C.2.1 hd) rfl)
theorem go_isub {a : Int32} {b : Int32} (D : Dc bytes pc .isub 1 pc') (G : Go wd K₀ l Z R y bytes ml ret n0 kc ks Q h k n pc' ls (.int (a - b) :: st)) : Go wd K₀ l Z R y bytes ml ret n0 kc ks Q h k n pc ls (.int b :: .int a :: st) := by
  obtain ⟨hd, rfl⟩ := D
  exact go_pure G (fun C X t => XS.isub X.here C.1 (g := mkF _ pc ls.toArray (.int b :: .int a :: st)) rfl (hb C.2.1 hd) rfl)
theorem go_imul {a : Int32} {b : Int32} (D : Dc bytes pc .imul 1 pc') (G : Go wd K₀ l Z R y bytes ml ret n0 kc ks Q h k n pc' ls (.int (a * b) :: st)) : Go wd K₀ l Z R y bytes ml ret n0 kc ks Q h k n pc ls (.int b :: .int a :: st) := by
  obtain ⟨hd, rfl⟩ := D
  exact go_pure G (fun C X t => XS.imul X.here C.1 (g := mkF _ pc ls.toArray (.int b :: .int a :: st)) rfl (hb C.2.1 hd) rfl)
theorem go_iand {a : Int32} {b : Int32} (D : Dc bytes pc .iand 1 pc') (G : Go wd K₀ l Z R y bytes ml ret n0 kc ks Q h k n pc' ls (.int (a &&& b) :: st)) : Go wd K₀ l Z R y bytes ml ret n0 kc ks Q h k n pc ls (.int b :: .int a :: st) := by
  obtain ⟨hd, rfl⟩ := D
  exact go_pure G (fun C X t => XS.iand X.here C.1 (g := mkF _ pc ls.toArray (.int b :: .int a :: st)) rfl (hb C.2.1 hd) rfl)
theorem go_ior {a : Int32} {b : Int32} (D : Dc bytes pc .ior 1 pc') (G : Go wd K₀ l Z R y bytes ml ret n0 kc ks Q h k n pc' ls (.int (a ||| b) :: st)) : Go wd K₀ l Z R y bytes ml ret n0 kc ks Q h k n pc ls (.int b :: .int a :: st) := by
  obtain ⟨hd, rfl⟩ := D
  exact go_pure G (fun C X t => XT.ior X.here C.1 (g := mkF _ pc ls.toArray (.int b :: .int a :: st)) rfl (hb C.2.1 hd) rfl)
theorem go_ixor {a : Int32} {b : Int32} (D : Dc bytes pc .ixor 1 pc') (G : Go wd K₀ l Z R y bytes ml ret n0 kc ks Q h k n pc' ls (.int (a ^^^ b) :: st)) : Go wd K₀ l Z R y bytes ml ret n0 kc ks Q h k n pc ls (.int b :: .int a :: st) := by
  obtain ⟨hd, rfl⟩ := D
  exact go_pure G (fun C X t => XT.ixor X.here C.1 (g := mkF _ pc ls.toArray (.int b :: .int a :: st)) rfl (hb C.2.1 hd) rfl)
theorem go_idiv {a : Int32} {b : Int32} (D : Dc bytes pc .idiv 1 pc') (hz : b ≠ 0) (G : Go wd K₀ l Z R y bytes ml ret n0 kc ks Q h k n pc' ls (.int (a / b) :: st)) : Go wd K₀ l Z R y bytes ml ret n0 kc ks Q h k n pc ls (.int b :: .int a :: st) := by
  obtain ⟨hd, rfl⟩ := D
  exact go_pure G (fun C X t => XS.idiv X.here C.1 (g := mkF _ pc ls.toArray (.int b :: .int a :: st)) rfl (hb C.2.1 hd) rfl hz)
theorem go_ladd {a : Int64} {b : Int64} (D : Dc bytes pc .ladd 1 pc') (G : Go wd K₀ l Z R y bytes ml ret n0 kc ks Q h k n pc' ls (.long (a + b) :: st)) : Go wd K₀ l Z R y bytes ml ret n0 kc ks Q h k n pc ls (.long b :: .long a :: st) := by
  obtain ⟨hd, rfl⟩ := D
  exact go_pure G (fun C X t => XT.ladd X.here C.1 (g := mkF _ pc ls.toArray (.long b :: .long a :: st)) rfl (hb C.2.1 hd) rfl)
theorem go_lsub {a : Int64} {b : Int64} (D : Dc bytes pc .lsub 1 pc') (G : Go wd K₀ l Z R y bytes ml ret n0 kc ks Q h k n pc' ls (.long (a - b) :: st)) : Go wd K₀ l Z R y bytes ml ret n0 kc ks Q h k n pc ls (.long b :: .long a :: st) := by
  obtain ⟨hd, rfl⟩ := D
  exact go_pure G (fun C X t => XT.lsub X.here C.1 (g := mkF _ pc ls.toArray (.long b :: .long a :: st)) rfl (hb C.2.1 hd) rfl)
theorem go_lmul {a : Int64} {b : Int64} (D : Dc bytes pc .lmul 1 pc') (G : Go wd K₀ l Z R y bytes ml ret n0 kc ks Q h k n pc' ls (.long (a * b) :: st)) : Go wd K₀ l Z R y bytes ml ret n0 kc ks Q h k n pc ls (.long b :: .long a :: st) := by
  obtain ⟨hd, rfl⟩ := D
  exact go_pure G (fun C X t => XT.lmul X.here C.1 (g := mkF _ pc ls.toArray (.long b :: .long a :: st)) rfl (hb C.2.1 hd) rfl)
theorem go_land {a : Int64} {b : Int64} (D : Dc bytes pc .land 1 pc') (G : Go wd K₀ l Z R y bytes ml ret n0 kc ks Q h k n pc' ls (.long (a &&& b) :: st)) : Go wd K₀ l Z R y bytes ml ret n0 kc ks Q h k n pc ls (.long b :: .long a :: st) := by
  obtain ⟨hd, rfl⟩ := D
  exact go_pure G (fun C X t => XT.land X.here C.1 (g := mkF _ pc ls.toArray (.long b :: .long a :: st)) rfl (hb C.2.1 hd) rfl)
theorem go_lor {a : Int64} {b : Int64} (D : Dc bytes pc .lor 1 pc') (G : Go wd K₀ l Z R y bytes ml ret n0 kc ks Q h k n pc' ls (.long (a ||| b) :: st)) : Go wd K₀ l Z R y bytes ml ret n0 kc ks Q h k n pc ls (.long b :: .long a :: st) := by
  obtain ⟨hd, rfl⟩ := D
  exact go_pure G (fun C X t => XT.lor X.here C.1 (g := mkF _ pc ls.toArray (.long b :: .long a :: st)) rfl (hb C.2.1 hd) rfl)
theorem go_lxor {a : Int64} {b : Int64} (D : Dc bytes pc .lxor 1 pc') (G : Go wd K₀ l Z R y bytes ml ret n0 kc ks Q h k n pc' ls (.long (a ^^^ b) :: st)) : Go wd K₀ l Z R y bytes ml ret n0 kc ks Q h k n pc ls (.long b :: .long a :: st) := by
  obtain ⟨hd, rfl⟩ := D
  exact go_pure G (fun C X t => XT.lxor X.here C.1 (g := mkF _ pc ls.toArray (.long b :: .long a :: st)) rfl (hb C.2.1 hd) rfl)
theorem go_ldiv {a : Int64} {b : Int64} (D : Dc bytes pc .ldiv 1 pc') (hz : b ≠ 0) (G : Go wd K₀ l Z R y bytes ml ret n0 kc ks Q h k n pc' ls (.long (a / b) :: st)) : Go wd K₀ l Z R y bytes ml ret n0 kc ks Q h k n pc ls (.long b :: .long a :: st) := by
  obtain ⟨hd, rfl⟩ := D
  exact go_pure G (fun C X t => XT.ldiv X.here C.1 (g := mkF _ pc ls.toArray (.long b :: .long a :: st)) rfl (hb C.2.1 hd) rfl hz)
theorem go_ishl {a : Int32} {b : Int32} (D : Dc bytes pc .ishl 1 pc') (G : Go wd K₀ l Z R y bytes ml ret n0 kc ks Q h k n pc' ls (.int (a <<< (b &&& 31)) :: st)) : Go wd K₀ l Z R y bytes ml ret n0 kc ks Q h k n pc ls (.int b :: .int a :: st) := by
  obtain ⟨hd, rfl⟩ := D
  exact go_pure G (fun C X t => XT.ishl X.here C.1 (g := mkF _ pc ls.toArray (.int b :: .int a :: st)) rfl (hb C.2.1 hd) rfl)
theorem go_ishr {a : Int32} {b : Int32} (D : Dc bytes pc .ishr 1 pc') (G : Go wd K₀ l Z R y bytes ml ret n0 kc ks Q h k n pc' ls (.int (a >>> (b &&& 31)) :: st)) : Go wd K₀ l Z R y bytes ml ret n0 kc ks Q h k n pc ls (.int b :: .int a :: st) := by
  obtain ⟨hd, rfl⟩ := D
  exact go_pure G (fun C X t => XT.ishr X.here C.1 (g := mkF _ pc ls.toArray (.int b :: .int a :: st)) rfl (hb C.2.1 hd) rfl)
theorem go_iushr {a : Int32} {b : Int32} (D : Dc bytes pc .iushr 1 pc') (G : Go wd K₀ l Z R y bytes ml ret n0 kc ks Q h k n pc' ls (.int (XT.ushr a b) :: st)) : Go wd K₀ l Z R y bytes ml ret n0 kc ks Q h k n pc ls (.int b :: .int a :: st) := by
  obtain ⟨hd, rfl⟩ := D
  exact go_pure G (fun C X t => XT.iushr X.here C.1 (g := mkF _ pc ls.toArray (.int b :: .int a :: st)) rfl (hb C.2.1 hd) rfl)
theorem go_lshl {a : Int64} {b : Int32} (D : Dc bytes pc .lshl 1 pc') (G : Go wd K₀ l Z R y bytes ml ret n0 kc ks Q h k n pc' ls (.long (a <<< (b.toInt64 &&& 63)) :: st)) : Go wd K₀ l Z R y bytes ml ret n0 kc ks Q h k n pc ls (.int b :: .long a :: st) := by
  obtain ⟨hd, rfl⟩ := D
  exact go_pure G (fun C X t => XT.lshl X.here C.1 (g := mkF _ pc ls.toArray (.int b :: .long a :: st)) rfl (hb C.2.1 hd) rfl)
theorem go_lshr {a : Int64} {b : Int32} (D : Dc bytes pc .lshr 1 pc') (G : Go wd K₀ l Z R y bytes ml ret n0 kc ks Q h k n pc' ls (.long (a >>> (b.toInt64 &&& 63)) :: st)) : Go wd K₀ l Z R y bytes ml ret n0 kc ks Q h k n pc ls (.int b :: .long a :: st) := by
  obtain ⟨hd, rfl⟩ := D
  exact go_pure G (fun C X t => XT.lshr X.here C.1 (g := mkF _ pc ls.toArray (.int b :: .long a :: st)) rfl (hb C.2.1 hd) rfl)
theorem go_lushr {a : Int64} {b : Int32} (D : Dc bytes pc .lushr 1 pc') (G : Go wd K₀ l Z R y bytes ml ret n0 kc ks Q h k n pc' ls (.long (XT.ushrL a b) :: st)) : Go wd K₀ l Z R y bytes ml ret n0 kc ks Q h k n pc ls (.int b :: .long a :: st) := by
  obtain ⟨hd, rfl⟩ := D
  exact go_pure G (fun C X t => XT.lushr X.here C.1 (g := mkF _ pc ls.toArray (.int b :: .long a :: st)) rfl (hb C.2.1 hd) rfl)
theorem go_lcmp {a : Int64} {b : Int64} (D : Dc bytes pc .lcmp 1 pc') (G : Go wd K₀ l Z R y bytes ml ret n0 kc ks Q h k n pc' ls (.int (XT.cmpL a b) :: st)) : Go wd K₀ l Z R y bytes ml ret n0 kc ks Q h k n pc ls (.long b :: .long a :: st) := by
  obtain ⟨hd, rfl⟩ := D
  exact go_pure G (fun C X t => XT.lcmp X.here C.1 (g := mkF _ pc ls.toArray (.long b :: .long a :: st)) rfl (hb C.2.1 hd) rfl)
theorem go_irem {a b : Int32} (D : Dc bytes pc .irem 1 pc') (hz : b ≠ 0) (G : Go wd K₀ l Z R y bytes ml ret n0 kc ks Q h k n pc' ls (.int (a % b) :: st)) : Go wd K₀ l Z R y bytes ml ret n0 kc ks Q h k n pc ls (.int b :: .int a :: st) := by
  obtain ⟨hd, rfl⟩ := D
  exact go_pure G (fun C X t hr => iremM X C.1 (g := mkF _ pc ls.toArray (.int b :: .int a :: st)) rfl (hb C.2.1 hd) rfl hz hr)
theorem go_lrem {a b : Int64} (D : Dc bytes pc .lrem 1 pc') (hz : b ≠ 0) (G : Go wd K₀ l Z R y bytes ml ret n0 kc ks Q h k n pc' ls (.long (a % b) :: st)) : Go wd K₀ l Z R y bytes ml ret n0 kc ks Q h k n pc ls (.long b :: .long a :: st) := by
  obtain ⟨hd, rfl⟩ := D
  rw [← lrem64] at G
  exact go_pure G (fun C X t => XT.lrem X.here C.1 (g := mkF _ pc ls.toArray (.long b :: .long a :: st)) rfl (hb C.2.1 hd) rfl hz)
theorem go_ineg {a : Int32} (D : Dc bytes pc .ineg 1 pc') (G : Go wd K₀ l Z R y bytes ml ret n0 kc ks Q h k n pc' ls (.int (-a) :: st)) : Go wd K₀ l Z R y bytes ml ret n0 kc ks Q h k n pc ls (.int a :: st) := by
  obtain ⟨hd, rfl⟩ := D
  exact go_pure G (fun C X t => XS.ineg X.here C.1 (g := mkF _ pc ls.toArray (.int a :: st)) rfl (hb C.2.1 hd) rfl)
theorem go_lneg {a : Int64} (D : Dc bytes pc .lneg 1 pc') (G : Go wd K₀ l Z R y bytes ml ret n0 kc ks Q h k n pc' ls (.long (-a) :: st)) : Go wd K₀ l Z R y bytes ml ret n0 kc ks Q h k n pc ls (.long a :: st) := by
  obtain ⟨hd, rfl⟩ := D
  exact go_pure G (fun C X t => XT.lneg X.here C.1 (g := mkF _ pc ls.toArray (.long a :: st)) rfl (hb C.2.1 hd) rfl)
theorem go_i2l {a : Int32} (D : Dc bytes pc .i2l 1 pc') (G : Go wd K₀ l Z R y bytes ml ret n0 kc ks Q h k n pc' ls (.long a.toInt64 :: st)) : Go wd K₀ l Z R y bytes ml ret n0 kc ks Q h k n pc ls (.int a :: st) := by
  obtain ⟨hd, rfl⟩ := D
  exact go_pure G (fun C X t => XT.i2l X.here C.1 (g := mkF _ pc ls.toArray (.int a :: st)) rfl (hb C.2.1 hd) rfl)
theorem go_l2i {a : Int64} (D : Dc bytes pc .l2i 1 pc') (G : Go wd K₀ l Z R y bytes ml ret n0 kc ks Q h k n pc' ls (.int a.toInt32 :: st)) : Go wd K₀ l Z R y bytes ml ret n0 kc ks Q h k n pc ls (.long a :: st) := by
  obtain ⟨hd, rfl⟩ := D
  exact go_pure G (fun C X t => XT.l2i X.here C.1 (g := mkF _ pc ls.toArray (.long a :: st)) rfl (hb C.2.1 hd) rfl)
theorem go_i2b {a : Int32} (D : Dc bytes pc .i2b 1 pc') (G : Go wd K₀ l Z R y bytes ml ret n0 kc ks Q h k n pc' ls (.int a.toInt8.toInt32 :: st)) : Go wd K₀ l Z R y bytes ml ret n0 kc ks Q h k n pc ls (.int a :: st) := by
  obtain ⟨hd, rfl⟩ := D
  exact go_pure G (fun C X t => XT.i2b X.here C.1 (g := mkF _ pc ls.toArray (.int a :: st)) rfl (hb C.2.1 hd) rfl)
theorem go_i2s {a : Int32} (D : Dc bytes pc .i2s 1 pc') (G : Go wd K₀ l Z R y bytes ml ret n0 kc ks Q h k n pc' ls (.int a.toInt16.toInt32 :: st)) : Go wd K₀ l Z R y bytes ml ret n0 kc ks Q h k n pc ls (.int a :: st) := by
  obtain ⟨hd, rfl⟩ := D
  exact go_pure G (fun C X t => XT.i2s X.here C.1 (g := mkF _ pc ls.toArray (.int a :: st)) rfl (hb C.2.1 hd) rfl)
theorem go_i2c {a : Int32} (D : Dc bytes pc .i2c 1 pc') (G : Go wd K₀ l Z R y bytes ml ret n0 kc ks Q h k n pc' ls (.int a.toUInt32.toUInt16.toUInt32.toInt32 :: st)) : Go wd K₀ l Z R y bytes ml ret n0 kc ks Q h k n pc ls (.int a :: st) := by
  obtain ⟨hd, rfl⟩ := D
  exact go_pure G (fun C X t => XT.i2c X.here C.1 (g := mkF _ pc ls.toArray (.int a :: st)) rfl (hb C.2.1 hd) rfl)
theorem go_dup {v : Value} (D : Dc bytes pc .dup 1 pc') (hv : v.category = 1) (G : Go wd K₀ l Z R y bytes ml ret n0 kc ks Q h k n pc' ls (v :: v :: st)) : Go wd K₀ l Z R y bytes ml ret n0 kc ks Q h k n pc ls (v :: st) := by
  obtain ⟨hd, rfl⟩ := D
  exact go_pure G (fun C X t => XS.dup X.here C.1 (g := mkF _ pc ls.toArray (v :: st)) rfl (hb C.2.1 hd) rfl hv)
theorem go_pop {v : Value} (D : Dc bytes pc .pop 1 pc') (hv : v.category = 1) (G : Go wd K₀ l Z R y bytes ml ret n0 kc ks Q h k n pc' ls st) : Go wd K₀ l Z R y bytes ml ret n0 kc ks Q h k n pc ls (v :: st) := by
  obtain ⟨hd, rfl⟩ := D
  exact go_pure G (fun C X t => XT.pop X.here C.1 (g := mkF _ pc ls.toArray (v :: st)) rfl (hb C.2.1 hd) rfl hv)
theorem go_dupx1 {v w : Value} (D : Dc bytes pc .dup_x1 1 pc') (hv : v.category = 1) (hw : w.category = 1) (G : Go wd K₀ l Z R y bytes ml ret n0 kc ks Q h k n pc' ls (v :: w :: v :: st)) : Go wd K₀ l Z R y bytes ml ret n0 kc ks Q h k n pc ls (v :: w :: st) := by
  obtain ⟨hd, rfl⟩ := D
  exact go_pure G (fun C X t => XT.dupX1 X.here C.1 (g := mkF _ pc ls.toArray (v :: w :: st)) rfl (hb C.2.1 hd) rfl hv hw)
theorem go_dup2 {v w : Value} (D : Dc bytes pc .dup2 1 pc') (hv : v.category = 1) (hw : w.category = 1) (G : Go wd K₀ l Z R y bytes ml ret n0 kc ks Q h k n pc' ls (v :: w :: v :: w :: st)) : Go wd K₀ l Z R y bytes ml ret n0 kc ks Q h k n pc ls (v :: w :: st) := by
  obtain ⟨hd, rfl⟩ := D
  exact go_pure G (fun C X t => XT.dup2 X.here C.1 (g := mkF _ pc ls.toArray (v :: w :: st)) rfl (hb C.2.1 hd) rfl hv hw)
theorem go_dup2L {v : Int64} (D : Dc bytes pc .dup2 1 pc') (G : Go wd K₀ l Z R y bytes ml ret n0 kc ks Q h k n pc' ls (.long v :: .long v :: st)) : Go wd K₀ l Z R y bytes ml ret n0 kc ks Q h k n pc ls (.long v :: st) := by
  obtain ⟨hd, rfl⟩ := D
  exact go_pure G (fun C X t => XT.dup2L X.here C.1 (g := mkF _ pc ls.toArray (.long v :: st)) rfl (hb C.2.1 hd) rfl)
theorem go_goto (D : Db bytes pc .goto pc' tg) (G : Go wd K₀ l Z R y bytes ml ret n0 kc ks Q h k n tg ls st) : Go wd K₀ l Z R y bytes ml ret n0 kc ks Q h k n pc ls st := by
  obtain ⟨o, hd, rfl, ho, hp⟩ := D
  exact go_pure G (fun C X t => XS.goto X.here C.1 (g := mkF _ pc ls.toArray st) rfl (pc0 := pc) rfl (hb C.2.1 hd) ho hp)
theorem go_icmp_eq {a b : Int32} (D : Db bytes pc (.if_icmp .eq) pc' tg) (G1 : a = b → Go wd K₀ l Z R y bytes ml ret n0 kc ks Q h k n tg ls st) (G2 : ¬ a = b → Go wd K₀ l Z R y bytes ml ret n0 kc ks Q h k n pc' ls st) : Go wd K₀ l Z R y bytes ml ret n0 kc ks Q h k n pc ls (.int b :: .int a :: st) := by
  obtain ⟨o, hd, rfl, ho, hp⟩ := D
  by_cases q : a = b
  · exact go_pure (G1 q) (fun C X t => XS.icmpYes X.here C.1 (g := mkF _ pc ls.toArray (.int b :: .int a :: st)) rfl (pc0 := pc) rfl (hb C.2.1 hd) rfl (XT.ii_eq_t q) ho hp)
  · exact go_pure (G2 q) (fun C X t => XS.icmpNo X.here C.1 (g := mkF _ pc ls.toArray (.int b :: .int a :: st)) rfl (hb C.2.1 hd) rfl (XT.ii_eq_f q))
theorem go_if_eq {a : Int32} (D : Db bytes pc (.ifCond .eq) pc' tg) (G1 : a = 0 → Go wd K₀ l Z R y bytes ml ret n0 kc ks Q h k n tg ls st) (G2 : ¬ a = 0 → Go wd K₀ l Z R y bytes ml ret n0 kc ks Q h k n pc' ls st) : Go wd K₀ l Z R y bytes ml ret n0 kc ks Q h k n pc ls (.int a :: st) := by
  obtain ⟨o, hd, rfl, ho, hp⟩ := D
  by_cases q : a = 0
  · exact go_pure (G1 q) (fun C X t => XS.ifYes X.here C.1 (g := mkF _ pc ls.toArray (.int a :: st)) rfl (pc0 := pc) rfl (hb C.2.1 hd) rfl (XT.i0_eq_t q) ho hp)
  · exact go_pure (G2 q) (fun C X t => XS.ifNo X.here C.1 (g := mkF _ pc ls.toArray (.int a :: st)) rfl (hb C.2.1 hd) rfl (XT.i0_eq_f q))
theorem go_lc_eq {a b : Int64} (D : Db bytes pc (.ifCond .eq) pc' tg) (G1 : a = b → Go wd K₀ l Z R y bytes ml ret n0 kc ks Q h k n tg ls st) (G2 : ¬ a = b → Go wd K₀ l Z R y bytes ml ret n0 kc ks Q h k n pc' ls st) : Go wd K₀ l Z R y bytes ml ret n0 kc ks Q h k n pc ls (.int (XT.cmpL a b) :: st) := by
  obtain ⟨o, hd, rfl, ho, hp⟩ := D
  by_cases q : a = b
  · exact go_pure (G1 q) (fun C X t => XS.ifYes X.here C.1 (g := mkF _ pc ls.toArray (.int (XT.cmpL a b) :: st)) rfl (pc0 := pc) rfl (hb C.2.1 hd) rfl (XT.ll_eq_t q) ho hp)
  · exact go_pure (G2 q) (fun C X t => XS.ifNo X.here C.1 (g := mkF _ pc ls.toArray (.int (XT.cmpL a b) :: st)) rfl (hb C.2.1 hd) rfl (XT.ll_eq_f q))
theorem go_icmp_ne {a b : Int32} (D : Db bytes pc (.if_icmp .ne) pc' tg) (G1 : ¬ a = b → Go wd K₀ l Z R y bytes ml ret n0 kc ks Q h k n tg ls st) (G2 : a = b → Go wd K₀ l Z R y bytes ml ret n0 kc ks Q h k n pc' ls st) : Go wd K₀ l Z R y bytes ml ret n0 kc ks Q h k n pc ls (.int b :: .int a :: st) := by
  obtain ⟨o, hd, rfl, ho, hp⟩ := D
  by_cases q : a = b
  · exact go_pure (G2 q) (fun C X t => XS.icmpNo X.here C.1 (g := mkF _ pc ls.toArray (.int b :: .int a :: st)) rfl (hb C.2.1 hd) rfl (XT.ii_ne_f q))
  · exact go_pure (G1 q) (fun C X t => XS.icmpYes X.here C.1 (g := mkF _ pc ls.toArray (.int b :: .int a :: st)) rfl (pc0 := pc) rfl (hb C.2.1 hd) rfl (XT.ii_ne_t q) ho hp)
theorem go_if_ne {a : Int32} (D : Db bytes pc (.ifCond .ne) pc' tg) (G1 : ¬ a = 0 → Go wd K₀ l Z R y bytes ml ret n0 kc ks Q h k n tg ls st) (G2 : a = 0 → Go wd K₀ l Z R y bytes ml ret n0 kc ks Q h k n pc' ls st) : Go wd K₀ l Z R y bytes ml ret n0 kc ks Q h k n pc ls (.int a :: st) := by
  obtain ⟨o, hd, rfl, ho, hp⟩ := D
  by_cases q : a = 0
  · exact go_pure (G2 q) (fun C X t => XS.ifNo X.here C.1 (g := mkF _ pc ls.toArray (.int a :: st)) rfl (hb C.2.1 hd) rfl (XT.i0_ne_f q))
  · exact go_pure (G1 q) (fun C X t => XS.ifYes X.here C.1 (g := mkF _ pc ls.toArray (.int a :: st)) rfl (pc0 := pc) rfl (hb C.2.1 hd) rfl (XT.i0_ne_t q) ho hp)
theorem go_lc_ne {a b : Int64} (D : Db bytes pc (.ifCond .ne) pc' tg) (G1 : ¬ a = b → Go wd K₀ l Z R y bytes ml ret n0 kc ks Q h k n tg ls st) (G2 : a = b → Go wd K₀ l Z R y bytes ml ret n0 kc ks Q h k n pc' ls st) : Go wd K₀ l Z R y bytes ml ret n0 kc ks Q h k n pc ls (.int (XT.cmpL a b) :: st) := by
  obtain ⟨o, hd, rfl, ho, hp⟩ := D
  by_cases q : a = b
  · exact go_pure (G2 q) (fun C X t => XS.ifNo X.here C.1 (g := mkF _ pc ls.toArray (.int (XT.cmpL a b) :: st)) rfl (hb C.2.1 hd) rfl (XT.ll_ne_f q))
  · exact go_pure (G1 q) (fun C X t => XS.ifYes X.here C.1 (g := mkF _ pc ls.toArray (.int (XT.cmpL a b) :: st)) rfl (pc0 := pc) rfl (hb C.2.1 hd) rfl (XT.ll_ne_t q) ho hp)
theorem go_icmp_lt {a b : Int32} (D : Db bytes pc (.if_icmp .lt) pc' tg) (G1 : a < b → Go wd K₀ l Z R y bytes ml ret n0 kc ks Q h k n tg ls st) (G2 : ¬ a < b → Go wd K₀ l Z R y bytes ml ret n0 kc ks Q h k n pc' ls st) : Go wd K₀ l Z R y bytes ml ret n0 kc ks Q h k n pc ls (.int b :: .int a :: st) := by
  obtain ⟨o, hd, rfl, ho, hp⟩ := D
  by_cases q : a < b
  · exact go_pure (G1 q) (fun C X t => XS.icmpYes X.here C.1 (g := mkF _ pc ls.toArray (.int b :: .int a :: st)) rfl (pc0 := pc) rfl (hb C.2.1 hd) rfl (XT.ii_lt_t q) ho hp)
  · exact go_pure (G2 q) (fun C X t => XS.icmpNo X.here C.1 (g := mkF _ pc ls.toArray (.int b :: .int a :: st)) rfl (hb C.2.1 hd) rfl (XT.ii_lt_f q))
theorem go_if_lt {a : Int32} (D : Db bytes pc (.ifCond .lt) pc' tg) (G1 : a < 0 → Go wd K₀ l Z R y bytes ml ret n0 kc ks Q h k n tg ls st) (G2 : ¬ a < 0 → Go wd K₀ l Z R y bytes ml ret n0 kc ks Q h k n pc' ls st) : Go wd K₀ l Z R y bytes ml ret n0 kc ks Q h k n pc ls (.int a :: st) := by
  obtain ⟨o, hd, rfl, ho, hp⟩ := D
  by_cases q : a < 0
  · exact go_pure (G1 q) (fun C X t => XS.ifYes X.here C.1 (g := mkF _ pc ls.toArray (.int a :: st)) rfl (pc0 := pc) rfl (hb C.2.1 hd) rfl (XT.i0_lt_t q) ho hp)
  · exact go_pure (G2 q) (fun C X t => XS.ifNo X.here C.1 (g := mkF _ pc ls.toArray (.int a :: st)) rfl (hb C.2.1 hd) rfl (XT.i0_lt_f q))
theorem go_lc_lt {a b : Int64} (D : Db bytes pc (.ifCond .lt) pc' tg) (G1 : a < b → Go wd K₀ l Z R y bytes ml ret n0 kc ks Q h k n tg ls st) (G2 : ¬ a < b → Go wd K₀ l Z R y bytes ml ret n0 kc ks Q h k n pc' ls st) : Go wd K₀ l Z R y bytes ml ret n0 kc ks Q h k n pc ls (.int (XT.cmpL a b) :: st) := by
  obtain ⟨o, hd, rfl, ho, hp⟩ := D
  by_cases q : a < b
  · exact go_pure (G1 q) (fun C X t => XS.ifYes X.here C.1 (g := mkF _ pc ls.toArray (.int (XT.cmpL a b) :: st)) rfl (pc0 := pc) rfl (hb C.2.1 hd) rfl (XT.ll_lt_t q) ho hp)
  · exact go_pure (G2 q) (fun C X t => XS.ifNo X.here C.1 (g := mkF _ pc ls.toArray (.int (XT.cmpL a b) :: st)) rfl (hb C.2.1 hd) rfl (XT.ll_lt_f q))
theorem go_icmp_ge {a b : Int32} (D : Db bytes pc (.if_icmp .ge) pc' tg) (G1 : ¬ a < b → Go wd K₀ l Z R y bytes ml ret n0 kc ks Q h k n tg ls st) (G2 : a < b → Go wd K₀ l Z R y bytes ml ret n0 kc ks Q h k n pc' ls st) : Go wd K₀ l Z R y bytes ml ret n0 kc ks Q h k n pc ls (.int b :: .int a :: st) := by
  obtain ⟨o, hd, rfl, ho, hp⟩ := D
  by_cases q : a < b
  · exact go_pure (G2 q) (fun C X t => XS.icmpNo X.here C.1 (g := mkF _ pc ls.toArray (.int b :: .int a :: st)) rfl (hb C.2.1 hd) rfl (XT.ii_ge_f q))
  · exact go_pure (G1 q) (fun C X t => XS.icmpYes X.here C.1 (g := mkF _ pc ls.toArray (.int b :: .int a :: st)) rfl (pc0 := pc) rfl (hb C.2.1 hd) rfl (XT.ii_ge_t q) ho hp)
theorem go_if_ge {a : Int32} (D : Db bytes pc (.ifCond .ge) pc' tg) (G1 : ¬ a < 0 → Go wd K₀ l Z R y bytes ml ret n0 kc ks Q h k n tg ls st) (G2 : a < 0 → Go wd K₀ l Z R y bytes ml ret n0 kc ks Q h k n pc' ls st) : Go wd K₀ l Z R y bytes ml ret n0 kc ks Q h k n pc ls (.int a :: st) := by
  obtain ⟨o, hd, rfl, ho, hp⟩ := D
  by_cases q : a < 0
  · exact go_pure (G2 q) (fun C X t => XS.ifNo X.here C.1 (g := mkF _ pc ls.toArray (.int a :: st)) rfl (hb C.2.1 hd) rfl (XT.i0_ge_f q))
  · exact go_pure (G1 q) (fun C X t => XS.ifYes X.here C.1 (g := mkF _ pc ls.toArray (.int a :: st)) rfl (pc0 := pc) rfl (hb C.2.1 hd) rfl (XT.i0_ge_t q) ho hp)
theorem go_lc_ge {a b : Int64} (D : Db bytes pc (.ifCond .ge) pc' tg) (G1 : ¬ a < b → Go wd K₀ l Z R y bytes ml ret n0 kc ks Q h k n tg ls st) (G2 : a < b → Go wd K₀ l Z R y bytes ml ret n0 kc ks Q h k n pc' ls st) : Go wd K₀ l Z R y bytes ml ret n0 kc ks Q h k n pc ls (.int (XT.cmpL a b) :: st) := by
  obtain ⟨o, hd, rfl, ho, hp⟩ := D
  by_cases q : a < b
  · exact go_pure (G2 q) (fun C X t => XS.ifNo X.here C.1 (g := mkF _ pc ls.toArray (.int (XT.cmpL a b) :: st)) rfl (hb C.2.1 hd) rfl (XT.ll_ge_f q))
  · exact go_pure (G1 q) (fun C X t => XS.ifYes X.here C.1 (g := mkF _ pc ls.toArray (.int (XT.cmpL a b) :: st)) rfl (pc0 := pc) rfl (hb C.2.1 hd) rfl (XT.ll_ge_t q) ho hp)
theorem go_icmp_gt {a b : Int32} (D : Db bytes pc (.if_icmp .gt) pc' tg) (G1 : b < a → Go wd K₀ l Z R y bytes ml ret n0 kc ks Q h k n tg ls st) (G2 : ¬ b < a → Go wd K₀ l Z R y bytes ml ret n0 kc ks Q h k n pc' ls st) : Go wd K₀ l Z R y bytes ml ret n0 kc ks Q h k n pc ls (.int b :: .int a :: st) := by
  obtain ⟨o, hd, rfl, ho, hp⟩ := D
  by_cases q : b < a
  · exact go_pure (G1 q) (fun C X t => XS.icmpYes X.here C.1 (g := mkF _ pc ls.toArray (.int b :: .int a :: st)) rfl (pc0 := pc) rfl (hb C.2.1 hd) rfl (XT.ii_gt_t q) ho hp)
  · exact go_pure (G2 q) (fun C X t => XS.icmpNo X.here C.1 (g := mkF _ pc ls.toArray (.int b :: .int a :: st)) rfl (hb C.2.1 hd) rfl (XT.ii_gt_f q))
theorem go_if_gt {a : Int32} (D : Db bytes pc (.ifCond .gt) pc' tg) (G1 : 0 < a → Go wd K₀ l Z R y bytes ml ret n0 kc ks Q h k n tg ls st) (G2 : ¬ 0 < a → Go wd K₀ l Z R y bytes ml ret n0 kc ks Q h k n pc' ls st) : Go wd K₀ l Z R y bytes ml ret n0 kc ks Q h k n pc ls (.int a :: st) := by
  obtain ⟨o, hd, rfl, ho, hp⟩ := D
  by_cases q : 0 < a
  · exact go_pure (G1 q) (fun C X t => XS.ifYes X.here C.1 (g := mkF _ pc ls.toArray (.int a :: st)) rfl (pc0 := pc) rfl (hb C.2.1 hd) rfl (XT.i0_gt_t q) ho hp)
  · exact go_pure (G2 q) (fun C X t => XS.ifNo X.here C.1 (g := mkF _ pc ls.toArray (.int a :: st)) rfl (hb C.2.1 hd) rfl (XT.i0_gt_f q))
theorem go_lc_gt {a b : Int64} (D : Db bytes pc (.ifCond .gt) pc' tg) (G1 : b < a → Go wd K₀ l Z R y bytes ml ret n0 kc ks Q h k n tg ls st) (G2 : ¬ b < a → Go wd K₀ l Z R y bytes ml ret n0 kc ks Q h k n pc' ls st) : Go wd K₀ l Z R y bytes ml ret n0 kc ks Q h k n pc ls (.int (XT.cmpL a b) :: st) := by
  obtain ⟨o, hd, rfl, ho, hp⟩ := D
  by_cases q : b < a
  · exact go_pure (G1 q) (fun C X t => XS.ifYes X.here C.1 (g := mkF _ pc ls.toArray (.int (XT.cmpL a b) :: st)) rfl (pc0 := pc) rfl (hb C.2.1 hd) rfl (XT.ll_gt_t q) ho hp)
  · exact go_pure (G2 q) (fun C X t => XS.ifNo X.here C.1 (g := mkF _ pc ls.toArray (.int (XT.cmpL a b) :: st)) rfl (hb C.2.1 hd) rfl (XT.ll_gt_f q))
theorem go_icmp_le {a b : Int32} (D : Db bytes pc (.if_icmp .le) pc' tg) (G1 : ¬ b < a → Go wd K₀ l Z R y bytes ml ret n0 kc ks Q h k n tg ls st) (G2 : b < a → Go wd K₀ l Z R y bytes ml ret n0 kc ks Q h k n pc' ls st) : Go wd K₀ l Z R y bytes ml ret n0 kc ks Q h k n pc ls (.int b :: .int a :: st) := by
  obtain ⟨o, hd, rfl, ho, hp⟩ := D
  by_cases q : b < a
  · exact go_pure (G2 q) (fun C X t => XS.icmpNo X.here C.1 (g := mkF _ pc ls.toArray (.int b :: .int a :: st)) rfl (hb C.2.1 hd) rfl (XT.ii_le_f q))
  · exact go_pure (G1 q) (fun C X t => XS.icmpYes X.here C.1 (g := mkF _ pc ls.toArray (.int b :: .int a :: st)) rfl (pc0 := pc) rfl (hb C.2.1 hd) rfl (XT.ii_le_t q) ho hp)
theorem go_if_le {a : Int32} (D : Db bytes pc (.ifCond .le) pc' tg) (G1 : ¬ 0 < a → Go wd K₀ l Z R y bytes ml ret n0 kc ks Q h k n tg ls st) (G2 : 0 < a → Go wd K₀ l Z R y bytes ml ret n0 kc ks Q h k n pc' ls st) : Go wd K₀ l Z R y bytes ml ret n0 kc ks Q h k n pc ls (.int a :: st) := by
  obtain ⟨o, hd, rfl, ho, hp⟩ := D
  by_cases q : 0 < a
  · exact go_pure (G2 q) (fun C X t => XS.ifNo X.here C.1 (g := mkF _ pc ls.toArray (.int a :: st)) rfl (hb C.2.1 hd) rfl (XT.i0_le_f q))
  · exact go_pure (G1 q) (fun C X t => XS.ifYes X.here C.1 (g := mkF _ pc ls.toArray (.int a :: st)) rfl (pc0 := pc) rfl (hb C.2.1 hd) rfl (XT.i0_le_t q) ho hp)
theorem go_lc_le {a b : Int64} (D : Db bytes pc (.ifCond .le) pc' tg) (G1 : ¬ b < a → Go wd K₀ l Z R y bytes ml ret n0 kc ks Q h k n tg ls st) (G2 : b < a → Go wd K₀ l Z R y bytes ml ret n0 kc ks Q h k n pc' ls st) : Go wd K₀ l Z R y bytes ml ret n0 kc ks Q h k n pc ls (.int (XT.cmpL a b) :: st) := by
  obtain ⟨o, hd, rfl, ho, hp⟩ := D
  by_cases q : b < a
  · exact go_pure (G2 q) (fun C X t => XS.ifNo X.here C.1 (g := mkF _ pc ls.toArray (.int (XT.cmpL a b) :: st)) rfl (hb C.2.1 hd) rfl (XT.ll_le_f q))
  · exact go_pure (G1 q) (fun C X t => XS.ifYes X.here C.1 (g := mkF _ pc ls.toArray (.int (XT.cmpL a b) :: st)) rfl (pc0 := pc) rfl (hb C.2.1 hd) rfl (XT.ll_le_t q) ho hp)
theorem go_acmp_eq {a b : Value} (D : Db bytes pc (.if_acmp .eq) pc' tg) (ha : a.isRef = true) (hb' : b.isRef = true) (G1 : a = b → Go wd K₀ l Z R y bytes ml ret n0 kc ks Q h k n tg ls st) (G2 : ¬ a = b → Go wd K₀ l Z R y bytes ml ret n0 kc ks Q h k n pc' ls st) : Go wd K₀ l Z R y bytes ml ret n0 kc ks Q h k n pc ls (b :: a :: st) := by
  obtain ⟨o, hd, rfl, ho, hp⟩ := D
  by_cases q : a = b
  · exact go_pure (G1 q) (fun C X t => XT.acmpYes X.here C.1 (g := mkF _ pc ls.toArray (b :: a :: st)) rfl (pc0 := pc) rfl (hb C.2.1 hd) rfl ha hb' (XT.aa_eq_t q) ho hp)
  · exact go_pure (G2 q) (fun C X t => XT.acmpNo X.here C.1 (g := mkF _ pc ls.toArray (b :: a :: st)) rfl (hb C.2.1 hd) rfl ha hb' (XT.aa_eq_f q))
theorem go_acmp_ne {a b : Value} (D : Db bytes pc (.if_acmp .ne) pc' tg) (ha : a.isRef = true) (hb' : b.isRef = true) (G1 : ¬ a = b → Go wd K₀ l Z R y bytes ml ret n0 kc ks Q h k n tg ls st) (G2 : a = b → Go wd K₀ l Z R y bytes ml ret n0 kc ks Q h k n pc' ls st) : Go wd K₀ l Z R y bytes ml ret n0 kc ks Q h k n pc ls (b :: a :: st) := by
  obtain ⟨o, hd, rfl, ho, hp⟩ := D
  by_cases q : a = b
  · exact go_pure (G2 q) (fun C X t => XT.acmpNo X.here C.1 (g := mkF _ pc ls.toArray (b :: a :: st)) rfl (hb C.2.1 hd) rfl ha hb' (XT.aa_ne_f q))
  · exact go_pure (G1 q) (fun C X t => XT.acmpYes X.here C.1 (g := mkF _ pc ls.toArray (b :: a :: st)) rfl (pc0 := pc) rfl (hb C.2.1 hd) rfl ha hb' (XT.aa_ne_t q) ho hp)
theorem go_ifnullT (D : Db bytes pc .ifnull pc' tg) (G : Go wd K₀ l Z R y bytes ml ret n0 kc ks Q h k n tg ls st) : Go wd K₀ l Z R y bytes ml ret n0 kc ks Q h k n pc ls (.null :: st) := by
  obtain ⟨o, hd, rfl, ho, hp⟩ := D
  exact go_pure G (fun C X t => XS.ifnullYes X.here C.1 (g := mkF _ pc ls.toArray (.null :: st)) rfl (pc0 := pc) rfl (hb C.2.1 hd) rfl ho hp)
theorem go_ifnullF {a : Addr} (D : Db bytes pc .ifnull pc' tg) (G : Go wd K₀ l Z R y bytes ml ret n0 kc ks Q h k n pc' ls st) : Go wd K₀ l Z R y bytes ml ret n0 kc ks Q h k n pc ls (.ref a :: st) := by
  obtain ⟨o, hd, rfl, ho, hp⟩ := D
  exact go_pure G (fun C X t => XS.ifnullNo X.here C.1 (g := mkF _ pc ls.toArray (.ref a :: st)) rfl (hb C.2.1 hd) rfl)
theorem go_nonnullT {a : Addr} (D : Db bytes pc .ifnonnull pc' tg) (G : Go wd K₀ l Z R y bytes ml ret n0 kc ks Q h k n tg ls st) : Go wd K₀ l Z R y bytes ml ret n0 kc ks Q h k n pc ls (.ref a :: st) := by
  obtain ⟨o, hd, rfl, ho, hp⟩ := D
  exact go_pure G (fun C X t => XT.ifnonnullYes X.here C.1 (g := mkF _ pc ls.toArray (.ref a :: st)) rfl (pc0 := pc) rfl (hb C.2.1 hd) rfl ho hp)
theorem go_nonnullF (D : Db bytes pc .ifnonnull pc' tg) (G : Go wd K₀ l Z R y bytes ml ret n0 kc ks Q h k n pc' ls st) : Go wd K₀ l Z R y bytes ml ret n0 kc ks Q h k n pc ls (.null :: st) := by
  obtain ⟨o, hd, rfl, ho, hp⟩ := D
  exact go_pure G (fun C X t => XT.ifnonnullNo X.here C.1 (g := mkF _ pc ls.toArray (.null :: st)) rfl (hb C.2.1 hd) rfl)
theorem go_nonnullV {v : Value} (D : Db bytes pc .ifnonnull pc' tg) (hv : v.isRef = true) (G1 : v ≠ .null → Go wd K₀ l Z R y bytes ml ret n0 kc ks Q h k n tg ls st) (G2 : v = .null → Go wd K₀ l Z R y bytes ml ret n0 kc ks Q h k n pc' ls st) : Go wd K₀ l Z R y bytes ml ret n0 kc ks Q h k n pc ls (v :: st) := by
  cases v with
  | null => exact go_nonnullF D (G2 rfl)
  | ref a => exact go_nonnullT D (G1 (fun q => nomatch q))
  | int _ => cases hv
  | long _ => cases hv
  | float _ => cases hv
  | double _ => cases hv
  | _ => cases hv
theorem go_ldcI {v : Int32} {idx : Nat} (D : Dc bytes pc (.ldc idx) 2 pc') (w : (Cond.constant y.cls idx v).before a0 Z = true) (G : Go wd K₀ l Z R y bytes ml ret n0 kc ks Q h k n pc' ls (.int v :: st)) : Go wd K₀ l Z R y bytes ml ret n0 kc ks Q h k n pc ls st := by
  obtain ⟨hd, rfl⟩ := D
  exact go_pure G (fun C X t => X.ldcInt C.1 C.2.2.2.1 (mvT C.2.2.2.2.1 w) (g := mkF _ pc ls.toArray st) rfl (hb C.2.1 hd) t)
theorem go_ldcJ {v : Int64} {idx : Nat} (D : Dc bytes pc (.ldc2_w idx) 3 pc') (w : (Cond.constantLong y.cls idx v).before a0 Z = true) (G : Go wd K₀ l Z R y bytes ml ret n0 kc ks Q h k n pc' ls (.long v :: st)) : Go wd K₀ l Z R y bytes ml ret n0 kc ks Q h k n pc ls st := by
  obtain ⟨hd, rfl⟩ := D
  exact go_pure G (fun C X t => X.ldc2Long C.1 C.2.2.2.1 (mvT C.2.2.2.2.1 w) (g := mkF _ pc ls.toArray st) rfl (hb C.2.1 hd) t)
theorem go_iret {z : Int32} (hr : ret = some .int) (D : Dc bytes pc .ireturn 1 pc') (hk : k ≤ kc) (hn : n ≤ ks) (q : Q (some (.int z)) h) : Go wd K₀ l Z R y bytes ml ret n0 kc ks Q h k n pc ls (.int z :: st) := by
  intro p e s0 s m args below meth c T L Bs C X hh N
  obtain ⟨hd, rfl⟩ := D
  have hl := C.2.2.2.2.2.2.1
  obtain ⟨fs, hr', hrun, hended, hW, hsame⟩ := X.leave (v := some (.int z)) (fun q => by rw [C.2.2.2.2.2.1, hr] at q; cases q) hl
  exact ⟨_, _, retOut X C.1 (C.2.2.2.2.2.1.trans hr) rfl (Or.inl ⟨rfl, Or.inl rfl, z, rfl⟩) (hb C.2.1 hd) hr', hrun, hended, _, L, rfl, ⟨by show Q _ T.heap; rw [hh]; exact q, N⟩, endK Bs hh hW hsame hk hn⟩
theorem go_bret {z : Int32} (hr : ret = some .boolean) (D : Dc bytes pc .ireturn 1 pc') (hk : k ≤ kc) (hn : n ≤ ks) (hz : z = 0 ∨ z = 1) (q : Q (some (.int z)) h) : Go wd K₀ l Z R y bytes ml ret n0 kc ks Q h k n pc ls (.int z :: st) := by
  intro p e s0 s m args below meth c T L Bs C X hh N
  obtain ⟨hd, rfl⟩ := D
  have hl := C.2.2.2.2.2.2.1
  obtain ⟨fs, hr', hrun, hended, hW, hsame⟩ := X.leave (v := some (.int z)) (fun q => by rw [C.2.2.2.2.2.1, hr] at q; cases q) hl
  exact ⟨_, _, retOut X C.1 (C.2.2.2.2.2.1.trans hr) (by rcases hz with rfl | rfl <;> rfl) (Or.inl ⟨rfl, Or.inr (Or.inl rfl), z, rfl⟩) (hb C.2.1 hd) hr', hrun, hended, _, L, rfl, ⟨by show Q _ T.heap; rw [hh]; exact q, N⟩, endK Bs hh hW hsame hk hn⟩
theorem go_nret {z : Int32} {ty : FieldType} (hr : ret = some ty) (hty : ty = .byte ∨ ty = .char ∨ ty = .short) (D : Dc bytes pc .ireturn 1 pc') (hk : k ≤ kc) (hn : n ≤ ks) (hz : narrow ty (.int z) = .int z) (q : Q (some (.int z)) h) : Go wd K₀ l Z R y bytes ml ret n0 kc ks Q h k n pc ls (.int z :: st) := by
  intro p e s0 s m args below meth c T L Bs C X hh N
  obtain ⟨hd, rfl⟩ := D
  have hl := C.2.2.2.2.2.2.1
  obtain ⟨fs, hr', hrun, hended, hW, hsame⟩ := X.leave (v := some (.int z)) (fun q => by rw [C.2.2.2.2.2.1, hr] at q; cases q) hl
  exact ⟨_, _, retOut X C.1 (C.2.2.2.2.2.1.trans hr) hz (Or.inl ⟨rfl, Or.inr (Or.inr hty), z, rfl⟩) (hb C.2.1 hd) hr', hrun, hended, _, L, rfl, ⟨by show Q _ T.heap; rw [hh]; exact q, N⟩, endK Bs hh hW hsame hk hn⟩
theorem go_lret {z : Int64} (hr : ret = some .long) (D : Dc bytes pc .lreturn 1 pc') (hk : k ≤ kc) (hn : n ≤ ks) (q : Q (some (.long z)) h) : Go wd K₀ l Z R y bytes ml ret n0 kc ks Q h k n pc ls (.long z :: st) := by
  intro p e s0 s m args below meth c T L Bs C X hh N
  obtain ⟨hd, rfl⟩ := D
  have hl := C.2.2.2.2.2.2.1
  obtain ⟨fs, hr', hrun, hended, hW, hsame⟩ := X.leave (v := some (.long z)) (fun q => by rw [C.2.2.2.2.2.1, hr] at q; cases q) hl
  exact ⟨_, _, retOut X C.1 (C.2.2.2.2.2.1.trans hr) rfl (Or.inr (Or.inl ⟨rfl, rfl, z, rfl⟩)) (hb C.2.1 hd) hr', hrun, hended, _, L, rfl, ⟨by show Q _ T.heap; rw [hh]; exact q, N⟩, endK Bs hh hW hsame hk hn⟩
theorem narrow_ref {t : FieldType} {w : Value} (ht : t.isReference = true) (hw : w.isRef = true) : narrow t w = w := by
  cases t <;> cases w <;> first | rfl | (simp [FieldType.isReference] at ht; done) | (simp [Value.isRef] at hw; done)
theorem go_aret {w : Value} {t : FieldType} (hr : ret = some t) (ht : t.isReference = true) (hw : w.isRef = true) (D : Dc bytes pc .areturn 1 pc') (hk : k ≤ kc) (hn : n ≤ ks) (q : Q (some w) h) : Go wd K₀ l Z R y bytes ml ret n0 kc ks Q h k n pc ls (w :: st) := by
  intro p e s0 s m args below meth c T L Bs C X hh N
  obtain ⟨hd, rfl⟩ := D
  have hl := C.2.2.2.2.2.2.1
  obtain ⟨fs, hr', hrun, hended, hW, hsame⟩ := X.leave (v := some w) (fun q => by rw [C.2.2.2.2.2.1, hr] at q; cases q) hl
  exact ⟨_, _, retOut X C.1 (C.2.2.2.2.2.1.trans hr) (narrow_ref ht hw) (Or.inr (Or.inr (Or.inr (Or.inr ⟨rfl, ht, hw⟩)))) (hb C.2.1 hd) hr', hrun, hended, _, L, rfl, ⟨by show Q _ T.heap; rw [hh]; exact q, N⟩, endK Bs hh hW hsame hk hn⟩
theorem go_ret (hr : ret = none) (D : Dc bytes pc .return_ 1 pc') (hk : k ≤ kc) (hn : n ≤ ks) (q : Q none h) : Go wd K₀ l Z R y bytes ml ret n0 kc ks Q h k n pc ls [] := by
  intro p e s0 s m args below meth c T L Bs C X hh N
  obtain ⟨hd, rfl⟩ := D
  have hl := C.2.2.2.2.2.2.1
  obtain ⟨fs, hr', hrun, hended, hW, hsame⟩ := X.leave (v := none) (fun _ => rfl) hl
  exact ⟨_, _, X.returnOut C.1 (C.2.2.2.2.2.1.trans hr) (hb C.2.1 hd) hr', hrun, hended, _, L, rfl, ⟨by show Q _ T.heap; rw [hh]; exact q, N⟩, endK Bs hh hW hsame hk hn⟩
theorem con_of {as' : Array Value} (hp : plainFor y = true) (he : Jvm.Sym.laidSlots as'.toList ++ List.replicate (ml - (Jvm.Sym.laidSlots as'.toList).length) .unset = ls) (G : Go wd KT l Z R y bytes ml ret n0 R.cells R.slots Q h 0 0 0 ls []) : Con wd l Z y bytes ml ret R as' h n0 Q := by
  intro ws
  refine MetFree.of_bodySF hp hisR ?_
  intro p e s m args below meth c s₁ Bd hml hP hK
  obtain ⟨rfl, hZ, hh⟩ := hP
  have X0 : Stand p l e R s m args below meth c s₁ [] 0 0 := Stand.of_body Bd
  have e0 : s₁.heap = h := by rw [← hh, Bd.state]; rfl
  obtain ⟨s₂, o, h1, h2, h3, v, L, e1, ⟨q1, q2⟩, q3⟩ := G p e s s m args below meth c s₁ [] (Base.start s hh) ⟨Bd.exec, Bd.bytes, hml, findClass_of_methodNamed Bd.named, hZ, Bd.returns, Bd.notSynchronized, (name_of_methodNamed Bd.named Bd.method).1, trivial⟩ X0 e0 (Fr.nil n0)
  exact ⟨s₂, o, (XT.entry (Ls := ls.toArray) (by simpa using he)).trans h1, h2, h3, v, L, e1, ⟨⟨q1, by rw [← hh]; exact q3.size⟩, q2⟩, q3⟩
theorem go_callS1 {y' : MethodName} {b' : ByteArray} {m' : Nat} {r' : Option FieldType} {rm : Room} {idx W : Nat} {argsL : List Value} {P : Value → Heap → Prop} (D : Dc bytes pc (.invokestatic idx) 3 pc') (hM : Con false l Z y' b' m' r' rm argsL.toArray h n0 (R1 P))
    (w1 : (Cond.methodLink y.cls idx y').before a0 Z = true) (w2 : (Cond.static y').before a0 Z = true) (w3 : (Cond.initialized y'.cls).before a0 Z = true) (w4 : (Cond.code y' b' m' r').before a0 Z = true) (hy : y'.cls ≠ "java/lang/invoke/MethodHandle" ∧ y'.cls ≠ "java/lang/invoke/VarHandle")
    (hlen : ∀ sig, parseMethodDescriptor y'.desc = some sig → argsL.length = sig.parameters.length) {st₀ : List Value} (hst : st₀ = argsL.reverse ++ st) (hW : (st.map fun v => v.category).sum = W) (hf : rm.frames + 1 ≤ R.frames) (hlo : W + (m' + 11) + rm.locals ≤ R.locals) (hk : k + rm.cells ≤ R.cells) (hn : n + rm.slots ≤ R.slots) (hls : ls.length = ml)
    (G : ∀ w h', P w h' → Go wd K₀ l Z R y bytes ml ret n0 kc ks Q h' (k + rm.cells) (n + rm.slots) pc' ls (w :: st)) : Go wd K₀ l Z R y bytes ml ret n0 kc ks Q h k n pc ls st₀ := by
  subst hst
  intro p e s0 s m args below meth c T L Bs C X hh N
  obtain ⟨hd, rfl⟩ := D
  have hZ := C.2.2.2.2.1
  obtain ⟨v, vm₁, ⟨B, Lb, kb, nb⟩, -, X', ⟨Lq, ⟨⟨hQ, hsz⟩, Ns⟩, e1, e2, e3⟩, st'⟩ := Jvm.LawKit.callS X C.1 (y := y') C.2.2.2.1 (mvT hZ w1) (mvT hZ w2) (mvT hZ w3) (mvT hZ w4) hy (backOf (W := W) (Q := fun v h' L => ((R1 P) v h' ∧ h.size ≤ h'.size) ∧ Fr n0 L) (hM []) hZ w4 w3 hf hlo) (g := mkF m pc ls.toArray (argsL.reverse ++ st)) rfl
    (by rw [C.2.2.1]; simpa using hls) (argsL := argsL) (rest := st) hlen rfl (by show 2 * 0 + _ ≤ W; rw [← hW]; omega) (hb C.2.1 hd) (fun _ _ => ⟨rfl, hh, hk, hn⟩)
  dsimp only [Pt.U, Pt.locs, Pt.cells, Pt.slots] at X' hQ hsz e1 e2 e3 st'
  subst e1 e2 e3
  obtain ⟨w, rfl, hP⟩ := hQ
  exact (G w B.heap hP p e s0 s m args below meth c B _ (Bs.mono hsz) C X' rfl (N.app Ns)).pre st'
theorem go_callV1 {y' : MethodName} {b' : ByteArray} {m' : Nat} {r' : Option FieldType} {rm : Room} {idx W : Nat} {argsL : List Value} {P : Value → Heap → Prop} {x' : MethodName} {K : String} {a : Addr} (D : Dc bytes pc (.invokevirtual idx) 3 pc') (hM : Con false l Z y' b' m' r' rm (.ref a :: argsL).toArray h n0 (R1 P)) (E : Exa Z h a K)
    (w1 : (Cond.methodLink y.cls idx x').before a0 Z = true) (w5 : (Cond.declares x').before a0 Z = true) (nf : ∀ s : State, Z.Warmed39 s.vm → NotFace s x') (w6 : (Cond.selects K x' y').before a0 Z = true) (w2 : (Cond.instanceMethod y').before a0 Z = true) (w3 : (Cond.initialized y'.cls).before a0 Z = true) (w4 : (Cond.code y' b' m' r').before a0 Z = true)
    (hy : x'.cls ≠ "java/lang/invoke/MethodHandle" ∧ x'.cls ≠ "java/lang/invoke/VarHandle") (hlen : ∀ sig, parseMethodDescriptor x'.desc = some sig → argsL.length = sig.parameters.length) {st₀ : List Value} (hst : st₀ = argsL.reverse ++ .ref a :: st) (hW : (st.map fun v => v.category).sum = W) (hf : rm.frames + 1 ≤ R.frames) (hlo : W + (m' + 11) + rm.locals ≤ R.locals) (hk : k + rm.cells ≤ R.cells) (hn : n + rm.slots ≤ R.slots) (hls : ls.length = ml)
    (G : ∀ w h', P w h' → Go wd K₀ l Z R y bytes ml ret n0 kc ks Q h' (k + rm.cells) (n + rm.slots) pc' ls (w :: st)) : Go wd K₀ l Z R y bytes ml ret n0 kc ks Q h k n pc ls st₀ := by
  subst hst
  intro p e s0 s m args below meth c T L Bs C X hh N
  obtain ⟨hd, rfl⟩ := D
  have hZ := C.2.2.2.2.1
  obtain ⟨cq, kq, qa, qb, qc⟩ := isOf (T := T) hZ hh E
  obtain ⟨v, vm₁, ⟨B, Lb, kb, nb⟩, -, X', ⟨Lq, ⟨⟨hQ, hsz⟩, Ns⟩, e1, e2, e3⟩, st'⟩ := X.virtualBack C.1 (y := x') (z := y') C.2.2.2.1 (mvT hZ w1) (mvT hZ w5) (nf s hZ) (mvT hZ w6) (mvT hZ w2) hy (backOf (W := W) (Q := fun v h' L => ((R1 P) v h' ∧ h.size ≤ h'.size) ∧ Fr n0 L) (hM []) hZ w4 w3 hf hlo) qa qc (g := mkF m pc ls.toArray (argsL.reverse ++ .ref a :: st)) rfl
    (by rw [C.2.2.1]; simpa using hls) (Steps.refl _) (argsL := argsL) (rest := st) hlen rfl (by show 2 * 0 + _ ≤ W; rw [← hW]; omega) (hb C.2.1 hd) (fun _ _ => ⟨rfl, hh, hk, hn⟩)
  dsimp only [Pt.U, Pt.locs, Pt.cells, Pt.slots] at X' hQ hsz e1 e2 e3 st'
  subst e1 e2 e3
  obtain ⟨w, rfl, hP⟩ := hQ
  exact (G w B.heap hP p e s0 s m args below meth c B _ (Bs.mono hsz) C X' rfl (N.app Ns)).pre (fun t q => st'.trans q)
theorem go_callP1 {y' : MethodName} {b' : ByteArray} {m' : Nat} {r' : Option FieldType} {rm : Room} {idx W : Nat} {argsL : List Value} {P : Value → Heap → Prop} {K : String} {a : Addr} (D : Dc bytes pc (.invokevirtual idx) 3 pc') (hM : Con false l Z y' b' m' r' rm (.ref a :: argsL).toArray h n0 (R1 P)) (E : Exa Z h a K)
    (w1 : (Cond.methodLink y.cls idx y').before a0 Z = true) (w2 : (Cond.instanceMethod y').before a0 Z = true) {kk : Nat} (wi : (Cond.instantiable y'.cls kk).before a0 Z = true) (w5 : (Cond.privateMethod y').before a0 Z = true) (w3 : (Cond.initialized y'.cls).before a0 Z = true) (w4 : (Cond.code y' b' m' r').before a0 Z = true) (hy : y'.cls ≠ "java/lang/invoke/MethodHandle" ∧ y'.cls ≠ "java/lang/invoke/VarHandle")
    (hlen : ∀ sig, parseMethodDescriptor y'.desc = some sig → argsL.length = sig.parameters.length) {st₀ : List Value} (hst : st₀ = argsL.reverse ++ .ref a :: st) (hW : (st.map fun v => v.category).sum = W) (hf : rm.frames + 1 ≤ R.frames) (hlo : W + (m' + 11) + rm.locals ≤ R.locals) (hk : k + rm.cells ≤ R.cells) (hn : n + rm.slots ≤ R.slots) (hls : ls.length = ml)
    (G : ∀ w h', P w h' → Go wd K₀ l Z R y bytes ml ret n0 kc ks Q h' (k + rm.cells) (n + rm.slots) pc' ls (w :: st)) : Go wd K₀ l Z R y bytes ml ret n0 kc ks Q h k n pc ls st₀ := by
  subst hst
  intro p e s0 s m args below meth c T L Bs C X hh N
  obtain ⟨hd, rfl⟩ := D
  have hZ := C.2.2.2.2.1
  obtain ⟨cq, q1, q2⟩ := E.cell
  have wi' : (Cond.instantiable y'.cls kk).before args s = true := mvT hZ wi
  obtain ⟨c2, k2, i1, i2, -, i4, -⟩ := Cond.instantiable_spec wi'
  have hpa : s.PrivateAt y' := Cond.privateMethod_at (mvP hZ w5 (args := #[]))
  have w6 : (Cond.selects y'.cls y' y').before args s = true := selects_self_of_private i1 i2 (Bool.or_eq_false_iff.mp i4).1 hpa (mvT hZ w2) hy
  obtain ⟨v, vm₁, ⟨B, Lb, kb, nb⟩, -, X', ⟨Lq, ⟨⟨hQ, hsz⟩, Ns⟩, e1, e2, e3⟩, st'⟩ := X.privateBack C.1 (y := y') C.2.2.2.1 (mvT hZ w1) (mvT hZ w2) w6 hpa (mvT hZ w4) hy (backOf (W := W) (Q := fun v h' L => ((R1 P) v h' ∧ h.size ≤ h'.size) ∧ Fr n0 L) (hM []) hZ w4 w3 hf hlo) (g := mkF m pc ls.toArray (argsL.reverse ++ .ref a :: st)) rfl
    (by rw [C.2.2.1]; simpa using hls) (Steps.refl _) (a := a) (by rw [hh]; exact q1) q2 (argsL := argsL) (rest := st) hlen rfl (by show 2 * 0 + _ ≤ W; rw [← hW]; omega) (hb C.2.1 hd) (fun _ _ => ⟨rfl, hh, hk, hn⟩)
  dsimp only [Pt.U, Pt.locs, Pt.cells, Pt.slots] at X' hQ hsz e1 e2 e3 st'
  subst e1 e2 e3
  obtain ⟨w, rfl, hP⟩ := hQ
  exact (G w B.heap hP p e s0 s m args below meth c B _ (Bs.mono hsz) C X' rfl (N.app Ns)).pre (fun t q => st'.trans q)
theorem go_callS0 {y' : MethodName} {b' : ByteArray} {m' : Nat} {r' : Option FieldType} {rm : Room} {idx W : Nat} {argsL : List Value} {P : Heap → Prop} (D : Dc bytes pc (.invokestatic idx) 3 pc') (hM : Con false l Z y' b' m' r' rm argsL.toArray h n0 (R0 P))
    (w1 : (Cond.methodLink y.cls idx y').before a0 Z = true) (w2 : (Cond.static y').before a0 Z = true) (w3 : (Cond.initialized y'.cls).before a0 Z = true) (w4 : (Cond.code y' b' m' r').before a0 Z = true) (hy : y'.cls ≠ "java/lang/invoke/MethodHandle" ∧ y'.cls ≠ "java/lang/invoke/VarHandle")
    (hlen : ∀ sig, parseMethodDescriptor y'.desc = some sig → argsL.length = sig.parameters.length) {st₀ : List Value} (hst : st₀ = argsL.reverse ++ st) (hW : (st.map fun v => v.category).sum = W) (hf : rm.frames + 1 ≤ R.frames) (hlo : W + (m' + 11) + rm.locals ≤ R.locals) (hk : k + rm.cells ≤ R.cells) (hn : n + rm.slots ≤ R.slots) (hls : ls.length = ml)
    (G : ∀ h', P h' → Go wd K₀ l Z R y bytes ml ret n0 kc ks Q h' (k + rm.cells) (n + rm.slots) pc' ls st) : Go wd K₀ l Z R y bytes ml ret n0 kc ks Q h k n pc ls st₀ := by
  subst hst
  intro p e s0 s m args below meth c T L Bs C X hh N
  obtain ⟨hd, rfl⟩ := D
  have hZ := C.2.2.2.2.1
  obtain ⟨v, vm₁, ⟨B, Lb, kb, nb⟩, -, X', ⟨Lq, ⟨⟨hQ, hsz⟩, Ns⟩, e1, e2, e3⟩, st'⟩ := Jvm.LawKit.callS X C.1 (y := y') C.2.2.2.1 (mvT hZ w1) (mvT hZ w2) (mvT hZ w3) (mvT hZ w4) hy (backOf (W := W) (Q := fun v h' L => ((R0 P) v h' ∧ h.size ≤ h'.size) ∧ Fr n0 L) (hM []) hZ w4 w3 hf hlo) (g := mkF m pc ls.toArray (argsL.reverse ++ st)) rfl
    (by rw [C.2.2.1]; simpa using hls) (argsL := argsL) (rest := st) hlen rfl (by show 2 * 0 + _ ≤ W; rw [← hW]; omega) (hb C.2.1 hd) (fun _ _ => ⟨rfl, hh, hk, hn⟩)
  dsimp only [Pt.U, Pt.locs, Pt.cells, Pt.slots] at X' hQ hsz e1 e2 e3 st'
  subst e1 e2 e3
  obtain ⟨rfl, hP⟩ := hQ
  exact (G B.heap hP p e s0 s m args below meth c B _ (Bs.mono hsz) C X' rfl (N.app Ns)).pre st'
theorem go_callN0 {y' : MethodName} {b' : ByteArray} {m' : Nat} {r' : Option FieldType} {rm : Room} {idx W : Nat} {argsL : List Value} {P : Heap → Prop} {a : Addr} (D : Dc bytes pc (.invokespecial idx) 3 pc') (hi : y'.name = "<init>") (hr' : r' = none) (hM : Con false l Z y' b' m' r' rm (.ref a :: argsL).toArray h n0 (R0 P))
    (w1 : (Cond.methodLink y.cls idx y').before a0 Z = true) (w2 : (Cond.instanceMethod y').before a0 Z = true) (w3 : (Cond.initialized y'.cls).before a0 Z = true) (w4 : (Cond.code y' b' m' r').before a0 Z = true) (hy : y'.cls ≠ "java/lang/invoke/MethodHandle" ∧ y'.cls ≠ "java/lang/invoke/VarHandle")
    (hlen : ∀ sig, parseMethodDescriptor y'.desc = some sig → argsL.length = sig.parameters.length) {st₀ : List Value} (hst : st₀ = argsL.reverse ++ .ref a :: st) (hW : (st.map fun v => v.category).sum = W) (hf : rm.frames + 1 ≤ R.frames) (hlo : W + (m' + 11) + rm.locals ≤ R.locals) (hk : k + rm.cells ≤ R.cells) (hn : n + rm.slots ≤ R.slots) (hls : ls.length = ml)
    (G : ∀ h', P h' → Go wd K₀ l Z R y bytes ml ret n0 kc ks Q h' (k + rm.cells) (n + rm.slots) pc' ls st) : Go wd K₀ l Z R y bytes ml ret n0 kc ks Q h k n pc ls st₀ := by
  subst hst hr'
  intro p e s0 s m args below meth c T L Bs C X hh N
  obtain ⟨hd, rfl⟩ := D
  have hZ := C.2.2.2.2.1
  obtain ⟨v, vm₁, ⟨B, Lb, kb, nb⟩, -, X', ⟨Lq, ⟨⟨hQ, hsz⟩, Ns⟩, e1, e2, e3⟩, st'⟩ := X.specialBack C.1 (y := y') hi C.2.2.2.1 (mvT hZ w1) (mvT hZ w2) (mvT hZ w4) hy (backOf (W := W) (Q := fun v h' L => ((R0 P) v h' ∧ h.size ≤ h'.size) ∧ Fr n0 L) (hM []) hZ w4 w3 hf hlo) (g := mkF m pc ls.toArray (argsL.reverse ++ .ref a :: st)) rfl
    (by rw [C.2.2.1]; simpa using hls) (Steps.refl _) (a := a) (argsL := argsL) (rest := st) hlen rfl (by show 2 * 0 + _ ≤ W; rw [← hW]; omega) (hb C.2.1 hd) (fun _ _ => ⟨rfl, hh, hk, hn⟩)
  dsimp only [Pt.U, Pt.locs, Pt.cells, Pt.slots] at X' hQ hsz e1 e2 e3 st'
  subst e1 e2 e3
  obtain ⟨rfl, hP⟩ := hQ
  exact (G B.heap hP p e s0 s m args below meth c B _ (Bs.mono hsz) C X' rfl (N.app Ns)).pre (fun t q => st'.trans q)
theorem go_callV0 {y' : MethodName} {b' : ByteArray} {m' : Nat} {r' : Option FieldType} {rm : Room} {idx W : Nat} {argsL : List Value} {P : Heap → Prop} {x' : MethodName} {K : String} {a : Addr} (D : Dc bytes pc (.invokevirtual idx) 3 pc') (hM : Con false l Z y' b' m' r' rm (.ref a :: argsL).toArray h n0 (R0 P)) (E : Exa Z h a K)
    (w1 : (Cond.methodLink y.cls idx x').before a0 Z = true) (w5 : (Cond.declares x').before a0 Z = true) (nf : ∀ s : State, Z.Warmed39 s.vm → NotFace s x') (w6 : (Cond.selects K x' y').before a0 Z = true) (w2 : (Cond.instanceMethod y').before a0 Z = true) (w3 : (Cond.initialized y'.cls).before a0 Z = true) (w4 : (Cond.code y' b' m' r').before a0 Z = true)
    (hy : x'.cls ≠ "java/lang/invoke/MethodHandle" ∧ x'.cls ≠ "java/lang/invoke/VarHandle") (hlen : ∀ sig, parseMethodDescriptor x'.desc = some sig → argsL.length = sig.parameters.length) {st₀ : List Value} (hst : st₀ = argsL.reverse ++ .ref a :: st) (hW : (st.map fun v => v.category).sum = W) (hf : rm.frames + 1 ≤ R.frames) (hlo : W + (m' + 11) + rm.locals ≤ R.locals) (hk : k + rm.cells ≤ R.cells) (hn : n + rm.slots ≤ R.slots) (hls : ls.length = ml)
    (G : ∀ h', P h' → Go wd K₀ l Z R y bytes ml ret n0 kc ks Q h' (k + rm.cells) (n + rm.slots) pc' ls st) : Go wd K₀ l Z R y bytes ml ret n0 kc ks Q h k n pc ls st₀ := by
  subst hst
  intro p e s0 s m args below meth c T L Bs C X hh N
  obtain ⟨hd, rfl⟩ := D
  have hZ := C.2.2.2.2.1
  obtain ⟨cq, kq, qa, qb, qc⟩ := isOf (T := T) hZ hh E
  obtain ⟨v, vm₁, ⟨B, Lb, kb, nb⟩, -, X', ⟨Lq, ⟨⟨hQ, hsz⟩, Ns⟩, e1, e2, e3⟩, st'⟩ := X.virtualBack C.1 (y := x') (z := y') C.2.2.2.1 (mvT hZ w1) (mvT hZ w5) (nf s hZ) (mvT hZ w6) (mvT hZ w2) hy (backOf (W := W) (Q := fun v h' L => ((R0 P) v h' ∧ h.size ≤ h'.size) ∧ Fr n0 L) (hM []) hZ w4 w3 hf hlo) qa qc (g := mkF m pc ls.toArray (argsL.reverse ++ .ref a :: st)) rfl
    (by rw [C.2.2.1]; simpa using hls) (Steps.refl _) (argsL := argsL) (rest := st) hlen rfl (by show 2 * 0 + _ ≤ W; rw [← hW]; omega) (hb C.2.1 hd) (fun _ _ => ⟨rfl, hh, hk, hn⟩)
  dsimp only [Pt.U, Pt.locs, Pt.cells, Pt.slots] at X' hQ hsz e1 e2 e3 st'
  subst e1 e2 e3
  obtain ⟨rfl, hP⟩ := hQ
  exact (G B.heap hP p e s0 s m args below meth c B _ (Bs.mono hsz) C X' rfl (N.app Ns)).pre (fun t q => st'.trans q)
theorem go_callP0 {y' : MethodName} {b' : ByteArray} {m' : Nat} {r' : Option FieldType} {rm : Room} {idx W : Nat} {argsL : List Value} {P : Heap → Prop} {K : String} {a : Addr} (D : Dc bytes pc (.invokevirtual idx) 3 pc') (hM : Con false l Z y' b' m' r' rm (.ref a :: argsL).toArray h n0 (R0 P)) (E : Exa Z h a K)
    (w1 : (Cond.methodLink y.cls idx y').before a0 Z = true) (w2 : (Cond.instanceMethod y').before a0 Z = true) {kk : Nat} (wi : (Cond.instantiable y'.cls kk).before a0 Z = true) (w5 : (Cond.privateMethod y').before a0 Z = true) (w3 : (Cond.initialized y'.cls).before a0 Z = true) (w4 : (Cond.code y' b' m' r').before a0 Z = true) (hy : y'.cls ≠ "java/lang/invoke/MethodHandle" ∧ y'.cls ≠ "java/lang/invoke/VarHandle")
    (hlen : ∀ sig, parseMethodDescriptor y'.desc = some sig → argsL.length = sig.parameters.length) {st₀ : List Value} (hst : st₀ = argsL.reverse ++ .ref a :: st) (hW : (st.map fun v => v.category).sum = W) (hf : rm.frames + 1 ≤ R.frames) (hlo : W + (m' + 11) + rm.locals ≤ R.locals) (hk : k + rm.cells ≤ R.cells) (hn : n + rm.slots ≤ R.slots) (hls : ls.length = ml)
    (G : ∀ h', P h' → Go wd K₀ l Z R y bytes ml ret n0 kc ks Q h' (k + rm.cells) (n + rm.slots) pc' ls st) : Go wd K₀ l Z R y bytes ml ret n0 kc ks Q h k n pc ls st₀ := by
  subst hst
  intro p e s0 s m args below meth c T L Bs C X hh N
  obtain ⟨hd, rfl⟩ := D
  have hZ := C.2.2.2.2.1
  obtain ⟨cq, q1, q2⟩ := E.cell
  have wi' : (Cond.instantiable y'.cls kk).before args s = true := mvT hZ wi
  obtain ⟨c2, k2, i1, i2, -, i4, -⟩ := Cond.instantiable_spec wi'
  have hpa : s.PrivateAt y' := Cond.privateMethod_at (mvP hZ w5 (args := #[]))
  have w6 : (Cond.selects y'.cls y' y').before args s = true := selects_self_of_private i1 i2 (Bool.or_eq_false_iff.mp i4).1 hpa (mvT hZ w2) hy
  obtain ⟨v, vm₁, ⟨B, Lb, kb, nb⟩, -, X', ⟨Lq, ⟨⟨hQ, hsz⟩, Ns⟩, e1, e2, e3⟩, st'⟩ := X.privateBack C.1 (y := y') C.2.2.2.1 (mvT hZ w1) (mvT hZ w2) w6 hpa (mvT hZ w4) hy (backOf (W := W) (Q := fun v h' L => ((R0 P) v h' ∧ h.size ≤ h'.size) ∧ Fr n0 L) (hM []) hZ w4 w3 hf hlo) (g := mkF m pc ls.toArray (argsL.reverse ++ .ref a :: st)) rfl
    (by rw [C.2.2.1]; simpa using hls) (Steps.refl _) (a := a) (by rw [hh]; exact q1) q2 (argsL := argsL) (rest := st) hlen rfl (by show 2 * 0 + _ ≤ W; rw [← hW]; omega) (hb C.2.1 hd) (fun _ _ => ⟨rfl, hh, hk, hn⟩)
  dsimp only [Pt.U, Pt.locs, Pt.cells, Pt.slots] at X' hQ hsz e1 e2 e3 st'
  subst e1 e2 e3
  obtain ⟨rfl, hP⟩ := hQ
  exact (G B.heap hP p e s0 s m args below meth c B _ (Bs.mono hsz) C X' rfl (N.app Ns)).pre (fun t q => st'.trans q)
theorem go_callI1 {y' : MethodName} {b' : ByteArray} {m' : Nat} {r' : Option FieldType} {rm : Room} {idx W : Nat} {argsL : List Value} {P : Value → Heap → Prop} {x' : MethodName} {K : String} {a : Addr} {cnt : Nat} (D : Dc bytes pc (.invokeinterface idx cnt) 5 pc') (hM : Con false l Z y' b' m' r' rm (.ref a :: argsL).toArray h n0 (R1 P)) (E : Exa Z h a K)
    (w1 : (Cond.methodLink y.cls idx x').before a0 Z = true) (w5 : (Cond.declares x').before a0 Z = true) (w7 : (Cond.interfaceMethod x'.cls x'.cls x'.name x'.desc).before a0 Z = true) (w6 : (Cond.selects K x' y').before a0 Z = true) (w2 : (Cond.instanceMethod y').before a0 Z = true) (w8 : (Cond.publicMethod y').before a0 Z = true) (w9 : (Cond.unhidden K x'.name x'.desc).before a0 Z = true) (w10 : (Cond.castable K x'.cls).before a0 Z = true) (hd7 : ((Cond.interfaceMethod x'.cls x'.cls x'.name x'.desc).onTables && (Cond.interfaceMethod x'.cls x'.cls x'.name x'.desc).keepsFace) = true) (w3 : (Cond.initialized y'.cls).before a0 Z = true) (w4 : (Cond.code y' b' m' r').before a0 Z = true)
    (hy : x'.cls ≠ "java/lang/invoke/MethodHandle" ∧ x'.cls ≠ "java/lang/invoke/VarHandle") (hlen : ∀ sig, parseMethodDescriptor x'.desc = some sig → argsL.length = sig.parameters.length) {st₀ : List Value} (hst : st₀ = argsL.reverse ++ .ref a :: st) (hW : (st.map fun v => v.category).sum = W) (hf : rm.frames + 1 ≤ R.frames) (hlo : W + (m' + 11) + rm.locals ≤ R.locals) (hk : k + rm.cells ≤ R.cells) (hn : n + rm.slots ≤ R.slots) (hls : ls.length = ml)
    (G : ∀ w h', P w h' → Go wd K₀ l Z R y bytes ml ret n0 kc ks Q h' (k + rm.cells) (n + rm.slots) pc' ls (w :: st)) : Go wd K₀ l Z R y bytes ml ret n0 kc ks Q h k n pc ls st₀ := by
  subst hst
  intro p e s0 s m args below meth c T L Bs C X hh N
  obtain ⟨hd, rfl⟩ := D
  have hZ := C.2.2.2.2.1
  obtain ⟨cq, kq, qa, qb, qc⟩ := isOf (T := T) hZ hh E
  obtain ⟨v, vm₁, ⟨B, Lb, kb, nb⟩, -, X', ⟨Lq, ⟨⟨hQ, hsz⟩, Ns⟩, e1, e2, e3⟩, st'⟩ := X.interfaceBack C.1 (xi := x') (y := y') C.2.2.2.1 (mvT hZ w1) (mvT hZ w5) (mvT hZ w7 hd7) (mvT hZ w6) (mvT hZ w2) (mvT hZ w8) (mvT hZ w9) (mvT hZ w10) hy (backOf (W := W) (Q := fun v h' L => ((R1 P) v h' ∧ h.size ≤ h'.size) ∧ Fr n0 L) (hM []) hZ w4 w3 hf hlo) qa qb qc (g := mkF m pc ls.toArray (argsL.reverse ++ .ref a :: st)) rfl
    (by rw [C.2.2.1]; simpa using hls) (Steps.refl _) (argsL := argsL) (rest := st) hlen rfl (by show 2 * 0 + _ ≤ W; rw [← hW]; omega) (hb C.2.1 hd) (fun _ _ => ⟨rfl, hh, hk, hn⟩)
  dsimp only [Pt.U, Pt.locs, Pt.cells, Pt.slots] at X' hQ hsz e1 e2 e3 st'
  subst e1 e2 e3
  obtain ⟨w, rfl, hP⟩ := hQ
  exact (G w B.heap hP p e s0 s m args below meth c B _ (Bs.mono hsz) C X' rfl (N.app Ns)).pre (fun t q => st'.trans q)
theorem go_callU1 {y' : MethodName} {b' : ByteArray} {m' : Nat} {r' : Option FieldType} {rm : Room} {idx W : Nat} {argsL : List Value} {P : Value → Heap → Prop} {x' : MethodName} {K owner : String} {a : Addr} (D : Dc bytes pc (.invokevirtual idx) 3 pc') (hM : Con false l Z y' b' m' r' rm (.ref a :: argsL).toArray h n0 (R1 P)) (E : Exa Z h a K)
    (w1 : (Cond.methodLink y.cls idx x').before a0 Z = true) (w7 : (Cond.sameMethod x'.cls owner x'.name x'.desc).before a0 Z = true) (w5 : (Cond.declares ⟨owner, x'.name, x'.desc⟩).before a0 Z = true) (w6 : (Cond.selects K x' y').before a0 Z = true) (w2 : (Cond.instanceMethod y').before a0 Z = true) (w3 : (Cond.initialized y'.cls).before a0 Z = true) (w4 : (Cond.code y' b' m' r').before a0 Z = true)
    (hy : owner ≠ "java/lang/invoke/MethodHandle" ∧ owner ≠ "java/lang/invoke/VarHandle") (hlen : ∀ sig, parseMethodDescriptor x'.desc = some sig → argsL.length = sig.parameters.length) {st₀ : List Value} (hst : st₀ = argsL.reverse ++ .ref a :: st) (hW : (st.map fun v => v.category).sum = W) (hf : rm.frames + 1 ≤ R.frames) (hlo : W + (m' + 11) + rm.locals ≤ R.locals) (hk : k + rm.cells ≤ R.cells) (hn : n + rm.slots ≤ R.slots) (hls : ls.length = ml)
    (G : ∀ w h', P w h' → Go wd K₀ l Z R y bytes ml ret n0 kc ks Q h' (k + rm.cells) (n + rm.slots) pc' ls (w :: st)) : Go wd K₀ l Z R y bytes ml ret n0 kc ks Q h k n pc ls st₀ := by
  subst hst
  intro p e s0 s m args below meth c T L Bs C X hh N
  obtain ⟨hd, rfl⟩ := D
  have hZ := C.2.2.2.2.1
  obtain ⟨cq, kq, qa, qb, qc⟩ := isOf (T := T) hZ hh E
  obtain ⟨v, vm₁, ⟨B, Lb, kb, nb⟩, -, X', ⟨Lq, ⟨⟨hQ, hsz⟩, Ns⟩, e1, e2, e3⟩, st'⟩ := X.virtualBackUp C.1 (x := x') (y := y') C.2.2.2.1 (mvT hZ w1) (mvT hZ w7) (mvT hZ w5) hy (mvT hZ w6) (mvT hZ w2) (backOf (W := W) (Q := fun v h' L => ((R1 P) v h' ∧ h.size ≤ h'.size) ∧ Fr n0 L) (hM []) hZ w4 w3 hf hlo) qa qc (g := mkF m pc ls.toArray (argsL.reverse ++ .ref a :: st)) rfl
    (by rw [C.2.2.1]; simpa using hls) (Steps.refl _) (argsL := argsL) (rest := st) hlen rfl (by show 2 * 0 + _ ≤ W; rw [← hW]; omega) (hb C.2.1 hd) (fun _ _ => ⟨rfl, hh, hk, hn⟩)
  dsimp only [Pt.U, Pt.locs, Pt.cells, Pt.slots] at X' hQ hsz e1 e2 e3 st'
  subst e1 e2 e3
  obtain ⟨w, rfl, hP⟩ := hQ
  exact (G w B.heap hP p e s0 s m args below meth c B _ (Bs.mono hsz) C X' rfl (N.app Ns)).pre (fun t q => st'.trans q)
theorem go_ldcF {v : UInt32} {idx : Nat} (D : Dc bytes pc (.ldc idx) 2 pc') (w : (Cond.constantFloat y.cls idx v).before a0 Z = true) (G : Go wd K₀ l Z R y bytes ml ret n0 kc ks Q h k n pc' ls (.float v :: st)) : Go wd K₀ l Z R y bytes ml ret n0 kc ks Q h k n pc ls st := by
  obtain ⟨hd, rfl⟩ := D
  exact go_pure G (fun C X t => X.ldcFloatC C.1 C.2.2.2.1 (mvT C.2.2.2.2.1 w) (g := mkF _ pc ls.toArray st) rfl (hb C.2.1 hd) t)
theorem Base.since {s0 s : State} {vm' : Vm} {h' : Heap} (B : Base true s0 s h) (q : s.Since vm' h'.size) (g : h.size ≤ h'.size) : Base true s0 (s.setVm vm') h' := by
  obtain ⟨vm0, k0, rfl, hS, hk⟩ := B
  exact ⟨vm', h'.size, rfl, hS.trans q (Nat.le_trans hk g), Nat.le_refl _⟩
theorem Ctx.since {p : Program} {s : State} {m : MethodId} {meth : Method} {c : Code} {vm' : Vm} {k' : Nat} (C : Ctx K₀ Z y bytes ml ret p s m meth c) (q : s.Since vm' k') : Ctx KT Z y bytes ml ret p (s.setVm vm') m meth c :=
  ⟨C.1, C.2.1, C.2.2.1, by rw [show (s.setVm vm').vm = vm' from rfl, q.1.alike.findClass]; exact C.2.2.2.1, State.Warmed39.trans C.2.2.2.2.1 q.1, C.2.2.2.2.2.1, C.2.2.2.2.2.2.1, C.2.2.2.2.2.2.2.1, trivial⟩
theorem go_ldcS {idx nn : Nat} {text : String} (D : Dc bytes pc (.ldc idx) 2 pc') (w : (Cond.stringLink y.cls idx text).before a0 Z = true) (wS : ∀ a ∈ Bundle.stringAtoms, a.before a0 Z = true) (hn : 4 * text.toList.length ≤ nn) (hbig : nn ≤ 536870912) (hc : k + 2 ≤ R.cells) (hl : n + (nn + 4) ≤ R.slots)
    (G : ∀ (a : Addr) h', Ext h h' → Go true KT l Z R y bytes ml ret n0 kc ks Q h' (k + 2) (n + (nn + 4)) pc' ls (.ref a :: st)) : Go true K₀ l Z R y bytes ml ret n0 kc ks Q h k n pc ls st := by
  intro p e s0 s m args below meth c T L Bs C X hh N
  obtain ⟨hd, rfl⟩ := D
  obtain ⟨vm0, k0, rfl, hS, hk⟩ := Bs
  obtain ⟨a, T', h', k1, X', e', E, hS', hk', hZ', hf', st'⟩ := ldcS X C.1 C.2.2.2.2.1 C.2.2.2.1 w wS hh hS hk (g := mkF m pc ls.toArray st) rfl (hb C.2.1 hd) hn hbig hc hl
  exact (G a h' E p e s0 _ m args below meth c T' L ⟨_, k1, rfl, hS', hk'⟩ ⟨C.1, C.2.1, C.2.2.1, hf', hZ', C.2.2.2.2.2.1, C.2.2.2.2.2.2.1, C.2.2.2.2.2.2.2.1, trivial⟩ X' e' N).pre st'
theorem go_K (G : Go true KT l Z R y bytes ml ret n0 kc ks Q h k n pc ls st) : Go true K₀ l Z R y bytes ml ret n0 kc ks Q h k n pc ls st := fun p e s0 s m args below meth c T L B C X hh N => G p e s0 s m args below meth c T L B ⟨C.1, C.2.1, C.2.2.1, C.2.2.2.1, C.2.2.2.2.1, C.2.2.2.2.2.1, C.2.2.2.2.2.2.1, C.2.2.2.2.2.2.2.1, trivial⟩ X hh N
theorem go_ldcV {idx nn : Nat} {text : String} {vs : List Value} {z : Int32} (D : Dc bytes pc (.ldc idx) 2 pc') (w : (Cond.stringLink y.cls idx text).before a0 Z = true) (wS : ∀ a ∈ Bundle.stringAtoms, a.before a0 Z = true) (hld : Jvm.Lit.constHeld Z y.cls idx) (hcw : Jvm.Lit.compactW.before a0 Z = true)
    (ht : (∀ c ∈ text.toList, c.toNat < 256) ∧ text.toList.map (fun c => Value.int (Jvm.Lit.byteI c.toNat.toUInt16)) = vs) (hz : ¬ z < 0) (hlv : z.toNatClampNeg = vs.length) (hn : 4 * text.toList.length ≤ nn) (hbig : nn ≤ 536870912) (hc : k + 2 ≤ R.cells) (hl : n + (nn + 4) ≤ R.slots) (hn0 : Z.heap.size = n0)
    (G : ∀ (a b : Addr) (kb : ClassId) h', Ext h h' → Exa Z h' a "java/lang/String" → Fld Z h' a "java/lang/String" "coder" "B" (.int 0) → Fld Z h' a "java/lang/String" "value" "[B" (.ref b) → Arv Z h' b kb .byte z vs (.int 0) → Go true KT l Z R y bytes ml ret n0 kc ks Q h' (k + 2) (n + (nn + 4)) pc' ls (.ref a :: st)) : Go true (fun s => s = Z) l Z R y bytes ml ret n0 kc ks Q h k n pc ls st := by
  intro p e s0 s m args below meth c T L Bs C X hh N
  obtain ⟨hd, rfl⟩ := D
  obtain ⟨vm0, k0, rfl, hS, hk⟩ := Bs
  have hZs : s0.setVm vm0 = Z := C.2.2.2.2.2.2.2.2
  subst hZs
  obtain ⟨a, T', h', k1, b, kb, X', e', E, hS', hk', hZ', hf', F1, F2, F3, F4, -, -, -, -, st'⟩ := ldcSVL (Z := s0.setVm vm0) (s := s0) (vm0 := vm0) (Ts := []) X C.1 C.2.2.2.2.1 C.2.2.2.1 w wS hh hS hk (hn0 ▸ N) (fun _ _ q => q) IB.start (by simp) hld hcw ht hz hlv (g := mkF m pc ls.toArray st) rfl (hb C.2.1 hd) hn hbig hc hl
  exact (G a b kb h' E F1 F2 F3 F4 p e s0 _ m args below meth c T' L ⟨_, k1, rfl, hS', hk'⟩ ⟨C.1, C.2.1, C.2.2.1, hf', hZ', C.2.2.2.2.2.1, C.2.2.2.2.2.2.1, C.2.2.2.2.2.2.2.1, trivial⟩ X' e' N).pre st'
theorem con_ofZ {as' : Array Value} (hp : plainFor y = true) (he : Jvm.Sym.laidSlots as'.toList ++ List.replicate (ml - (Jvm.Sym.laidSlots as'.toList).length) .unset = ls) (G : Go wd (fun s => s = Z) l Z R y bytes ml ret n0 R.cells R.slots Q Z.heap 0 0 0 ls []) (ws : List Cond) :
    MetFree l y (head1 (Cond.code y bytes ml ret :: ws) R) (fun a U => a = as' ∧ U = Z) (fun _ _ _ _ _ => True) (fun _ U o U' => ∃ v L, o = .returned v ∧ ((Q v U'.heap ∧ Z.heap.size ≤ U'.heap.size) ∧ Fr n0 L) ∧ EndK wd U o U' L R.cells R.slots) := by
  refine MetFree.of_bodySF hp hisR ?_
  intro p e s m args below meth c s₁ Bd hml hP hK
  obtain ⟨rfl, hZ⟩ := hP
  subst hZ
  have X0 : Stand p l e R s m args below meth c s₁ [] 0 0 := Stand.of_body Bd
  have e0 : s₁.heap = s.heap := by rw [Bd.state]; rfl
  obtain ⟨s₂, o, h1, h2, h3, v, L, e1, ⟨q1, q2⟩, q3⟩ := G p e s s m args below meth c s₁ [] (Base.start s rfl) ⟨Bd.exec, Bd.bytes, hml, findClass_of_methodNamed Bd.named, State.Warmed39.refl s, Bd.returns, Bd.notSynchronized, (name_of_methodNamed Bd.named Bd.method).1, rfl⟩ X0 e0 (Fr.nil n0)
  exact ⟨s₂, o, (XT.entry (Ls := ls.toArray) (by simpa using he)).trans h1, h2, h3, v, L, e1, ⟨⟨q1, q3.size⟩, q2⟩, q3⟩
theorem go_cast {idx : Nat} {C0 : String} {a : Addr} (D : Dc bytes pc (.checkcast idx) 3 pc') (w : (Cond.classLink y.cls idx C0).before a0 Z = true) (F : Ins Z h a C0 true) (G : Go wd K₀ l Z R y bytes ml ret n0 kc ks Q h k n pc' ls (.ref a :: st)) : Go wd K₀ l Z R y bytes ml ret n0 kc ks Q h k n pc ls (.ref a :: st) := by
  intro p e s0 s m args below meth c T L Bs C X hh N
  obtain ⟨hd, rfl⟩ := D
  obtain ⟨T', X', e', st'⟩ := castY X C.1 C.2.2.2.2.1 C.2.2.2.1 w hh F (g := mkF m pc ls.toArray (.ref a :: st)) rfl rfl (hb C.2.1 hd)
  exact (G p e s0 s m args below meth c T' L Bs C X' e' N).pre st'
theorem go_inst {idx : Nat} {C0 : String} {a : Addr} (D : Dc bytes pc (.instanceof idx) 3 pc') (w : (Cond.classLink y.cls idx C0).before a0 Z = true) (F : Ins Z h a C0 true) (G : Go wd K₀ l Z R y bytes ml ret n0 kc ks Q h k n pc' ls (.int 1 :: st)) : Go wd K₀ l Z R y bytes ml ret n0 kc ks Q h k n pc ls (.ref a :: st) := by
  intro p e s0 s m args below meth c T L Bs C X hh N
  obtain ⟨hd, rfl⟩ := D
  obtain ⟨T', X', e', st'⟩ := instY X C.1 C.2.2.2.2.1 C.2.2.2.1 w hh F (g := mkF m pc ls.toArray (.ref a :: st)) rfl rfl (hb C.2.1 hd)
  exact (G p e s0 s m args below meth c T' L Bs C X' e' N).pre st'
theorem go_wcallS1 {y' : MethodName} {b' : ByteArray} {m' : Nat} {r' : Option FieldType} {rm : Room} {idx W : Nat} {argsL : List Value} {P : Value → Heap → Prop} (D : Dc bytes pc (.invokestatic idx) 3 pc') (hM : Con true l Z y' b' m' r' rm argsL.toArray h n0 (R1 P))
    (w1 : (Cond.methodLink y.cls idx y').before a0 Z = true) (w2 : (Cond.static y').before a0 Z = true) (w3 : (Cond.initialized y'.cls).before a0 Z = true) (w4 : (Cond.code y' b' m' r').before a0 Z = true) (hy : y'.cls ≠ "java/lang/invoke/MethodHandle" ∧ y'.cls ≠ "java/lang/invoke/VarHandle")
    (hlen : ∀ sig, parseMethodDescriptor y'.desc = some sig → argsL.length = sig.parameters.length) {st₀ : List Value} (hst : st₀ = argsL.reverse ++ st) (hW : (st.map fun v => v.category).sum = W) (hf : rm.frames + 1 ≤ R.frames) (hlo : W + (m' + 11) + rm.locals ≤ R.locals) (hk : k + rm.cells ≤ R.cells) (hn : n + rm.slots ≤ R.slots) (hls : ls.length = ml)
    (G : ∀ w h', P w h' → Go true KT l Z R y bytes ml ret n0 kc ks Q h' (k + rm.cells) (n + rm.slots) pc' ls (w :: st)) : Go true K₀ l Z R y bytes ml ret n0 kc ks Q h k n pc ls st₀ := by
  subst hst
  intro p e s0 s m args below meth c T L Bs C X hh N
  obtain ⟨hd, rfl⟩ := D
  have hZ := C.2.2.2.2.1
  obtain ⟨v, vm₁, ⟨B, Lb, kb, nb⟩, -, X', hSi, -, ⟨Lq, ⟨⟨hQ, hsz⟩, Ns⟩, e1, e2, e3⟩, st'⟩ := callSS X C.1 (y := y') C.2.2.2.1 (mvT hZ w1) (mvT hZ w2) (mvT hZ w3) (mvT hZ w4) hy (backOfS (W := W) (Q := fun v h' L => ((R1 P) v h' ∧ h.size ≤ h'.size) ∧ Fr n0 L) (hM []) hZ w4 w3 hf hlo) (g := mkF m pc ls.toArray (argsL.reverse ++ st)) rfl
    (by rw [C.2.2.1]; simpa using hls) (argsL := argsL) (rest := st) hlen rfl (by show 2 * 0 + _ ≤ W; rw [← hW]; omega) (hb C.2.1 hd) (fun _ _ => ⟨rfl, hh, hk, hn⟩)
  dsimp only [Pt.U, Pt.locs, Pt.cells, Pt.slots] at X' hSi hQ hsz e1 e2 e3 st'
  subst e1 e2 e3
  obtain ⟨w, rfl, hP⟩ := hQ
  exact (G w B.heap hP p e s0 _ m args below meth c B _ (Bs.since hSi hsz) (C.since hSi) X' rfl (N.app Ns)).pre (fun t q => st'.trans q)
theorem go_wcallV1 {y' : MethodName} {b' : ByteArray} {m' : Nat} {r' : Option FieldType} {rm : Room} {idx W : Nat} {argsL : List Value} {P : Value → Heap → Prop} {x' : MethodName} {K : String} {a : Addr} (D : Dc bytes pc (.invokevirtual idx) 3 pc') (hM : Con true l Z y' b' m' r' rm (.ref a :: argsL).toArray h n0 (R1 P)) (E : Exa Z h a K)
    (w1 : (Cond.methodLink y.cls idx x').before a0 Z = true) (w5 : (Cond.declares x').before a0 Z = true) (nf : ∀ s : State, Z.Warmed39 s.vm → NotFace s x') (w6 : (Cond.selects K x' y').before a0 Z = true) (w2 : (Cond.instanceMethod y').before a0 Z = true) (w3 : (Cond.initialized y'.cls).before a0 Z = true) (w4 : (Cond.code y' b' m' r').before a0 Z = true)
    (hy : x'.cls ≠ "java/lang/invoke/MethodHandle" ∧ x'.cls ≠ "java/lang/invoke/VarHandle") (hlen : ∀ sig, parseMethodDescriptor x'.desc = some sig → argsL.length = sig.parameters.length) {st₀ : List Value} (hst : st₀ = argsL.reverse ++ .ref a :: st) (hW : (st.map fun v => v.category).sum = W) (hf : rm.frames + 1 ≤ R.frames) (hlo : W + (m' + 11) + rm.locals ≤ R.locals) (hk : k + rm.cells ≤ R.cells) (hn : n + rm.slots ≤ R.slots) (hls : ls.length = ml)
    (G : ∀ w h', P w h' → Go true KT l Z R y bytes ml ret n0 kc ks Q h' (k + rm.cells) (n + rm.slots) pc' ls (w :: st)) : Go true K₀ l Z R y bytes ml ret n0 kc ks Q h k n pc ls st₀ := by
  subst hst
  intro p e s0 s m args below meth c T L Bs C X hh N
  obtain ⟨hd, rfl⟩ := D
  have hZ := C.2.2.2.2.1
  obtain ⟨cq, kq, qa, qb, qc⟩ := isOf (T := T) hZ hh E
  obtain ⟨v, vm₁, ⟨B, Lb, kb, nb⟩, -, X', hSi, -, ⟨Lq, ⟨⟨hQ, hsz⟩, Ns⟩, e1, e2, e3⟩, st'⟩ := X.virtualBackS C.1 (y := x') (z := y') C.2.2.2.1 (mvT hZ w1) (mvT hZ w5) (nf s hZ) (mvT hZ w6) (mvT hZ w2) hy (backOfS (W := W) (Q := fun v h' L => ((R1 P) v h' ∧ h.size ≤ h'.size) ∧ Fr n0 L) (hM []) hZ w4 w3 hf hlo) qa qc (g := mkF m pc ls.toArray (argsL.reverse ++ .ref a :: st)) rfl
    (by rw [C.2.2.1]; simpa using hls) (Steps.refl _) (argsL := argsL) (rest := st) hlen rfl (by show 2 * 0 + _ ≤ W; rw [← hW]; omega) (hb C.2.1 hd) (fun _ _ => ⟨rfl, hh, hk, hn⟩)
  dsimp only [Pt.U, Pt.locs, Pt.cells, Pt.slots] at X' hSi hQ hsz e1 e2 e3 st'
  subst e1 e2 e3
  obtain ⟨w, rfl, hP⟩ := hQ
  exact (G w B.heap hP p e s0 _ m args below meth c B _ (Bs.since hSi hsz) (C.since hSi) X' rfl (N.app Ns)).pre (fun t q => st'.trans q)
theorem go_wcallP1 {y' : MethodName} {b' : ByteArray} {m' : Nat} {r' : Option FieldType} {rm : Room} {idx W : Nat} {argsL : List Value} {P : Value → Heap → Prop} {K : String} {a : Addr} (D : Dc bytes pc (.invokevirtual idx) 3 pc') (hM : Con true l Z y' b' m' r' rm (.ref a :: argsL).toArray h n0 (R1 P)) (E : Exa Z h a K)
    (w1 : (Cond.methodLink y.cls idx y').before a0 Z = true) (w2 : (Cond.instanceMethod y').before a0 Z = true) {kk : Nat} (wi : (Cond.instantiable y'.cls kk).before a0 Z = true) (w5 : (Cond.privateMethod y').before a0 Z = true) (w3 : (Cond.initialized y'.cls).before a0 Z = true) (w4 : (Cond.code y' b' m' r').before a0 Z = true) (hy : y'.cls ≠ "java/lang/invoke/MethodHandle" ∧ y'.cls ≠ "java/lang/invoke/VarHandle")
    (hlen : ∀ sig, parseMethodDescriptor y'.desc = some sig → argsL.length = sig.parameters.length) {st₀ : List Value} (hst : st₀ = argsL.reverse ++ .ref a :: st) (hW : (st.map fun v => v.category).sum = W) (hf : rm.frames + 1 ≤ R.frames) (hlo : W + (m' + 11) + rm.locals ≤ R.locals) (hk : k + rm.cells ≤ R.cells) (hn : n + rm.slots ≤ R.slots) (hls : ls.length = ml)
    (G : ∀ w h', P w h' → Go true KT l Z R y bytes ml ret n0 kc ks Q h' (k + rm.cells) (n + rm.slots) pc' ls (w :: st)) : Go true K₀ l Z R y bytes ml ret n0 kc ks Q h k n pc ls st₀ := by
  subst hst
  intro p e s0 s m args below meth c T L Bs C X hh N
  obtain ⟨hd, rfl⟩ := D
  have hZ := C.2.2.2.2.1
  obtain ⟨cq, q1, q2⟩ := E.cell
  have wi' : (Cond.instantiable y'.cls kk).before args s = true := mvT hZ wi
  obtain ⟨c2, k2, i1, i2, -, i4, -⟩ := Cond.instantiable_spec wi'
  have hpa : s.PrivateAt y' := Cond.privateMethod_at (mvP hZ w5 (args := #[]))
  have w6 : (Cond.selects y'.cls y' y').before args s = true := selects_self_of_private i1 i2 (Bool.or_eq_false_iff.mp i4).1 hpa (mvT hZ w2) hy
  obtain ⟨v, vm₁, ⟨B, Lb, kb, nb⟩, -, X', hSi, -, ⟨Lq, ⟨⟨hQ, hsz⟩, Ns⟩, e1, e2, e3⟩, st'⟩ := X.privateBackS C.1 (y := y') C.2.2.2.1 (mvT hZ w1) (mvT hZ w2) w6 hpa (mvT hZ w4) hy (backOfS (W := W) (Q := fun v h' L => ((R1 P) v h' ∧ h.size ≤ h'.size) ∧ Fr n0 L) (hM []) hZ w4 w3 hf hlo) (g := mkF m pc ls.toArray (argsL.reverse ++ .ref a :: st)) rfl
    (by rw [C.2.2.1]; simpa using hls) (Steps.refl _) (a := a) (by rw [hh]; exact q1) q2 (argsL := argsL) (rest := st) hlen rfl (by show 2 * 0 + _ ≤ W; rw [← hW]; omega) (hb C.2.1 hd) (fun _ _ => ⟨rfl, hh, hk, hn⟩)
  dsimp only [Pt.U, Pt.locs, Pt.cells, Pt.slots] at X' hSi hQ hsz e1 e2 e3 st'
  subst e1 e2 e3
  obtain ⟨w, rfl, hP⟩ := hQ
  exact (G w B.heap hP p e s0 _ m args below meth c B _ (Bs.since hSi hsz) (C.since hSi) X' rfl (N.app Ns)).pre (fun t q => st'.trans q)
theorem go_wcallS0 {y' : MethodName} {b' : ByteArray} {m' : Nat} {r' : Option FieldType} {rm : Room} {idx W : Nat} {argsL : List Value} {P : Heap → Prop} (D : Dc bytes pc (.invokestatic idx) 3 pc') (hM : Con true l Z y' b' m' r' rm argsL.toArray h n0 (R0 P))
    (w1 : (Cond.methodLink y.cls idx y').before a0 Z = true) (w2 : (Cond.static y').before a0 Z = true) (w3 : (Cond.initialized y'.cls).before a0 Z = true) (w4 : (Cond.code y' b' m' r').before a0 Z = true) (hy : y'.cls ≠ "java/lang/invoke/MethodHandle" ∧ y'.cls ≠ "java/lang/invoke/VarHandle")
    (hlen : ∀ sig, parseMethodDescriptor y'.desc = some sig → argsL.length = sig.parameters.length) {st₀ : List Value} (hst : st₀ = argsL.reverse ++ st) (hW : (st.map fun v => v.category).sum = W) (hf : rm.frames + 1 ≤ R.frames) (hlo : W + (m' + 11) + rm.locals ≤ R.locals) (hk : k + rm.cells ≤ R.cells) (hn : n + rm.slots ≤ R.slots) (hls : ls.length = ml)
    (G : ∀ h', P h' → Go true KT l Z R y bytes ml ret n0 kc ks Q h' (k + rm.cells) (n + rm.slots) pc' ls st) : Go true K₀ l Z R y bytes ml ret n0 kc ks Q h k n pc ls st₀ := by
  subst hst
  intro p e s0 s m args below meth c T L Bs C X hh N
  obtain ⟨hd, rfl⟩ := D
  have hZ := C.2.2.2.2.1
  obtain ⟨v, vm₁, ⟨B, Lb, kb, nb⟩, -, X', hSi, -, ⟨Lq, ⟨⟨hQ, hsz⟩, Ns⟩, e1, e2, e3⟩, st'⟩ := callSS X C.1 (y := y') C.2.2.2.1 (mvT hZ w1) (mvT hZ w2) (mvT hZ w3) (mvT hZ w4) hy (backOfS (W := W) (Q := fun v h' L => ((R0 P) v h' ∧ h.size ≤ h'.size) ∧ Fr n0 L) (hM []) hZ w4 w3 hf hlo) (g := mkF m pc ls.toArray (argsL.reverse ++ st)) rfl
    (by rw [C.2.2.1]; simpa using hls) (argsL := argsL) (rest := st) hlen rfl (by show 2 * 0 + _ ≤ W; rw [← hW]; omega) (hb C.2.1 hd) (fun _ _ => ⟨rfl, hh, hk, hn⟩)
  dsimp only [Pt.U, Pt.locs, Pt.cells, Pt.slots] at X' hSi hQ hsz e1 e2 e3 st'
  subst e1 e2 e3
  obtain ⟨rfl, hP⟩ := hQ
  exact (G B.heap hP p e s0 _ m args below meth c B _ (Bs.since hSi hsz) (C.since hSi) X' rfl (N.app Ns)).pre (fun t q => st'.trans q)
theorem go_wcallN0 {y' : MethodName} {b' : ByteArray} {m' : Nat} {r' : Option FieldType} {rm : Room} {idx W : Nat} {argsL : List Value} {P : Heap → Prop} {a : Addr} (D : Dc bytes pc (.invokespecial idx) 3 pc') (hi : y'.name = "<init>") (hr' : r' = none) (hM : Con true l Z y' b' m' r' rm (.ref a :: argsL).toArray h n0 (R0 P))
    (w1 : (Cond.methodLink y.cls idx y').before a0 Z = true) (w2 : (Cond.instanceMethod y').before a0 Z = true) (w3 : (Cond.initialized y'.cls).before a0 Z = true) (w4 : (Cond.code y' b' m' r').before a0 Z = true) (hy : y'.cls ≠ "java/lang/invoke/MethodHandle" ∧ y'.cls ≠ "java/lang/invoke/VarHandle")
    (hlen : ∀ sig, parseMethodDescriptor y'.desc = some sig → argsL.length = sig.parameters.length) {st₀ : List Value} (hst : st₀ = argsL.reverse ++ .ref a :: st) (hW : (st.map fun v => v.category).sum = W) (hf : rm.frames + 1 ≤ R.frames) (hlo : W + (m' + 11) + rm.locals ≤ R.locals) (hk : k + rm.cells ≤ R.cells) (hn : n + rm.slots ≤ R.slots) (hls : ls.length = ml)
    (G : ∀ h', P h' → Go true KT l Z R y bytes ml ret n0 kc ks Q h' (k + rm.cells) (n + rm.slots) pc' ls st) : Go true K₀ l Z R y bytes ml ret n0 kc ks Q h k n pc ls st₀ := by
  subst hst hr'
  intro p e s0 s m args below meth c T L Bs C X hh N
  obtain ⟨hd, rfl⟩ := D
  have hZ := C.2.2.2.2.1
  obtain ⟨v, vm₁, ⟨B, Lb, kb, nb⟩, -, X', hSi, -, ⟨Lq, ⟨⟨hQ, hsz⟩, Ns⟩, e1, e2, e3⟩, st'⟩ := X.specialBackS C.1 (y := y') hi C.2.2.2.1 (mvT hZ w1) (mvT hZ w2) (mvT hZ w4) hy (backOfS (W := W) (Q := fun v h' L => ((R0 P) v h' ∧ h.size ≤ h'.size) ∧ Fr n0 L) (hM []) hZ w4 w3 hf hlo) (g := mkF m pc ls.toArray (argsL.reverse ++ .ref a :: st)) rfl
    (by rw [C.2.2.1]; simpa using hls) (Steps.refl _) (a := a) (argsL := argsL) (rest := st) hlen rfl (by show 2 * 0 + _ ≤ W; rw [← hW]; omega) (hb C.2.1 hd) (fun _ _ => ⟨rfl, hh, hk, hn⟩)
  dsimp only [Pt.U, Pt.locs, Pt.cells, Pt.slots] at X' hSi hQ hsz e1 e2 e3 st'
  subst e1 e2 e3
  obtain ⟨rfl, hP⟩ := hQ
  exact (G B.heap hP p e s0 _ m args below meth c B _ (Bs.since hSi hsz) (C.since hSi) X' rfl (N.app Ns)).pre (fun t q => st'.trans q)
theorem go_wcallV0 {y' : MethodName} {b' : ByteArray} {m' : Nat} {r' : Option FieldType} {rm : Room} {idx W : Nat} {argsL : List Value} {P : Heap → Prop} {x' : MethodName} {K : String} {a : Addr} (D : Dc bytes pc (.invokevirtual idx) 3 pc') (hM : Con true l Z y' b' m' r' rm (.ref a :: argsL).toArray h n0 (R0 P)) (E : Exa Z h a K)
    (w1 : (Cond.methodLink y.cls idx x').before a0 Z = true) (w5 : (Cond.declares x').before a0 Z = true) (nf : ∀ s : State, Z.Warmed39 s.vm → NotFace s x') (w6 : (Cond.selects K x' y').before a0 Z = true) (w2 : (Cond.instanceMethod y').before a0 Z = true) (w3 : (Cond.initialized y'.cls).before a0 Z = true) (w4 : (Cond.code y' b' m' r').before a0 Z = true)
    (hy : x'.cls ≠ "java/lang/invoke/MethodHandle" ∧ x'.cls ≠ "java/lang/invoke/VarHandle") (hlen : ∀ sig, parseMethodDescriptor x'.desc = some sig → argsL.length = sig.parameters.length) {st₀ : List Value} (hst : st₀ = argsL.reverse ++ .ref a :: st) (hW : (st.map fun v => v.category).sum = W) (hf : rm.frames + 1 ≤ R.frames) (hlo : W + (m' + 11) + rm.locals ≤ R.locals) (hk : k + rm.cells ≤ R.cells) (hn : n + rm.slots ≤ R.slots) (hls : ls.length = ml)
    (G : ∀ h', P h' → Go true KT l Z R y bytes ml ret n0 kc ks Q h' (k + rm.cells) (n + rm.slots) pc' ls st) : Go true K₀ l Z R y bytes ml ret n0 kc ks Q h k n pc ls st₀ := by
  subst hst
  intro p e s0 s m args below meth c T L Bs C X hh N
  obtain ⟨hd, rfl⟩ := D
  have hZ := C.2.2.2.2.1
  obtain ⟨cq, kq, qa, qb, qc⟩ := isOf (T := T) hZ hh E
  obtain ⟨v, vm₁, ⟨B, Lb, kb, nb⟩, -, X', hSi, -, ⟨Lq, ⟨⟨hQ, hsz⟩, Ns⟩, e1, e2, e3⟩, st'⟩ := X.virtualBackS C.1 (y := x') (z := y') C.2.2.2.1 (mvT hZ w1) (mvT hZ w5) (nf s hZ) (mvT hZ w6) (mvT hZ w2) hy (backOfS (W := W) (Q := fun v h' L => ((R0 P) v h' ∧ h.size ≤ h'.size) ∧ Fr n0 L) (hM []) hZ w4 w3 hf hlo) qa qc (g := mkF m pc ls.toArray (argsL.reverse ++ .ref a :: st)) rfl
    (by rw [C.2.2.1]; simpa using hls) (Steps.refl _) (argsL := argsL) (rest := st) hlen rfl (by show 2 * 0 + _ ≤ W; rw [← hW]; omega) (hb C.2.1 hd) (fun _ _ => ⟨rfl, hh, hk, hn⟩)
  dsimp only [Pt.U, Pt.locs, Pt.cells, Pt.slots] at X' hSi hQ hsz e1 e2 e3 st'
  subst e1 e2 e3
  obtain ⟨rfl, hP⟩ := hQ
  exact (G B.heap hP p e s0 _ m args below meth c B _ (Bs.since hSi hsz) (C.since hSi) X' rfl (N.app Ns)).pre (fun t q => st'.trans q)
theorem go_wcallP0 {y' : MethodName} {b' : ByteArray} {m' : Nat} {r' : Option FieldType} {rm : Room} {idx W : Nat} {argsL : List Value} {P : Heap → Prop} {K : String} {a : Addr} (D : Dc bytes pc (.invokevirtual idx) 3 pc') (hM : Con true l Z y' b' m' r' rm (.ref a :: argsL).toArray h n0 (R0 P)) (E : Exa Z h a K)
    (w1 : (Cond.methodLink y.cls idx y').before a0 Z = true) (w2 : (Cond.instanceMethod y').before a0 Z = true) {kk : Nat} (wi : (Cond.instantiable y'.cls kk).before a0 Z = true) (w5 : (Cond.privateMethod y').before a0 Z = true) (w3 : (Cond.initialized y'.cls).before a0 Z = true) (w4 : (Cond.code y' b' m' r').before a0 Z = true) (hy : y'.cls ≠ "java/lang/invoke/MethodHandle" ∧ y'.cls ≠ "java/lang/invoke/VarHandle")
    (hlen : ∀ sig, parseMethodDescriptor y'.desc = some sig → argsL.length = sig.parameters.length) {st₀ : List Value} (hst : st₀ = argsL.reverse ++ .ref a :: st) (hW : (st.map fun v => v.category).sum = W) (hf : rm.frames + 1 ≤ R.frames) (hlo : W + (m' + 11) + rm.locals ≤ R.locals) (hk : k + rm.cells ≤ R.cells) (hn : n + rm.slots ≤ R.slots) (hls : ls.length = ml)
    (G : ∀ h', P h' → Go true KT l Z R y bytes ml ret n0 kc ks Q h' (k + rm.cells) (n + rm.slots) pc' ls st) : Go true K₀ l Z R y bytes ml ret n0 kc ks Q h k n pc ls st₀ := by
  subst hst
  intro p e s0 s m args below meth c T L Bs C X hh N
  obtain ⟨hd, rfl⟩ := D
  have hZ := C.2.2.2.2.1
  obtain ⟨cq, q1, q2⟩ := E.cell
  have wi' : (Cond.instantiable y'.cls kk).before args s = true := mvT hZ wi
  obtain ⟨c2, k2, i1, i2, -, i4, -⟩ := Cond.instantiable_spec wi'
  have hpa : s.PrivateAt y' := Cond.privateMethod_at (mvP hZ w5 (args := #[]))
  have w6 : (Cond.selects y'.cls y' y').before args s = true := selects_self_of_private i1 i2 (Bool.or_eq_false_iff.mp i4).1 hpa (mvT hZ w2) hy
  obtain ⟨v, vm₁, ⟨B, Lb, kb, nb⟩, -, X', hSi, -, ⟨Lq, ⟨⟨hQ, hsz⟩, Ns⟩, e1, e2, e3⟩, st'⟩ := X.privateBackS C.1 (y := y') C.2.2.2.1 (mvT hZ w1) (mvT hZ w2) w6 hpa (mvT hZ w4) hy (backOfS (W := W) (Q := fun v h' L => ((R0 P) v h' ∧ h.size ≤ h'.size) ∧ Fr n0 L) (hM []) hZ w4 w3 hf hlo) (g := mkF m pc ls.toArray (argsL.reverse ++ .ref a :: st)) rfl
    (by rw [C.2.2.1]; simpa using hls) (Steps.refl _) (a := a) (by rw [hh]; exact q1) q2 (argsL := argsL) (rest := st) hlen rfl (by show 2 * 0 + _ ≤ W; rw [← hW]; omega) (hb C.2.1 hd) (fun _ _ => ⟨rfl, hh, hk, hn⟩)
  dsimp only [Pt.U, Pt.locs, Pt.cells, Pt.slots] at X' hSi hQ hsz e1 e2 e3 st'
  subst e1 e2 e3
  obtain ⟨rfl, hP⟩ := hQ
  exact (G B.heap hP p e s0 _ m args below meth c B _ (Bs.since hSi hsz) (C.since hSi) X' rfl (N.app Ns)).pre (fun t q => st'.trans q)
theorem go_initO {idx W : Nat} {a : Addr} (D : Dc bytes pc (.invokespecial idx) 3 pc') (w1 : (Cond.methodLink y.cls idx Lib.objectInit).before a0 Z = true) (w2 : (Cond.instanceMethod Lib.objectInit).before a0 Z = true) (w3 : (Cond.code Lib.objectInit ⟨#[0xb1]⟩ 1 none).before a0 Z = true)
    (hls : ls.length = ml) (hf : 1 ≤ R.frames) (hW : (st.map fun v => v.category).sum = W) (hlo : W + 12 ≤ R.locals) (G : Go wd K₀ l Z R y bytes ml ret n0 kc ks Q h k n pc' ls st) : Go wd K₀ l Z R y bytes ml ret n0 kc ks Q h k n pc ls (.ref a :: st) := by
  intro p e s0 s m args below meth c T L Bs C X hh N
  obtain ⟨hd, rfl⟩ := D
  obtain ⟨T', X', e', st'⟩ := initO X C.1 C.2.2.2.2.1 C.2.2.2.1 w1 w2 w3 hh (g := mkF m pc ls.toArray (.ref a :: st)) rfl (by rw [C.2.2.1]; simpa using hls) rfl (hb C.2.1 hd) hf (W := W) (by show 2 * 0 + _ ≤ W; rw [← hW]; omega) hlo
  exact (G p e s0 s m args below meth c T' L Bs C X' e' N).pre st'
/-! ## 2. fields, objects, arrays, by the library's own facts -/
theorem go_getF {idx : Nat} {R0 O nm d host : String} {a : Addr} {v : Value} (D : Dc bytes pc (.getfield idx) 3 pc') (w : (Cond.fieldLink y.cls idx R0 nm d).before a0 Z = true ∨ (Cond.fieldLinkNest y.cls idx R0 nm d host).before a0 Z = true) (via : Via Z R0 O nm d) (F : Fld Z h a O nm d v) (G : Go wd K₀ l Z R y bytes ml ret n0 kc ks Q h k n pc' ls (v :: st)) : Go wd K₀ l Z R y bytes ml ret n0 kc ks Q h k n pc ls (.ref a :: st) := by
  intro p e s0 s m args below meth c T L Bs C X hh N
  obtain ⟨hd, rfl⟩ := D
  obtain ⟨T', X', e', st'⟩ := getF X C.1 C.2.2.2.2.1 C.2.2.2.1 w via hh F (g := mkF m pc ls.toArray (.ref a :: st)) rfl rfl (hb C.2.1 hd)
  exact (G p e s0 s m args below meth c T' L Bs C X' e' N).pre st'
theorem go_getS {idx : Nat} {R0 O nm d host : String} {v : Value} (D : Dc bytes pc (.getstatic idx) 3 pc') (w : (Cond.fieldLink y.cls idx R0 nm d).before a0 Z = true ∨ (Cond.fieldLinkNest y.cls idx R0 nm d host).before a0 Z = true) (via : Via Z R0 O nm d) (F : Sta Z h O nm d v) (G : Go wd K₀ l Z R y bytes ml ret n0 kc ks Q h k n pc' ls (v :: st)) : Go wd K₀ l Z R y bytes ml ret n0 kc ks Q h k n pc ls st := by
  intro p e s0 s m args below meth c T L Bs C X hh N
  obtain ⟨hd, rfl⟩ := D
  obtain ⟨T', X', e', st'⟩ := getS2 X C.1 C.2.2.2.2.1 C.2.2.2.1 w via hh F (g := mkF m pc ls.toArray st) rfl (hb C.2.1 hd)
  exact (G p e s0 s m args below meth c T' L Bs C X' e' N).pre st'
theorem go_putF {idx kk : Nat} {R0 O nm d host K : String} {ty : FieldType} {a : Addr} {v old : Value} (D : Dc bytes pc (.putfield idx) 3 pc') (w : (Cond.fieldLink y.cls idx R0 nm d).before a0 Z = true ∨ (Cond.fieldLinkNest y.cls idx R0 nm d host).before a0 Z = true) (via : Via Z R0 O nm d) (F : Fld Z h a O nm d old) (E : Exa Z h a K)
    (Lw : (Cond.lays K O nm d).before a0 Z = true ∨ ((Cond.laysFinal K O nm d).before a0 Z = true ∧ y.cls = O ∧ y.name = "<init>")) (wi : (Cond.instantiable K kk).before a0 Z = true) (hty : parseFieldDescriptor d = some ty) (hnr : narrow ty v = v) (hfi : fits ty v = true) (ha : n0 ≤ a)
    (G : ∀ h', Wr h h' a (Jvm.RoadKit.slotOf Z O nm d) v → Go wd K₀ l Z R y bytes ml ret n0 kc ks Q h' k n pc' ls st) : Go wd K₀ l Z R y bytes ml ret n0 kc ks Q h k n pc ls (v :: .ref a :: st) := by
  intro p e s0 s m args below meth c T L Bs C X hh N
  obtain ⟨hd, rfl⟩ := D
  obtain ⟨T', h', X', e', W', st'⟩ := putF X C.1 C.2.2.2.2.1 C.2.2.2.1 w via hh F E (Lw.imp id fun q => ⟨q.1, q.2.1, C.2.2.2.2.2.2.2.1.trans q.2.2⟩) wi hty hnr hfi (g := mkF m pc ls.toArray (v :: .ref a :: st)) rfl rfl (hb C.2.1 hd)
  exact (G h' W' p e s0 s m args below meth c T' _ (Bs.mono (Nat.le_of_eq W'.size.symm)) C X' e' (Fr.snoc X' N ha)).pre st'
theorem go_newO {idx sl : Nat} {K : String} (D : Dc bytes pc (.new idx) 3 pc') (w : (Cond.classLink y.cls idx K).before a0 Z = true) (wi : (Cond.instantiable K sl).before a0 Z = true) (wz : (Cond.initialized K).before a0 Z = true) (hk : k + 1 ≤ R.cells) (hn : n + sl ≤ R.slots)
    (G : ∀ h', Ext h h' → Exa Z h' h.size K → (∀ {O nm d : String} {ty : FieldType}, Laid Z a0 K O nm d → parseFieldDescriptor d = some ty → Fld Z h' h.size O nm d (defaultValue ty)) → Go wd K₀ l Z R y bytes ml ret n0 kc ks Q h' (k + 1) (n + sl) pc' ls (.ref h.size :: st)) : Go wd K₀ l Z R y bytes ml ret n0 kc ks Q h k n pc ls st := by
  intro p e s0 s m args below meth c T L Bs C X hh N
  obtain ⟨hd, rfl⟩ := D
  obtain ⟨T', h', X', e', E', A', F', -, st'⟩ := newO X C.1 C.2.2.2.2.1 C.2.2.2.1 w wi wz hh (g := mkF m pc ls.toArray st) rfl (hb C.2.1 hd) hk hn
  exact (G h' E' A' F' p e s0 s m args below meth c T' _ (Bs.mono E'.1) C X' e' N).pre st'
theorem go_newP {aty : ArrayType} {z : Int32} {ad : String} (D : Dc bytes pc (.newarray aty) 2 pc') (w : (Cond.arrayClass (newarray.typeOf aty)).before a0 Z = true) (hz : ¬ z < 0) (cap : Nat) (hcap : z.toNatClampNeg ≤ cap) (hb8 : cap * 8 ≤ 536870912) (hk : k + 1 ≤ R.cells) (hn : n + cap ≤ R.slots) (had : "[" ++ (newarray.typeOf aty).toString = ad)
    (G : ∀ h' cA, Ext h h' → Arr Z h' h.size (newA cA (newarray.typeOf aty) z) (newarray.typeOf aty) → Exa Z h' h.size ad → Go wd K₀ l Z R y bytes ml ret n0 kc ks Q h' (k + 1) (n + cap) pc' ls (.ref h.size :: st)) : Go wd K₀ l Z R y bytes ml ret n0 kc ks Q h k n pc ls (.int z :: st) := by
  intro p e s0 s m args below meth c T L Bs C X hh N
  obtain ⟨hd, rfl⟩ := D
  obtain ⟨T', h', cA, X', e', E', A', F', st'⟩ := newPE X C.1 C.2.2.2.2.1 w hh (g := mkF m pc ls.toArray (.int z :: st)) rfl (hb C.2.1 hd) rfl hz hcap hb8 hk hn had
  exact (G h' cA E' A' F' p e s0 s m args below meth c T' _ (Bs.mono E'.1) C X' e' N).pre st'
theorem go_newR {idx : Nat} {K : String} {z : Int32} {ad : String} (D : Dc bytes pc (.anewarray idx) 3 pc') (w1 : (Cond.classLink y.cls idx K).before a0 Z = true) (w2 : (Cond.arrayOver (.object K)).before a0 Z = true) (hz : ¬ z < 0) (cap : Nat) (hcap : z.toNatClampNeg ≤ cap) (hb8 : cap * 8 ≤ 536870912) (hk : k + 1 ≤ R.cells) (hn : n + cap ≤ R.slots) (had : "[" ++ (FieldType.object K).toString = ad)
    (G : ∀ h' cA, Ext h h' → Arr Z h' h.size (newA cA (.object K) z) (.object K) → Exa Z h' h.size ad → Ovr Z cA K → Go wd K₀ l Z R y bytes ml ret n0 kc ks Q h' (k + 1) (n + cap) pc' ls (.ref h.size :: st)) : Go wd K₀ l Z R y bytes ml ret n0 kc ks Q h k n pc ls (.int z :: st) := by
  intro p e s0 s m args below meth c T L Bs C X hh N
  obtain ⟨hd, rfl⟩ := D
  obtain ⟨T', h', cA, X', e', E', A', F', O', st'⟩ := newRE X C.1 C.2.2.2.2.1 C.2.2.2.1 w1 w2 hh (g := mkF m pc ls.toArray (.int z :: st)) rfl (hb C.2.1 hd) rfl hz hcap hb8 hk hn had
  exact (G h' cA E' A' F' O' p e s0 s m args below meth c T' _ (Bs.mono E'.1) C X' e' N).pre st'
theorem go_len {a : Addr} {cl : Cell} {ty : FieldType} {z : Int32} (D : Dc bytes pc .arraylength 1 pc') (A : Arr Z h a cl ty) (hz : cl.slots.size.toInt32 = z) (G : Go wd K₀ l Z R y bytes ml ret n0 kc ks Q h k n pc' ls (.int z :: st)) : Go wd K₀ l Z R y bytes ml ret n0 kc ks Q h k n pc ls (.ref a :: st) := by
  intro p e s0 s m args below meth c T L Bs C X hh N
  obtain ⟨hd, rfl⟩ := D
  subst hz
  exact (G p e s0 s m args below meth c T L Bs C X hh N).pre fun t q => X.arraylength C.1 (by rw [hh]; exact A.1) (State.isArrayOf_alike C.2.2.2.2.1.alike A.2.1) (g := mkF m pc ls.toArray (.ref a :: st)) rfl rfl (hb C.2.1 hd) _ q
theorem go_iaload {a : Addr} {cl : Cell} {j : Int32} {v : Value} (D : Dc bytes pc .iaload 1 pc') (A : Arr Z h a cl .int) (hj : ¬ (j < 0 ∨ cl.slots.size ≤ j.toNatClampNeg)) (hv : cl.slots[j.toNatClampNeg]? = some v) (G : Go wd K₀ l Z R y bytes ml ret n0 kc ks Q h k n pc' ls (v :: st)) : Go wd K₀ l Z R y bytes ml ret n0 kc ks Q h k n pc ls (.int j :: .ref a :: st) := by
  intro p e s0 s m args below meth c T L Bs C X hh N
  obtain ⟨hd, rfl⟩ := D
  exact (G p e s0 s m args below meth c T L Bs C X hh N).pre fun t q => X.iaload C.1 (j := j) (v := v) (by rw [hh]; exact A.1) (State.isArrayOf_alike C.2.2.2.2.1.alike A.2.1) A.2.2 hj hv (g := mkF m pc ls.toArray (.int j :: .ref a :: st)) rfl rfl (hb C.2.1 hd) _ q
theorem go_caload {a : Addr} {cl : Cell} {j : Int32} {v : Value} (D : Dc bytes pc .caload 1 pc') (A : Arr Z h a cl .char) (hj : ¬ (j < 0 ∨ cl.slots.size ≤ j.toNatClampNeg)) (hv : cl.slots[j.toNatClampNeg]? = some v) (G : Go wd K₀ l Z R y bytes ml ret n0 kc ks Q h k n pc' ls (v :: st)) : Go wd K₀ l Z R y bytes ml ret n0 kc ks Q h k n pc ls (.int j :: .ref a :: st) := by
  intro p e s0 s m args below meth c T L Bs C X hh N
  obtain ⟨hd, rfl⟩ := D
  exact (G p e s0 s m args below meth c T L Bs C X hh N).pre fun t q => X.caload C.1 (j := j) (v := v) (by rw [hh]; exact A.1) (State.isArrayOf_alike C.2.2.2.2.1.alike A.2.1) A.2.2 hj hv (g := mkF m pc ls.toArray (.int j :: .ref a :: st)) rfl rfl (hb C.2.1 hd) _ q
theorem go_baload {a : Addr} {cl : Cell} {j : Int32} {v : Value} (D : Dc bytes pc .baload 1 pc') (A : Arr Z h a cl .byte) (hj : ¬ (j < 0 ∨ cl.slots.size ≤ j.toNatClampNeg)) (hv : cl.slots[j.toNatClampNeg]? = some v) (G : Go wd K₀ l Z R y bytes ml ret n0 kc ks Q h k n pc' ls (v :: st)) : Go wd K₀ l Z R y bytes ml ret n0 kc ks Q h k n pc ls (.int j :: .ref a :: st) := by
  intro p e s0 s m args below meth c T L Bs C X hh N
  obtain ⟨hd, rfl⟩ := D
  exact (G p e s0 s m args below meth c T L Bs C X hh N).pre fun t q => X.baloadBytes C.1 (j := j) (v := v) (by rw [hh]; exact A.1) (State.isArrayOf_alike C.2.2.2.2.1.alike A.2.1) A.2.2 hj hv (g := mkF m pc ls.toArray (.int j :: .ref a :: st)) rfl rfl (hb C.2.1 hd) _ q
theorem go_laload {a : Addr} {cl : Cell} {j : Int32} {v : Value} (D : Dc bytes pc .laload 1 pc') (A : Arr Z h a cl .long) (hj : ¬ (j < 0 ∨ cl.slots.size ≤ j.toNatClampNeg)) (hv : cl.slots[j.toNatClampNeg]? = some v) (G : Go wd K₀ l Z R y bytes ml ret n0 kc ks Q h k n pc' ls (v :: st)) : Go wd K₀ l Z R y bytes ml ret n0 kc ks Q h k n pc ls (.int j :: .ref a :: st) := by
  intro p e s0 s m args below meth c T L Bs C X hh N
  obtain ⟨hd, rfl⟩ := D
  exact (G p e s0 s m args below meth c T L Bs C X hh N).pre fun t q => X.laload C.1 (j := j) (v := v) (by rw [hh]; exact A.1) (State.isArrayOf_alike C.2.2.2.2.1.alike A.2.1) A.2.2 hj hv (g := mkF m pc ls.toArray (.int j :: .ref a :: st)) rfl rfl (hb C.2.1 hd) _ q
theorem go_aaload {a : Addr} {cl : Cell} {ty : FieldType} {j : Int32} {v : Value} (D : Dc bytes pc .aaload 1 pc') (A : Arr Z h a cl ty) (hty : ty.isReference = true) (hj : ¬ (j < 0 ∨ cl.slots.size ≤ j.toNatClampNeg)) (hv : cl.slots[j.toNatClampNeg]? = some v) (G : Go wd K₀ l Z R y bytes ml ret n0 kc ks Q h k n pc' ls (v :: st)) : Go wd K₀ l Z R y bytes ml ret n0 kc ks Q h k n pc ls (.int j :: .ref a :: st) := by
  intro p e s0 s m args below meth c T L Bs C X hh N
  obtain ⟨hd, rfl⟩ := D
  exact (G p e s0 s m args below meth c T L Bs C X hh N).pre fun t q => X.aaload C.1 (j := j) (v := v) (by rw [hh]; exact A.1) (State.isArrayOf_alike C.2.2.2.2.1.alike A.2.1) hty A.2.2 hj hv (g := mkF m pc ls.toArray (.int j :: .ref a :: st)) rfl rfl (hb C.2.1 hd) _ q
theorem go_iastore {a : Addr} {cl : Cell} {j : Int32} {x : Int32} (D : Dc bytes pc .iastore 1 pc') (A : Arr Z h a cl .int) (hj : ¬ (j < 0 ∨ cl.slots.size ≤ j.toNatClampNeg)) (ha : n0 ≤ a) (G : ∀ h', Wr h h' a j.toNatClampNeg (.int x) → Go wd K₀ l Z R y bytes ml ret n0 kc ks Q h' k n pc' ls st) : Go wd K₀ l Z R y bytes ml ret n0 kc ks Q h k n pc ls (.int x :: .int j :: .ref a :: st) := by
  intro p e s0 s m args below meth c T L Bs C X hh N
  obtain ⟨hd, rfl⟩ := D
  obtain ⟨T', h', X', e', W', st'⟩ := stI X C.1 C.2.2.2.2.1 hh A hj (g := mkF m pc ls.toArray (.int x :: .int j :: .ref a :: st)) rfl rfl (hb C.2.1 hd)
  exact (G h' W' p e s0 s m args below meth c T' _ (Bs.mono (Nat.le_of_eq W'.size.symm)) C X' e' (Fr.snoc X' N ha)).pre st'
theorem go_lastore {a : Addr} {cl : Cell} {j : Int32} {x : Int64} (D : Dc bytes pc .lastore 1 pc') (A : Arr Z h a cl .long) (hj : ¬ (j < 0 ∨ cl.slots.size ≤ j.toNatClampNeg)) (ha : n0 ≤ a) (G : ∀ h', Wr h h' a j.toNatClampNeg (.long x) → Go wd K₀ l Z R y bytes ml ret n0 kc ks Q h' k n pc' ls st) : Go wd K₀ l Z R y bytes ml ret n0 kc ks Q h k n pc ls (.long x :: .int j :: .ref a :: st) := by
  intro p e s0 s m args below meth c T L Bs C X hh N
  obtain ⟨hd, rfl⟩ := D
  obtain ⟨T', h', X', e', W', st'⟩ := stJ X C.1 C.2.2.2.2.1 hh A hj (g := mkF m pc ls.toArray (.long x :: .int j :: .ref a :: st)) rfl rfl (hb C.2.1 hd)
  exact (G h' W' p e s0 s m args below meth c T' _ (Bs.mono (Nat.le_of_eq W'.size.symm)) C X' e' (Fr.snoc X' N ha)).pre st'
theorem go_castore {a : Addr} {cl : Cell} {j : Int32} {x : Int32} (D : Dc bytes pc .castore 1 pc') (A : Arr Z h a cl .char) (hj : ¬ (j < 0 ∨ cl.slots.size ≤ j.toNatClampNeg)) (ha : n0 ≤ a) (G : ∀ h', Wr h h' a j.toNatClampNeg (.int (nar .char x)) → Go wd K₀ l Z R y bytes ml ret n0 kc ks Q h' k n pc' ls st) : Go wd K₀ l Z R y bytes ml ret n0 kc ks Q h k n pc ls (.int x :: .int j :: .ref a :: st) := by
  intro p e s0 s m args below meth c T L Bs C X hh N
  obtain ⟨hd, rfl⟩ := D
  obtain ⟨T', h', X', e', W', st'⟩ := stC X C.1 C.2.2.2.2.1 hh A hj (g := mkF m pc ls.toArray (.int x :: .int j :: .ref a :: st)) rfl rfl (hb C.2.1 hd)
  exact (G h' W' p e s0 s m args below meth c T' _ (Bs.mono (Nat.le_of_eq W'.size.symm)) C X' e' (Fr.snoc X' N ha)).pre st'
theorem go_bastore {a : Addr} {cl : Cell} {j : Int32} {x : Int32} (D : Dc bytes pc .bastore 1 pc') (A : Arr Z h a cl .byte) (hj : ¬ (j < 0 ∨ cl.slots.size ≤ j.toNatClampNeg)) (ha : n0 ≤ a) (G : ∀ h', Wr h h' a j.toNatClampNeg (.int (nar .byte x)) → Go wd K₀ l Z R y bytes ml ret n0 kc ks Q h' k n pc' ls st) : Go wd K₀ l Z R y bytes ml ret n0 kc ks Q h k n pc ls (.int x :: .int j :: .ref a :: st) := by
  intro p e s0 s m args below meth c T L Bs C X hh N
  obtain ⟨hd, rfl⟩ := D
  obtain ⟨T', h', X', e', W', st'⟩ := stB X C.1 C.2.2.2.2.1 hh A hj (g := mkF m pc ls.toArray (.int x :: .int j :: .ref a :: st)) rfl rfl (hb C.2.1 hd)
  exact (G h' W' p e s0 s m args below meth c T' _ (Bs.mono (Nat.le_of_eq W'.size.symm)) C X' e' (Fr.snoc X' N ha)).pre st'
theorem go_zastore {a : Addr} {cl : Cell} {j : Int32} {x : Int32} (D : Dc bytes pc .bastore 1 pc') (A : Arr Z h a cl .boolean) (hj : ¬ (j < 0 ∨ cl.slots.size ≤ j.toNatClampNeg)) (ha : n0 ≤ a) (G : ∀ h', Wr h h' a j.toNatClampNeg (.int (nar .boolean x)) → Go wd K₀ l Z R y bytes ml ret n0 kc ks Q h' k n pc' ls st) : Go wd K₀ l Z R y bytes ml ret n0 kc ks Q h k n pc ls (.int x :: .int j :: .ref a :: st) := by
  intro p e s0 s m args below meth c T L Bs C X hh N
  obtain ⟨hd, rfl⟩ := D
  obtain ⟨T', h', X', e', W', st'⟩ := stZ X C.1 C.2.2.2.2.1 hh A hj (g := mkF m pc ls.toArray (.int x :: .int j :: .ref a :: st)) rfl rfl (hb C.2.1 hd)
  exact (G h' W' p e s0 s m args below meth c T' _ (Bs.mono (Nat.le_of_eq W'.size.symm)) C X' e' (Fr.snoc X' N ha)).pre st'
theorem go_aastore {a : Addr} {cl : Cell} {ty : FieldType} {j : Int32} {v : Value} (D : Dc bytes pc .aastore 1 pc') (A : Arr Z h a cl ty) (hj : ¬ (j < 0 ∨ cl.slots.size ≤ j.toNatClampNeg)) (hty : ty.isReference = true) (F : Sto Z h a v) (ha : n0 ≤ a) (G : ∀ h', Wr h h' a j.toNatClampNeg v → Go wd K₀ l Z R y bytes ml ret n0 kc ks Q h' k n pc' ls st) : Go wd K₀ l Z R y bytes ml ret n0 kc ks Q h k n pc ls (v :: .int j :: .ref a :: st) := by
  intro p e s0 s m args below meth c T L Bs C X hh N
  obtain ⟨hd, rfl⟩ := D
  obtain ⟨T', h', X', e', W', st'⟩ := stR X C.1 C.2.2.2.2.1 hh A hj hty F (g := mkF m pc ls.toArray (v :: .int j :: .ref a :: st)) rfl rfl (hb C.2.1 hd)
  exact (G h' W' p e s0 s m args below meth c T' _ (Bs.mono (Nat.le_of_eq W'.size.symm)) C X' e' (Fr.snoc X' N ha)).pre st'
end Walk
end Jvm.OwnGo
namespace Jvm.OwnGo
open Jvm Sem ClassFile Op Lib Jvm.Stand Jvm.Free Jvm.LawKit Jvm.RoadKit
/-! ## 3. the heap since the start, as a list of what lies where -/
abbrev FD := (String × String × String) × Value
abbrev Desc := (String × List FD) ⊕ (FieldType × String × List Value)
def slotF (Z : State) (f : FD) : Nat := Jvm.RoadKit.slotOf Z f.1.1 f.1.2.1 f.1.2.2
def Is (Z : State) (h : Heap) (a : Addr) : Desc → Prop
  | .inl (K, fs) => Exa Z h a K ∧ (fs.map (slotF Z)).Nodup ∧ ∀ f ∈ fs, Fld Z h a f.1.1 f.1.2.1 f.1.2.2 f.2
  | .inr (ty, ad, vs) => Exa Z h a ad ∧ ∃ c : Cell, Arr Z h a c ty ∧ c.slots = vs.toArray ∧ vs.length < 2 ^ 31 ∧ (∀ v ∈ vs, fits ty v = true) ∧ ∀ K, ty = .object K → Ovr Z c.cls K
def Hp (Z : State) (n0 : Nat) (h : Heap) (L : List (Addr × Desc)) : Prop := Old Z n0 h ∧ (L.map Prod.fst).Nodup ∧ ∀ x ∈ L, n0 ≤ x.1 ∧ Is Z h x.1 x.2
def LaysD (Z : State) (a0 : Array Value) (K : String) : List FD → Prop
  | [] => True
  | f :: r => (Laid Z a0 K f.1.1 f.1.2.1 f.1.2.2 ∧ ∃ t, parseFieldDescriptor f.1.2.2 = some t ∧ defaultValue t = f.2) ∧ LaysD Z a0 K r
def front {α : Type} (L : List α) (i : Nat) : List α := match L[i]? with | some x => x :: L.eraseIdx i | none => L
section Hp
variable {Z : State} {n0 : Nat} {h h' : Heap} {L : List (Addr × Desc)} {a b : Addr} {K ad O nm d : String} {fs : List FD} {vs : List Value} {ty : FieldType} {v old : Value} {i j sl : Nat} {a0 : Array Value}
theorem Is.ext {D : Desc} (E : Ext h h') (F : Is Z h a D) : Is Z h' a D := by
  rcases D with ⟨K, fs⟩ | ⟨ty, ad, vs⟩
  · obtain ⟨h1, h2, h3⟩ := F; exact ⟨h1.ext E, h2, fun f hf => (h3 f hf).ext E⟩
  · obtain ⟨h1, c, h2, r⟩ := F; exact ⟨h1.ext E, c, h2.ext E, r⟩
theorem Is.other {D : Desc} (W : Wr h h' b sl v) (ne : a ≠ b) (F : Is Z h a D) : Is Z h' a D := by
  rcases D with ⟨K, fs⟩ | ⟨ty, ad, vs⟩
  · obtain ⟨h1, h2, h3⟩ := F; exact ⟨h1.wr W, h2, fun f hf => (h3 f hf).other W (Or.inl ne)⟩
  · obtain ⟨h1, c, h2, r⟩ := F; exact ⟨h1.wr W, c, h2.other W ne, r⟩
theorem Is.exa {D : Desc} (F : Is Z h a D) : ∃ K, Exa Z h a K := by
  rcases D with ⟨K, fs⟩ | ⟨ty, ad, vs⟩
  · exact ⟨K, F.1⟩
  · exact ⟨ad, F.1⟩
theorem mem_upd {α : Type} {L : List α} {i : Nat} {x y : α} (hx : x ∈ lupd L i y) : x = y ∨ ∃ q, q ≠ i ∧ L[q]? = some x := by
  rw [upd_set] at hx
  obtain ⟨q, hq⟩ := List.mem_iff_getElem?.mp hx
  rw [List.getElem?_set] at hq
  split at hq
  · rename_i e
    split at hq
    · left; exact (Option.some.inj hq).symm
    · cases hq
  · rename_i e
    exact Or.inr ⟨q, fun u => e u.symm, hq⟩
theorem Hp.mem (hi : L[i]? = some (a, D)) : (a, D) ∈ L := List.mem_of_getElem? hi
theorem Hp.is {D : Desc} (P : Hp Z n0 h L) (hi : L[i]? = some (a, D)) : Is Z h a D := (P.2.2 _ (List.mem_of_getElem? hi)).2
theorem Hp.ge {D : Desc} (P : Hp Z n0 h L) (hi : L[i]? = some (a, D)) : n0 ≤ a := (P.2.2 _ (List.mem_of_getElem? hi)).1
theorem Hp.exa (P : Hp Z n0 h L) (hi : L[i]? = some (a, .inl (K, fs))) : Exa Z h a K := (P.is hi).1
theorem Hp.exaA (P : Hp Z n0 h L) (hi : L[i]? = some (a, .inr (ty, ad, vs))) : Exa Z h a ad := (P.is hi).1
theorem Hp.fld (P : Hp Z n0 h L) (hi : L[i]? = some (a, .inl (K, fs))) (hj : fs[j]? = some ((O, nm, d), v)) : Fld Z h a O nm d v := (P.is hi).2.2 _ (List.mem_of_getElem? hj)
theorem Hp.lt {D : Desc} (P : Hp Z n0 h L) (hx : (a, D) ∈ L) : a < h.size := by
  obtain ⟨K, E⟩ := (P.2.2 _ hx).2.exa; exact E.lt
theorem Hp.ne {D D' : Desc} (P : Hp Z n0 h L) (hi : L[i]? = some (a, D)) (hj : L[j]? = some (b, D')) (q : i ≠ j) : a ≠ b := fun e => q (by
  have hl : i < (L.map Prod.fst).length := by rw [List.length_map]; exact (List.getElem?_eq_some_iff.mp hi).1
  refine (List.getElem?_inj hl P.2.1).mp ?_
  rw [List.getElem?_map, List.getElem?_map, hi, hj]; simp [e])
theorem map_upd {α β : Type} {f : α → β} {L : List α} {i : Nat} {x y : α} (hi : L[i]? = some x) (e : f y = f x) : (lupd L i y).map f = L.map f := by
  rw [upd_set]
  apply List.ext_getElem?
  intro q
  rw [List.getElem?_map, List.getElem?_map, List.getElem?_set]
  split
  · rename_i u
    subst u
    obtain ⟨hl, -⟩ := List.getElem?_eq_some_iff.mp hi
    rw [if_pos hl, hi]; simp [e]
  · rfl
theorem Hp.wr {D D' : Desc} (P : Hp Z n0 h L) (hi : L[i]? = some (a, D)) (W : Wr h h' a sl v) (I : Is Z h' a D') : Hp Z n0 h' (lupd L i (a, D')) := by
  have ha := P.ge hi
  refine ⟨P.1.wr W ha, by rw [map_upd (f := Prod.fst) (y := (a, D')) hi rfl]; exact P.2.1, fun x hx => ?_⟩
  rcases mem_upd hx with rfl | ⟨q, hq, hx'⟩
  · exact ⟨ha, I⟩
  · obtain ⟨b, D2⟩ := x
    exact ⟨P.ge hx', (P.is hx').other W (P.ne hx' hi hq)⟩
theorem Hp.put (P : Hp Z n0 h L) (hi : L[i]? = some (a, .inl (K, fs))) (hj : fs[j]? = some ((O, nm, d), old)) (W : Wr h h' a (Jvm.RoadKit.slotOf Z O nm d) v) : Hp Z n0 h' (lupd L i (a, .inl (K, lupd fs j ((O, nm, d), v)))) := by
  obtain ⟨h1, h2, h3⟩ := P.is hi
  refine P.wr hi W ⟨h1.wr W, by rw [map_upd (f := slotF Z) (y := ((O, nm, d), v)) hj rfl]; exact h2, fun f hf => ?_⟩
  rcases mem_upd hf with rfl | ⟨q, hq, hf'⟩
  · exact (h3 _ (List.mem_of_getElem? hj)).same W
  · refine (h3 _ (List.mem_of_getElem? hf')).other W (Or.inr fun e => hq ?_)
    have hl : q < (fs.map (slotF Z)).length := by rw [List.length_map]; exact (List.getElem?_eq_some_iff.mp hf').1
    refine (List.getElem?_inj hl h2).mp ?_
    rw [List.getElem?_map, List.getElem?_map, hf', hj]; simp [slotF, e]
theorem Hp.aput (P : Hp Z n0 h L) (hi : L[i]? = some (a, .inr (ty, ad, vs))) (hv : fits ty v = true) (W : Wr h h' a j v) : Hp Z n0 h' (lupd L i (a, .inr (ty, ad, lupd vs j v))) := by
  obtain ⟨h1, c, h2, h3, h4, h5, h6⟩ := P.is hi
  refine P.wr hi W ⟨h1.wr W, c.setSlot j v, h2.same W, ?_, ?_, fun w hw => ?_, h6⟩
  · rw [upd_set]; show c.slots.setIfInBounds j v = _; rw [h3]; simp
  · rw [upd_set]; simpa using h4
  · rcases mem_upd hw with rfl | ⟨q, -, hq⟩
    · exact hv
    · exact h5 _ (List.mem_of_getElem? hq)
theorem Hp.grow {D : Desc} (P : Hp Z n0 h L) (E : Ext h h') (I : Is Z h' h.size D) : Hp Z n0 h' ((h.size, D) :: L) := by
  have hs : n0 ≤ h.size := by have := P.1.1; have := P.1.2.1; omega
  refine ⟨P.1.ext E, ?_, fun x hx => ?_⟩
  · rw [List.map_cons, List.nodup_cons]
    refine ⟨fun hm => ?_, P.2.1⟩
    obtain ⟨⟨b, D2⟩, hb, e⟩ := List.mem_map.mp hm
    have q := P.lt hb
    have e' : b = h.size := e
    rw [e'] at q
    exact Nat.lt_irrefl _ q
  · rcases List.mem_cons.mp hx with rfl | hx'
    · exact ⟨hs, I⟩
    · exact ⟨(P.2.2 _ hx').1, (P.2.2 _ hx').2.ext E⟩
theorem lays_mem : ∀ {fs : List FD}, LaysD Z a0 K fs → ∀ f ∈ fs, Laid Z a0 K f.1.1 f.1.2.1 f.1.2.2 ∧ ∃ t, parseFieldDescriptor f.1.2.2 = some t ∧ defaultValue t = f.2
  | [], _, _, hf => nomatch hf
  | _ :: _, H, f, hf => (List.mem_cons.mp hf).elim (fun e => e ▸ H.1) (lays_mem H.2 f)
theorem lays_nodup : ∀ {fs : List FD}, LaysD Z a0 K fs → (fs.map fun f => f.1.2.1).Nodup → (fs.map (slotF Z)).Nodup
  | [], _, _ => List.nodup_nil
  | f :: r, H, N => by
    rw [List.map_cons, List.nodup_cons] at N ⊢
    refine ⟨fun hm => ?_, lays_nodup H.2 N.2⟩
    obtain ⟨g, hg, e⟩ := List.mem_map.mp hm
    obtain ⟨Lg, t', ht', -⟩ := lays_mem H.2 g hg
    obtain ⟨Lf, t, ht, -⟩ := H.1
    exact slot_ne Lf Lg (fun q => N.1 (List.mem_map.mpr ⟨g, hg, q.symm⟩)) ht ht' e.symm
theorem Hp.new (P : Hp Z n0 h L) (E : Ext h h') (A : Exa Z h' h.size K) (F : ∀ {O nm d : String} {ty : FieldType}, Laid Z a0 K O nm d → parseFieldDescriptor d = some ty → Fld Z h' h.size O nm d (defaultValue ty)) (Ld : LaysD Z a0 K fs) (nd : (fs.map fun f => f.1.2.1).Nodup) : Hp Z n0 h' ((h.size, .inl (K, fs)) :: L) :=
  P.grow E ⟨A, lays_nodup Ld nd, fun f hf => by
    obtain ⟨Lf, t, ht, e⟩ := lays_mem Ld f hf
    rw [← e]; exact F Lf ht⟩
theorem Hp.newA {cA : ClassId} {z : Int32} (P : Hp Z n0 h L) (E : Ext h h') (A : Arr Z h' h.size (newA cA ty z) ty) (X : Exa Z h' h.size ad) (O : ∀ K, ty = .object K → Ovr Z cA K) (hvs : List.replicate z.toNatClampNeg (defaultValue ty) = vs) (hz : ¬ z < 0) : Hp Z n0 h' ((h.size, .inr (ty, ad, vs)) :: L) :=
  P.grow E ⟨X, _, A, by rw [← hvs]; simp [Jvm.RoadKit.newA], by rw [← hvs, List.length_replicate]; exact (back32 hz).2, fun w hw => by
    rw [← hvs] at hw; rw [List.eq_of_mem_replicate hw]; cases ty <;> rfl, O⟩
theorem Hp.perm {L' : List (Addr × Desc)} (P : Hp Z n0 h L) (q : L'.Perm L) : Hp Z n0 h L' := ⟨P.1, ((q.map Prod.fst).nodup_iff).mpr P.2.1, fun x hx => P.2.2 x (q.mem_iff.mp hx)⟩
theorem erase_perm {α : Type} : ∀ (L : List α) (i : Nat) (h : i < L.length), (L[i] :: L.eraseIdx i).Perm L
  | [], _, h => absurd h (Nat.not_lt_zero _)
  | _ :: _, 0, _ => List.Perm.refl _
  | a :: l, i + 1, h => by
    have hl : i < l.length := Nat.lt_of_succ_lt_succ h
    show (l[i] :: a :: l.eraseIdx i).Perm (a :: l)
    exact (List.Perm.swap _ _ _).trans ((erase_perm l i hl).cons a)
theorem front_perm {α : Type} (L : List α) (i : Nat) : (front L i).Perm L := by
  unfold front
  cases hx : L[i]? with
  | none => exact List.Perm.refl _
  | some x =>
    obtain ⟨hl, rfl⟩ := List.getElem?_eq_some_iff.mp hx
    exact erase_perm L i hl
theorem Hp.front (P : Hp Z n0 h L) (i : Nat) : Hp Z n0 h (front L i) := P.perm (front_perm L i)
theorem Hp.tail {x : Addr × Desc} (P : Hp Z n0 h (x :: L)) : Hp Z n0 h L := ⟨P.1, (List.nodup_cons.mp P.2.1).2, fun z hz => P.2.2 z (List.mem_cons_of_mem _ hz)⟩
theorem Hp.ext (P : Hp Z n0 h L) (E : Ext h h') : Hp Z n0 h' L := ⟨P.1.ext E, P.2.1, fun x hx => ⟨(P.2.2 _ hx).1, (P.2.2 _ hx).2.ext E⟩⟩
theorem Hp.nil (P : Hp Z n0 h L) : Hp Z n0 h [] := ⟨P.1, List.nodup_nil, fun z hz => nomatch hz⟩
theorem Hp.start (s : State) : Hp s s.heap.size s.heap [] := ⟨Old.start s, List.nodup_nil, fun z hz => nomatch hz⟩
theorem Hp.sto {y : Addr} {fs : List FD} (P : Hp Z n0 h L) (hi : L[i]? = some (a, .inr (.object K, ad, vs))) (hj : L[j]? = some (y, .inl (K, fs))) : Sto Z h a (.ref y) := by
  obtain ⟨-, c, h2, -, -, -, h6⟩ := P.is hi
  exact Sto.of h2 (h6 K rfl) (Ins.self (P.exa hj))
theorem Hp.stoI {y : Addr} (P : Hp Z n0 h L) (hi : L[i]? = some (a, .inr (.object K, ad, vs))) (I : Ins Z h y K true) : Sto Z h a (.ref y) := by
  obtain ⟨-, c, h2, -, -, -, h6⟩ := P.is hi
  exact Sto.of h2 (h6 K rfl) I
theorem inb {c : Cell} {j : Int32} (hc : c.slots = vs.toArray) (hj : ¬ j < 0) (hv : vs[j.toNatClampNeg]? = some v) : ¬ (j < 0 ∨ c.slots.size ≤ j.toNatClampNeg) := by
  have := (List.getElem?_eq_some_iff.mp hv).1
  rw [hc]; simp; exact ⟨by simpa using Int32.not_lt.mp hj, this⟩
theorem inb' {c : Cell} {j : Int32} (hc : c.slots = vs.toArray) (hj : ¬ j < 0) (hv : j.toNatClampNeg < vs.length) : ¬ (j < 0 ∨ c.slots.size ≤ j.toNatClampNeg) := by
  rw [hc]; simp; exact ⟨by simpa using Int32.not_lt.mp hj, hv⟩
end Hp
section WalkHp
variable {wd : Bool} {K₀ : State → Prop} {l : Launch} {Z : State} {R : Room} {y : MethodName} {bytes : ByteArray} {ml : Nat} {ret : Option FieldType} {n0 kc ks : Nat} {Q : Option Value → Heap → Prop} {h : Heap} {k n pc pc' tg : Nat} {ls : List Slot} {st : List Value} {a0 : Array Value} {L : List (Addr × Desc)} {i j : Nat} {K ad O nm d R0 host : String} {fs : List FD} {vs : List Value} {a : Addr} {ty : FieldType} {v old : Value}
theorem go_get {idx : Nat} (P : Hp Z n0 h L) (i j : Nat) (D : Dc bytes pc (.getfield idx) 3 pc') (hi : L[i]? = some (a, .inl (K, fs))) (hj : fs[j]? = some ((O, nm, d), v)) (w : (Cond.fieldLink y.cls idx O nm d).before a0 Z = true) (G : Go wd K₀ l Z R y bytes ml ret n0 kc ks Q h k n pc' ls (v :: st)) : Go wd K₀ l Z R y bytes ml ret n0 kc ks Q h k n pc ls (.ref a :: st) :=
  go_getF (host := "") D (Or.inl w) Via.refl (P.fld hi hj) G
theorem go_getN {idx : Nat} (P : Hp Z n0 h L) (i j : Nat) (D : Dc bytes pc (.getfield idx) 3 pc') (hi : L[i]? = some (a, .inl (K, fs))) (hj : fs[j]? = some ((O, nm, d), v)) (w : (Cond.fieldLinkNest y.cls idx O nm d host).before a0 Z = true) (G : Go wd K₀ l Z R y bytes ml ret n0 kc ks Q h k n pc' ls (v :: st)) : Go wd K₀ l Z R y bytes ml ret n0 kc ks Q h k n pc ls (.ref a :: st) :=
  go_getF (host := host) D (Or.inr w) Via.refl (P.fld hi hj) G
theorem go_put {idx kk : Nat} (P : Hp Z n0 h L) (i j : Nat) (ty : FieldType) (D : Dc bytes pc (.putfield idx) 3 pc') (hi : L[i]? = some (a, .inl (K, fs))) (hj : fs[j]? = some ((O, nm, d), old)) (w : (Cond.fieldLink y.cls idx O nm d).before a0 Z = true)
    (Lw : (Cond.lays K O nm d).before a0 Z = true ∨ ((Cond.laysFinal K O nm d).before a0 Z = true ∧ y.cls = O ∧ y.name = "<init>")) (wi : (Cond.instantiable K kk).before a0 Z = true) (hty : parseFieldDescriptor d = some ty) (hnr : narrow ty v = v) (hfi : fits ty v = true)
    (G : ∀ h', Hp Z n0 h' (lupd L i (a, .inl (K, lupd fs j ((O, nm, d), v)))) → Go wd K₀ l Z R y bytes ml ret n0 kc ks Q h' k n pc' ls st) : Go wd K₀ l Z R y bytes ml ret n0 kc ks Q h k n pc ls (v :: .ref a :: st) :=
  go_putF (host := "") D (Or.inl w) Via.refl (P.fld hi hj) (P.exa hi) Lw wi hty hnr hfi (P.ge hi) fun h' W => G h' (P.put hi hj W)
theorem go_new {idx sl : Nat} (P : Hp Z n0 h L) (fs : List FD) (D : Dc bytes pc (.new idx) 3 pc') (w : (Cond.classLink y.cls idx K).before a0 Z = true) (wi : (Cond.instantiable K sl).before a0 Z = true) (wz : (Cond.initialized K).before a0 Z = true) (Ld : LaysD Z a0 K fs) (nd : (fs.map fun f => f.1.2.1).Nodup) (hk : k + 1 ≤ R.cells) (hn : n + sl ≤ R.slots)
    (G : ∀ h' a, Hp Z n0 h' ((a, .inl (K, fs)) :: L) → Go wd K₀ l Z R y bytes ml ret n0 kc ks Q h' (k + 1) (n + sl) pc' ls (.ref a :: st)) : Go wd K₀ l Z R y bytes ml ret n0 kc ks Q h k n pc ls st :=
  go_newO D w wi wz hk hn fun h' E A F => G h' h.size (P.new E A F Ld nd)
theorem go_newarr {aty : ArrayType} {z : Int32} (P : Hp Z n0 h L) (ad : String) (vs : List Value) (cap : Nat) (D : Dc bytes pc (.newarray aty) 2 pc') (w : (Cond.arrayClass (newarray.typeOf aty)).before a0 Z = true) (hz : ¬ z < 0) (hcap : z.toNatClampNeg ≤ cap) (hb8 : cap * 8 ≤ 536870912) (had : "[" ++ (newarray.typeOf aty).toString = ad) (hty : newarray.typeOf aty = ty) (hvs : List.replicate z.toNatClampNeg (defaultValue ty) = vs) (hk : k + 1 ≤ R.cells) (hn : n + cap ≤ R.slots)
    (G : ∀ h' a, Hp Z n0 h' ((a, .inr (ty, ad, vs)) :: L) → Go wd K₀ l Z R y bytes ml ret n0 kc ks Q h' (k + 1) (n + cap) pc' ls (.ref a :: st)) : Go wd K₀ l Z R y bytes ml ret n0 kc ks Q h k n pc ls (.int z :: st) :=
  go_newP D w hz cap hcap hb8 hk hn had fun h' cA E A X => G h' h.size (P.newA E (hty ▸ A) X (fun K q => by subst hty; cases aty <;> cases q) hvs hz)
theorem go_newobjarr {idx : Nat} {z : Int32} (P : Hp Z n0 h L) (ad : String) (vs : List Value) (cap : Nat) (D : Dc bytes pc (.anewarray idx) 3 pc') (w1 : (Cond.classLink y.cls idx K).before a0 Z = true) (w2 : (Cond.arrayOver (.object K)).before a0 Z = true) (hz : ¬ z < 0) (hcap : z.toNatClampNeg ≤ cap) (hb8 : cap * 8 ≤ 536870912) (had : "[" ++ (FieldType.object K).toString = ad) (hvs : List.replicate z.toNatClampNeg Value.null = vs) (hk : k + 1 ≤ R.cells) (hn : n + cap ≤ R.slots)
    (G : ∀ h' a, Hp Z n0 h' ((a, .inr (.object K, ad, vs)) :: L) → Go wd K₀ l Z R y bytes ml ret n0 kc ks Q h' (k + 1) (n + cap) pc' ls (.ref a :: st)) : Go wd K₀ l Z R y bytes ml ret n0 kc ks Q h k n pc ls (.int z :: st) :=
  go_newR D w1 w2 hz cap hcap hb8 hk hn had fun h' cA E A X O => G h' h.size (P.newA E A X (fun K' q => by cases q; exact O) hvs hz)
theorem go_alen {z : Int32} (P : Hp Z n0 h L) (i : Nat) (D : Dc bytes pc .arraylength 1 pc') (hi : L[i]? = some (a, .inr (ty, ad, vs))) (hz : vs.length.toInt32 = z) (G : Go wd K₀ l Z R y bytes ml ret n0 kc ks Q h k n pc' ls (.int z :: st)) : Go wd K₀ l Z R y bytes ml ret n0 kc ks Q h k n pc ls (.ref a :: st) := by
  obtain ⟨-, c, h2, h3, -⟩ := P.is hi
  exact go_len D h2 (by rw [h3]; simpa using hz) G
theorem go_ialoadH {q : Int32} (P : Hp Z n0 h L) (i : Nat) (D : Dc bytes pc .iaload 1 pc') (hi : L[i]? = some (a, .inr (.int, ad, vs))) (hq : ¬ q < 0) (hv : vs[q.toNatClampNeg]? = some v) (G : Go wd K₀ l Z R y bytes ml ret n0 kc ks Q h k n pc' ls (v :: st)) : Go wd K₀ l Z R y bytes ml ret n0 kc ks Q h k n pc ls (.int q :: .ref a :: st) := by
  obtain ⟨-, c, h2, h3, -⟩ := P.is hi
  exact go_iaload D h2 (inb h3 hq hv) (by rw [h3]; simpa using hv) G
theorem go_caloadH {q : Int32} (P : Hp Z n0 h L) (i : Nat) (D : Dc bytes pc .caload 1 pc') (hi : L[i]? = some (a, .inr (.char, ad, vs))) (hq : ¬ q < 0) (hv : vs[q.toNatClampNeg]? = some v) (G : Go wd K₀ l Z R y bytes ml ret n0 kc ks Q h k n pc' ls (v :: st)) : Go wd K₀ l Z R y bytes ml ret n0 kc ks Q h k n pc ls (.int q :: .ref a :: st) := by
  obtain ⟨-, c, h2, h3, -⟩ := P.is hi
  exact go_caload D h2 (inb h3 hq hv) (by rw [h3]; simpa using hv) G
theorem go_baloadH {q : Int32} (P : Hp Z n0 h L) (i : Nat) (D : Dc bytes pc .baload 1 pc') (hi : L[i]? = some (a, .inr (.byte, ad, vs))) (hq : ¬ q < 0) (hv : vs[q.toNatClampNeg]? = some v) (G : Go wd K₀ l Z R y bytes ml ret n0 kc ks Q h k n pc' ls (v :: st)) : Go wd K₀ l Z R y bytes ml ret n0 kc ks Q h k n pc ls (.int q :: .ref a :: st) := by
  obtain ⟨-, c, h2, h3, -⟩ := P.is hi
  exact go_baload D h2 (inb h3 hq hv) (by rw [h3]; simpa using hv) G
theorem go_laloadH {q : Int32} (P : Hp Z n0 h L) (i : Nat) (D : Dc bytes pc .laload 1 pc') (hi : L[i]? = some (a, .inr (.long, ad, vs))) (hq : ¬ q < 0) (hv : vs[q.toNatClampNeg]? = some v) (G : Go wd K₀ l Z R y bytes ml ret n0 kc ks Q h k n pc' ls (v :: st)) : Go wd K₀ l Z R y bytes ml ret n0 kc ks Q h k n pc ls (.int q :: .ref a :: st) := by
  obtain ⟨-, c, h2, h3, -⟩ := P.is hi
  exact go_laload D h2 (inb h3 hq hv) (by rw [h3]; simpa using hv) G
theorem go_aaloadH {q : Int32} (P : Hp Z n0 h L) (i : Nat) (D : Dc bytes pc .aaload 1 pc') (hi : L[i]? = some (a, .inr (ty, ad, vs))) (hty : ty.isReference = true) (hq : ¬ q < 0) (hv : vs[q.toNatClampNeg]? = some v) (G : Go wd K₀ l Z R y bytes ml ret n0 kc ks Q h k n pc' ls (v :: st)) : Go wd K₀ l Z R y bytes ml ret n0 kc ks Q h k n pc ls (.int q :: .ref a :: st) := by
  obtain ⟨-, c, h2, h3, -⟩ := P.is hi
  exact go_aaload D h2 hty (inb h3 hq hv) (by rw [h3]; simpa using hv) G
theorem go_iastoreH {q : Int32} {x : Int32} (P : Hp Z n0 h L) (i : Nat) (D : Dc bytes pc .iastore 1 pc') (hi : L[i]? = some (a, .inr (.int, ad, vs))) (hq : ¬ q < 0) (hv : q.toNatClampNeg < vs.length) (G : ∀ h', Hp Z n0 h' (lupd L i (a, .inr (.int, ad, lupd vs q.toNatClampNeg (.int x)))) → Go wd K₀ l Z R y bytes ml ret n0 kc ks Q h' k n pc' ls st) : Go wd K₀ l Z R y bytes ml ret n0 kc ks Q h k n pc ls (.int x :: .int q :: .ref a :: st) := by
  obtain ⟨-, c, h2, h3, -⟩ := P.is hi
  exact go_iastore D h2 (inb' h3 hq hv) (P.ge hi) fun h' W => G h' (P.aput hi rfl W)
theorem go_lastoreH {q : Int32} {x : Int64} (P : Hp Z n0 h L) (i : Nat) (D : Dc bytes pc .lastore 1 pc') (hi : L[i]? = some (a, .inr (.long, ad, vs))) (hq : ¬ q < 0) (hv : q.toNatClampNeg < vs.length) (G : ∀ h', Hp Z n0 h' (lupd L i (a, .inr (.long, ad, lupd vs q.toNatClampNeg (.long x)))) → Go wd K₀ l Z R y bytes ml ret n0 kc ks Q h' k n pc' ls st) : Go wd K₀ l Z R y bytes ml ret n0 kc ks Q h k n pc ls (.long x :: .int q :: .ref a :: st) := by
  obtain ⟨-, c, h2, h3, -⟩ := P.is hi
  exact go_lastore D h2 (inb' h3 hq hv) (P.ge hi) fun h' W => G h' (P.aput hi rfl W)
theorem go_castoreH {q : Int32} {x : Int32} (P : Hp Z n0 h L) (i : Nat) (D : Dc bytes pc .castore 1 pc') (hi : L[i]? = some (a, .inr (.char, ad, vs))) (hq : ¬ q < 0) (hv : q.toNatClampNeg < vs.length) (G : ∀ h', Hp Z n0 h' (lupd L i (a, .inr (.char, ad, lupd vs q.toNatClampNeg (.int (nar .char x))))) → Go wd K₀ l Z R y bytes ml ret n0 kc ks Q h' k n pc' ls st) : Go wd K₀ l Z R y bytes ml ret n0 kc ks Q h k n pc ls (.int x :: .int q :: .ref a :: st) := by
  obtain ⟨-, c, h2, h3, -⟩ := P.is hi
  exact go_castore D h2 (inb' h3 hq hv) (P.ge hi) fun h' W => G h' (P.aput hi (fits_nar_char x) W)
theorem go_bastoreH {q : Int32} {x : Int32} (P : Hp Z n0 h L) (i : Nat) (D : Dc bytes pc .bastore 1 pc') (hi : L[i]? = some (a, .inr (.byte, ad, vs))) (hq : ¬ q < 0) (hv : q.toNatClampNeg < vs.length) (G : ∀ h', Hp Z n0 h' (lupd L i (a, .inr (.byte, ad, lupd vs q.toNatClampNeg (.int (nar .byte x))))) → Go wd K₀ l Z R y bytes ml ret n0 kc ks Q h' k n pc' ls st) : Go wd K₀ l Z R y bytes ml ret n0 kc ks Q h k n pc ls (.int x :: .int q :: .ref a :: st) := by
  obtain ⟨-, c, h2, h3, -⟩ := P.is hi
  exact go_bastore D h2 (inb' h3 hq hv) (P.ge hi) fun h' W => G h' (P.aput hi (fits_nar_byte x) W)
theorem go_zastoreH {q : Int32} {x : Int32} (P : Hp Z n0 h L) (i : Nat) (D : Dc bytes pc .bastore 1 pc') (hi : L[i]? = some (a, .inr (.boolean, ad, vs))) (hq : ¬ q < 0) (hv : q.toNatClampNeg < vs.length) (G : ∀ h', Hp Z n0 h' (lupd L i (a, .inr (.boolean, ad, lupd vs q.toNatClampNeg (.int (nar .boolean x))))) → Go wd K₀ l Z R y bytes ml ret n0 kc ks Q h' k n pc' ls st) : Go wd K₀ l Z R y bytes ml ret n0 kc ks Q h k n pc ls (.int x :: .int q :: .ref a :: st) := by
  obtain ⟨-, c, h2, h3, -⟩ := P.is hi
  exact go_zastore D h2 (inb' h3 hq hv) (P.ge hi) fun h' W => G h' (P.aput hi (fits_nar_bool x) W)
theorem go_clone {idx W : Nat} (P : Hp Z n0 h L) (i : Nat) (cap : Nat) (D : Dc bytes pc (.invokevirtual idx) 3 pc') (hi : L[i]? = some (a, .inr (ty, ad, vs)))
    (w1 : (Cond.methodLink y.cls idx ⟨ad, "clone", "()Ljava/lang/Object;"⟩).before a0 Z = true) (w2 : (Cond.sameMethod ad "java/lang/Object" "clone" "()Ljava/lang/Object;").before a0 Z = true) (w3 : (Cond.native ⟨"java/lang/Object", "clone", "()Ljava/lang/Object;"⟩).before a0 Z = true)
    (w4 : (Cond.instanceMethod ⟨"java/lang/Object", "clone", "()Ljava/lang/Object;"⟩).before a0 Z = true) (w5 : (Cond.selects ad ⟨ad, "clone", "()Ljava/lang/Object;"⟩ ⟨"java/lang/Object", "clone", "()Ljava/lang/Object;"⟩).before a0 Z = true) (w6 : (Cond.castable ad "java/lang/Cloneable").before a0 Z = true)
    (hlen : vs.length ≤ cap) (hls : ls.length = ml) (hf : 1 ≤ R.frames) (hW : (st.map fun v => v.category).sum = W) (hlo : W + 14 ≤ R.locals) (hk : k + 1 ≤ R.cells) (hn : n + cap ≤ R.slots)
    (G : ∀ h' b, Hp Z n0 h' ((b, .inr (ty, ad, vs)) :: L) → Go wd K₀ l Z R y bytes ml ret n0 kc ks Q h' (k + 1) (n + cap) pc' ls (.ref b :: st)) : Go wd K₀ l Z R y bytes ml ret n0 kc ks Q h k n pc ls (.ref a :: st) := by
  obtain ⟨E, cl, A, hs, hl31, hfit, hov⟩ := P.is hi
  intro p e s0 s m args below meth c T L' Bs C X hh N
  obtain ⟨hd, rfl⟩ := D
  have FC : FitC Z cl := fitC_of A fun q hq v hv => hfit v (by rw [hs] at hv; exact List.mem_of_getElem? (by simpa using hv))
  obtain ⟨T', h', X', e', ex, A', E', st'⟩ := cloneA X C.1 C.2.2.2.2.1 C.2.2.2.1 w1 w2 w3 w4 w5 w6 hh A E FC (g := mkF m pc ls.toArray (.ref a :: st)) rfl (by rw [C.2.2.1]; simpa using hls) rfl (hb C.2.1 hd) hf (W := W) (cap := cap) (by show 2 * 0 + _ ≤ W; rw [← hW]; omega) hlo (by rw [hs]; simpa using hlen) hk hn
  exact (G h' h.size (P.grow ex ⟨E', cloneOf cl, A', hs, hl31, hfit, hov⟩) p e s0 s m args below meth c T' L' (Bs.mono ex.1) C X' e' N).pre st'
def Dts (bytes : ByteArray) (pc : Nat) (x : Int32) (tg : Nat) : Prop := ∃ (d lo hi : Int) (offs : Array Int) (len : Nat) (o : Int), decode bytes pc = .ok (.tableswitch d lo hi offs, len) ∧ ¬ (x.toInt < lo ∨ x.toInt > hi) ∧ offs[(x.toInt - lo).toNat]? = some o ∧ 0 ≤ (pc : Int) + o ∧ ((pc : Int) + o).toNat = tg
def Dlk (bytes : ByteArray) (pc : Nat) (x : Int32) (tg : Nat) : Prop := ∃ (d : Int) (prs : Array (Int × Int)) (len : Nat), decode bytes pc = .ok (.lookupswitch d prs, len) ∧ (prs.toList.zip (prs.toList.drop 1)).all (fun (a, next) => a.1 < next.1) = true ∧ 0 ≤ (pc : Int) + lookupswitch.offset prs.toList d x.toInt ∧ ((pc : Int) + lookupswitch.offset prs.toList d x.toInt).toNat = tg
theorem lswX {tb : Tables} [Ours tb] {e : Env} {below : List Frame} {T target : State} {m : MethodId} {c : Code} {g : JFrame} (h : At T m c below) (hx : tb.exec = Jvm.exec) (hg : g.method = m) {d : Int} {prs : Array (Int × Int)} {len : Nat} {pc0 pc' : Nat} (hpc : g.pc = pc0) (hd : decode c.code g.pc = .ok (.lookupswitch d prs, len)) {i : Int32} {rest : List Value} (hs : g.stack = .int i :: rest)
    (hor : (prs.toList.zip (prs.toList.drop 1)).all (fun (a, next) => a.1 < next.1) = true) (ho : 0 ≤ (pc0 : Int) + lookupswitch.offset prs.toList d i.toInt) (hp : ((pc0 : Int) + lookupswitch.offset prs.toList d i.toInt).toNat = pc')
    (hr : Steps tb e below (T.setTop { g with pc := pc', stack := rest }) target) : Steps tb e below (T.setTop g) target := by
  subst hg hpc hp
  jvm_step h [h.top, hx, hd, hs, hor, ho, lookupswitch.wp_chain]
  exact ⟨by simpa using hor, hr⟩
theorem go_tsw {x : Int32} (D : Dts bytes pc x tg) (G : Go wd K₀ l Z R y bytes ml ret n0 kc ks Q h k n tg ls st) : Go wd K₀ l Z R y bytes ml ret n0 kc ks Q h k n pc ls (.int x :: st) := by
  obtain ⟨d, lo, hi, offs, len, o, hd, h1, h2, h3, h4⟩ := D
  exact go_pure G (fun C X t => XS.tswIn X.here C.1 (g := mkF _ pc ls.toArray (.int x :: st)) rfl (pc0 := pc) rfl (hb C.2.1 hd) rfl h1 h2 h3 h4)
theorem go_lsw {x : Int32} (D : Dlk bytes pc x tg) (G : Go wd K₀ l Z R y bytes ml ret n0 kc ks Q h k n tg ls st) : Go wd K₀ l Z R y bytes ml ret n0 kc ks Q h k n pc ls (.int x :: st) := by
  obtain ⟨d, prs, len, hd, h1, h3, h4⟩ := D
  exact go_pure G (fun C X t => lswX X.here C.1 (g := mkF _ pc ls.toArray (.int x :: st)) rfl (pc0 := pc) rfl (hb C.2.1 hd) rfl h1 h3 h4)
theorem Hp.insA {i : Nat} (P : Hp Z n0 h L) (hi : L[i]? = some (a, .inr (ty, ad, vs))) : Ins Z h a ad true := Ins.self (P.exaA hi)
theorem go_aastoreH {q : Int32} (P : Hp Z n0 h L) (i : Nat) (D : Dc bytes pc .aastore 1 pc') (hi : L[i]? = some (a, .inr (ty, ad, vs))) (hty : ty.isReference = true) (hf : fits ty v = true) (hq : ¬ q < 0) (hv : q.toNatClampNeg < vs.length) (F : Sto Z h a v) (G : ∀ h', Hp Z n0 h' (lupd L i (a, .inr (ty, ad, lupd vs q.toNatClampNeg v))) → Go wd K₀ l Z R y bytes ml ret n0 kc ks Q h' k n pc' ls st) : Go wd K₀ l Z R y bytes ml ret n0 kc ks Q h k n pc ls (v :: .int q :: .ref a :: st) := by
  obtain ⟨-, c, h2, h3, -⟩ := P.is hi
  exact go_aastore D h2 (inb' h3 hq hv) hty F (P.ge hi) fun h' W => G h' (P.aput hi hf W)
end WalkHp
end Jvm.OwnGo
namespace Jvm.Pilot.@@N@@
open Jvm Jvm.ClassFile Sem Op Lib Jvm.Free Jvm.Stand Jvm.LawKit Jvm.RoadKit Bundle Jvm.OwnGo Jvm.Pilot.@@N@@.Jvm.D
theorem t0 {Z : State} {a0 : Array Value} (hw : ∀ d ∈ tables_1, d.before a0 Z = true) : (Jvm.Cond.arrayClass Jvm.ClassFile.FieldType.char).before a0 Z = true := hw _ (List.mem_of_getElem? (i := 0) rfl)
theorem t1 {Z : State} {a0 : Array Value} (hw : ∀ d ∈ tables_1, d.before a0 Z = true) : (Jvm.Cond.classLink "com/example/velvet_rope/velvetrope/lock/TableEntriesComePinLaw" (7 : Nat) "java/lang/String").before a0 Z = true := hw _ (List.mem_of_getElem? (i := 1) rfl)
theorem t2 {Z : State} {a0 : Array Value} (hw : ∀ d ∈ tables_1, d.before a0 Z = true) : (Jvm.Cond.instantiable "java/lang/String" (4 : Nat)).before a0 Z = true := hw _ (List.mem_of_getElem? (i := 2) rfl)
theorem t3 {Z : State} {a0 : Array Value} (hw : ∀ d ∈ tables_1, d.before a0 Z = true) : (Jvm.Cond.initialized "java/lang/String").before a0 Z = true := hw _ (List.mem_of_getElem? (i := 3) rfl)
theorem t4 {Z : State} {a0 : Array Value} (hw : ∀ d ∈ tables_1, d.before a0 Z = true) : (Jvm.Cond.methodLink "com/example/velvet_rope/velvetrope/lock/TableEntriesComePinLaw" (9 : Nat) ({ cls := "java/lang/String", name := "<init>", desc := "([C)V" } : Jvm.MethodName)).before a0 Z = true := hw _ (List.mem_of_getElem? (i := 4) rfl)
theorem t5 {Z : State} {a0 : Array Value} (hw : ∀ d ∈ tables_1, d.before a0 Z = true) : (Jvm.Cond.instanceMethod ({ cls := "java/lang/String", name := "<init>", desc := "([C)V" } : Jvm.MethodName)).before a0 Z = true := hw _ (List.mem_of_getElem? (i := 5) rfl)
theorem t6 {Z : State} {a0 : Array Value} (hw : ∀ d ∈ tables_1, d.before a0 Z = true) : (Jvm.Cond.code ({ cls := "java/lang/String", name := "<init>", desc := "([C)V" } : Jvm.MethodName) jdk_42_method_3_code (2 : Nat) (Option.none : Option Jvm.ClassFile.FieldType)).before a0 Z = true := hw _ (List.mem_of_getElem? (i := 6) rfl)
theorem t7 {Z : State} {a0 : Array Value} (hw : ∀ d ∈ tables_1, d.before a0 Z = true) : (Jvm.Cond.methodLink "java/lang/String" (27 : Nat) ({ cls := "java/lang/String", name := "<init>", desc := "([CIILjava/lang/Void;)V" } : Jvm.MethodName)).before a0 Z = true := hw _ (List.mem_of_getElem? (i := 7) rfl)
theorem t8 {Z : State} {a0 : Array Value} (hw : ∀ d ∈ tables_1, d.before a0 Z = true) : (Jvm.Cond.instanceMethod ({ cls := "java/lang/String", name := "<init>", desc := "([CIILjava/lang/Void;)V" } : Jvm.MethodName)).before a0 Z = true := hw _ (List.mem_of_getElem? (i := 8) rfl)
theorem t10 {Z : State} {a0 : Array Value} (hw : ∀ d ∈ tables_1, d.before a0 Z = true) : (Jvm.Cond.code ({ cls := "java/lang/String", name := "<init>", desc := "([CIILjava/lang/Void;)V" } : Jvm.MethodName) jdk_42_method_149_code (6 : Nat) (Option.none : Option Jvm.ClassFile.FieldType)).before a0 Z = true := hw _ (List.mem_of_getElem? (i := 10) rfl)
theorem t11 {Z : State} {a0 : Array Value} (hw : ∀ d ∈ tables_1, d.before a0 Z = true) : (Jvm.Cond.methodLink "java/lang/String" (1 : Nat) ({ cls := "java/lang/Object", name := "<init>", desc := "()V" } : Jvm.MethodName)).before a0 Z = true := hw _ (List.mem_of_getElem? (i := 11) rfl)
theorem t12 {Z : State} {a0 : Array Value} (hw : ∀ d ∈ tables_1, d.before a0 Z = true) : (Jvm.Cond.instanceMethod ({ cls := "java/lang/Object", name := "<init>", desc := "()V" } : Jvm.MethodName)).before a0 Z = true := hw _ (List.mem_of_getElem? (i := 12) rfl)
theorem t13 {Z : State} {a0 : Array Value} (hw : ∀ d ∈ tables_1, d.before a0 Z = true) : (Jvm.Cond.code ({ cls := "java/lang/Object", name := "<init>", desc := "()V" } : Jvm.MethodName) object_method_1_code (1 : Nat) (Option.none : Option Jvm.ClassFile.FieldType)).before a0 Z = true := hw _ (List.mem_of_getElem? (i := 13) rfl)
theorem t14 {Z : State} {a0 : Array Value} (hw : ∀ d ∈ tables_1, d.before a0 Z = true) : (Jvm.Cond.fieldLink "java/lang/String" (38 : Nat) "java/lang/String" "COMPACT_STRINGS" "Z").before a0 Z = true := hw _ (List.mem_of_getElem? (i := 14) rfl)
theorem t15 {Z : State} {a0 : Array Value} (hw : ∀ d ∈ tables_1, d.before a0 Z = true) : (Jvm.Cond.methodLink "java/lang/String" (177 : Nat) ({ cls := "java/lang/StringUTF16", name := "compress", desc := "([CII)[B" } : Jvm.MethodName)).before a0 Z = true := hw _ (List.mem_of_getElem? (i := 15) rfl)
theorem t16 {Z : State} {a0 : Array Value} (hw : ∀ d ∈ tables_1, d.before a0 Z = true) : (Jvm.Cond.static ({ cls := "java/lang/StringUTF16", name := "compress", desc := "([CII)[B" } : Jvm.MethodName)).before a0 Z = true := hw _ (List.mem_of_getElem? (i := 16) rfl)
theorem t17 {Z : State} {a0 : Array Value} (hw : ∀ d ∈ tables_1, d.before a0 Z = true) : (Jvm.Cond.initialized "java/lang/StringUTF16").before a0 Z = true := hw _ (List.mem_of_getElem? (i := 17) rfl)
theorem t18 {Z : State} {a0 : Array Value} (hw : ∀ d ∈ tables_1, d.before a0 Z = true) : (Jvm.Cond.code ({ cls := "java/lang/StringUTF16", name := "compress", desc := "([CII)[B" } : Jvm.MethodName) jdk_52_method_16_code (6 : Nat) (Option.some (Jvm.ClassFile.FieldType.array Jvm.ClassFile.FieldType.byte))).before a0 Z = true := hw _ (List.mem_of_getElem? (i := 18) rfl)
theorem t19 {Z : State} {a0 : Array Value} (hw : ∀ d ∈ tables_1, d.before a0 Z = true) : (Jvm.Cond.arrayClass Jvm.ClassFile.FieldType.byte).before a0 Z = true := hw _ (List.mem_of_getElem? (i := 19) rfl)
theorem t20 {Z : State} {a0 : Array Value} (hw : ∀ d ∈ tables_1, d.before a0 Z = true) : (Jvm.Cond.methodLink "java/lang/StringUTF16" (115 : Nat) ({ cls := "java/lang/StringUTF16", name := "compress", desc := "([CI[BII)I" } : Jvm.MethodName)).before a0 Z = true := hw _ (List.mem_of_getElem? (i := 20) rfl)
theorem t21 {Z : State} {a0 : Array Value} (hw : ∀ d ∈ tables_1, d.before a0 Z = true) : (Jvm.Cond.static ({ cls := "java/lang/StringUTF16", name := "compress", desc := "([CI[BII)I" } : Jvm.MethodName)).before a0 Z = true := hw _ (List.mem_of_getElem? (i := 21) rfl)
theorem t22 {Z : State} {a0 : Array Value} (hw : ∀ d ∈ tables_1, d.before a0 Z = true) : (Jvm.Cond.code ({ cls := "java/lang/StringUTF16", name := "compress", desc := "([CI[BII)I" } : Jvm.MethodName) jdk_52_method_21_code (7 : Nat) (Option.some Jvm.ClassFile.FieldType.int)).before a0 Z = true := hw _ (List.mem_of_getElem? (i := 22) rfl)
theorem t23 {Z : State} {a0 : Array Value} (hw : ∀ d ∈ tables_1, d.before a0 Z = true) : (Jvm.Cond.methodLink "java/lang/String" (47 : Nat) ({ cls := "java/lang/StringUTF16", name := "coderFromArrayLen", desc := "([BI)B" } : Jvm.MethodName)).before a0 Z = true := hw _ (List.mem_of_getElem? (i := 23) rfl)
theorem t24 {Z : State} {a0 : Array Value} (hw : ∀ d ∈ tables_1, d.before a0 Z = true) : (Jvm.Cond.static ({ cls := "java/lang/StringUTF16", name := "coderFromArrayLen", desc := "([BI)B" } : Jvm.MethodName)).before a0 Z = true := hw _ (List.mem_of_getElem? (i := 24) rfl)
theorem t25 {Z : State} {a0 : Array Value} (hw : ∀ d ∈ tables_1, d.before a0 Z = true) : (Jvm.Cond.code ({ cls := "java/lang/StringUTF16", name := "coderFromArrayLen", desc := "([BI)B" } : Jvm.MethodName) jdk_52_method_15_code (2 : Nat) (Option.some Jvm.ClassFile.FieldType.byte)).before a0 Z = true := hw _ (List.mem_of_getElem? (i := 25) rfl)
theorem t26 {Z : State} {a0 : Array Value} (hw : ∀ d ∈ tables_1, d.before a0 Z = true) : (Jvm.Cond.fieldLink "java/lang/String" (15 : Nat) "java/lang/String" "coder" "B").before a0 Z = true := hw _ (List.mem_of_getElem? (i := 26) rfl)
theorem t27 {Z : State} {a0 : Array Value} (hw : ∀ d ∈ tables_1, d.before a0 Z = true) : (Jvm.Cond.laysFinal "java/lang/String" "java/lang/String" "coder" "B").before a0 Z = true := hw _ (List.mem_of_getElem? (i := 27) rfl)
theorem t28 {Z : State} {a0 : Array Value} (hw : ∀ d ∈ tables_1, d.before a0 Z = true) : (Jvm.Cond.fieldLink "java/lang/String" (9 : Nat) "java/lang/String" "value" "[B").before a0 Z = true := hw _ (List.mem_of_getElem? (i := 28) rfl)
theorem t29 {Z : State} {a0 : Array Value} (hw : ∀ d ∈ tables_1, d.before a0 Z = true) : (Jvm.Cond.laysFinal "java/lang/String" "java/lang/String" "value" "[B").before a0 Z = true := hw _ (List.mem_of_getElem? (i := 29) rfl)
theorem t30 {Z : State} {a0 : Array Value} (hw : ∀ d ∈ tables_1, d.before a0 Z = true) : (Jvm.Cond.classLink "com/example/velvet_rope/velvetrope/lock/TableEntriesComePinLaw" (12 : Nat) "com/example/velvet_rope/velvetrope/lock/TransactionLocks").before a0 Z = true := hw _ (List.mem_of_getElem? (i := 30) rfl)
theorem t31 {Z : State} {a0 : Array Value} (hw : ∀ d ∈ tables_1, d.before a0 Z = true) : (Jvm.Cond.instantiable "com/example/velvet_rope/velvetrope/lock/TransactionLocks" (4 : Nat)).before a0 Z = true := hw _ (List.mem_of_getElem? (i := 31) rfl)
theorem t32 {Z : State} {a0 : Array Value} (hw : ∀ d ∈ tables_1, d.before a0 Z = true) : (Jvm.Cond.initialized "com/example/velvet_rope/velvetrope/lock/TransactionLocks").before a0 Z = true := hw _ (List.mem_of_getElem? (i := 32) rfl)
theorem t33 {Z : State} {a0 : Array Value} (hw : ∀ d ∈ tables_1, d.before a0 Z = true) : (Jvm.Cond.methodLink "com/example/velvet_rope/velvetrope/lock/TableEntriesComePinLaw" (14 : Nat) ({ cls := "com/example/velvet_rope/velvetrope/lock/TransactionLocks", name := "<init>", desc := "(J)V" } : Jvm.MethodName)).before a0 Z = true := hw _ (List.mem_of_getElem? (i := 33) rfl)
theorem t34 {Z : State} {a0 : Array Value} (hw : ∀ d ∈ tables_1, d.before a0 Z = true) : (Jvm.Cond.instanceMethod ({ cls := "com/example/velvet_rope/velvetrope/lock/TransactionLocks", name := "<init>", desc := "(J)V" } : Jvm.MethodName)).before a0 Z = true := hw _ (List.mem_of_getElem? (i := 34) rfl)
theorem t35 {Z : State} {a0 : Array Value} (hw : ∀ d ∈ tables_1, d.before a0 Z = true) : (Jvm.Cond.code ({ cls := "com/example/velvet_rope/velvetrope/lock/TransactionLocks", name := "<init>", desc := "(J)V" } : Jvm.MethodName) prog_65_method_1_code (3 : Nat) (Option.none : Option Jvm.ClassFile.FieldType)).before a0 Z = true := hw _ (List.mem_of_getElem? (i := 35) rfl)
theorem t36 {Z : State} {a0 : Array Value} (hw : ∀ d ∈ tables_1, d.before a0 Z = true) : (Jvm.Cond.methodLink "com/example/velvet_rope/velvetrope/lock/TransactionLocks" (1 : Nat) ({ cls := "java/lang/Object", name := "<init>", desc := "()V" } : Jvm.MethodName)).before a0 Z = true := hw _ (List.mem_of_getElem? (i := 36) rfl)
theorem t37 {Z : State} {a0 : Array Value} (hw : ∀ d ∈ tables_1, d.before a0 Z = true) : (Jvm.Cond.classLink "com/example/velvet_rope/velvetrope/lock/TransactionLocks" (7 : Nat) "java/util/HashSet").before a0 Z = true := hw _ (List.mem_of_getElem? (i := 37) rfl)
theorem t38 {Z : State} {a0 : Array Value} (hw : ∀ d ∈ tables_1, d.before a0 Z = true) : (Jvm.Cond.instantiable "java/util/HashSet" (1 : Nat)).before a0 Z = true := hw _ (List.mem_of_getElem? (i := 38) rfl)
theorem t39 {Z : State} {a0 : Array Value} (hw : ∀ d ∈ tables_1, d.before a0 Z = true) : (Jvm.Cond.initialized "java/util/HashSet").before a0 Z = true := hw _ (List.mem_of_getElem? (i := 39) rfl)
theorem t40 {Z : State} {a0 : Array Value} (hw : ∀ d ∈ tables_1, d.before a0 Z = true) : (Jvm.Cond.methodLink "com/example/velvet_rope/velvetrope/lock/TransactionLocks" (9 : Nat) ({ cls := "java/util/HashSet", name := "<init>", desc := "()V" } : Jvm.MethodName)).before a0 Z = true := hw _ (List.mem_of_getElem? (i := 40) rfl)
theorem t41 {Z : State} {a0 : Array Value} (hw : ∀ d ∈ tables_1, d.before a0 Z = true) : (Jvm.Cond.instanceMethod ({ cls := "java/util/HashSet", name := "<init>", desc := "()V" } : Jvm.MethodName)).before a0 Z = true := hw _ (List.mem_of_getElem? (i := 41) rfl)
theorem t42 {Z : State} {a0 : Array Value} (hw : ∀ d ∈ tables_1, d.before a0 Z = true) : (Jvm.Cond.code ({ cls := "java/util/HashSet", name := "<init>", desc := "()V" } : Jvm.MethodName) jdk_93_method_1_code (1 : Nat) (Option.none : Option Jvm.ClassFile.FieldType)).before a0 Z = true := hw _ (List.mem_of_getElem? (i := 42) rfl)
theorem t43 {Z : State} {a0 : Array Value} (hw : ∀ d ∈ tables_1, d.before a0 Z = true) : (Jvm.Cond.methodLink "java/util/HashSet" (1 : Nat) ({ cls := "java/util/AbstractSet", name := "<init>", desc := "()V" } : Jvm.MethodName)).before a0 Z = true := hw _ (List.mem_of_getElem? (i := 43) rfl)
theorem t44 {Z : State} {a0 : Array Value} (hw : ∀ d ∈ tables_1, d.before a0 Z = true) : (Jvm.Cond.instanceMethod ({ cls := "java/util/AbstractSet", name := "<init>", desc := "()V" } : Jvm.MethodName)).before a0 Z = true := hw _ (List.mem_of_getElem? (i := 44) rfl)
theorem t47 {Z : State} {a0 : Array Value} (hw : ∀ d ∈ tables_1, d.before a0 Z = true) : (Jvm.Cond.initialized "java/util/AbstractSet").before a0 Z = true := hw _ (List.mem_of_getElem? (i := 47) rfl)
theorem t48 {Z : State} {a0 : Array Value} (hw : ∀ d ∈ tables_1, d.before a0 Z = true) : (Jvm.Cond.code ({ cls := "java/util/AbstractSet", name := "<init>", desc := "()V" } : Jvm.MethodName) jdk_91_method_1_code (1 : Nat) (Option.none : Option Jvm.ClassFile.FieldType)).before a0 Z = true := hw _ (List.mem_of_getElem? (i := 48) rfl)
theorem t49 {Z : State} {a0 : Array Value} (hw : ∀ d ∈ tables_1, d.before a0 Z = true) : (Jvm.Cond.methodLink "java/util/AbstractSet" (1 : Nat) ({ cls := "java/util/AbstractCollection", name := "<init>", desc := "()V" } : Jvm.MethodName)).before a0 Z = true := hw _ (List.mem_of_getElem? (i := 49) rfl)
theorem t50 {Z : State} {a0 : Array Value} (hw : ∀ d ∈ tables_1, d.before a0 Z = true) : (Jvm.Cond.instanceMethod ({ cls := "java/util/AbstractCollection", name := "<init>", desc := "()V" } : Jvm.MethodName)).before a0 Z = true := hw _ (List.mem_of_getElem? (i := 50) rfl)
theorem t53 {Z : State} {a0 : Array Value} (hw : ∀ d ∈ tables_1, d.before a0 Z = true) : (Jvm.Cond.initialized "java/util/AbstractCollection").before a0 Z = true := hw _ (List.mem_of_getElem? (i := 53) rfl)
theorem t54 {Z : State} {a0 : Array Value} (hw : ∀ d ∈ tables_1, d.before a0 Z = true) : (Jvm.Cond.code ({ cls := "java/util/AbstractCollection", name := "<init>", desc := "()V" } : Jvm.MethodName) jdk_22_method_1_code (1 : Nat) (Option.none : Option Jvm.ClassFile.FieldType)).before a0 Z = true := hw _ (List.mem_of_getElem? (i := 54) rfl)
theorem t55 {Z : State} {a0 : Array Value} (hw : ∀ d ∈ tables_1, d.before a0 Z = true) : (Jvm.Cond.methodLink "java/util/AbstractCollection" (1 : Nat) ({ cls := "java/lang/Object", name := "<init>", desc := "()V" } : Jvm.MethodName)).before a0 Z = true := hw _ (List.mem_of_getElem? (i := 55) rfl)
theorem t56 {Z : State} {a0 : Array Value} (hw : ∀ d ∈ tables_1, d.before a0 Z = true) : (Jvm.Cond.classLink "java/util/HashSet" (7 : Nat) "java/util/HashMap").before a0 Z = true := hw _ (List.mem_of_getElem? (i := 56) rfl)
theorem t57 {Z : State} {a0 : Array Value} (hw : ∀ d ∈ tables_1, d.before a0 Z = true) : (Jvm.Cond.instantiable "java/util/HashMap" (8 : Nat)).before a0 Z = true := hw _ (List.mem_of_getElem? (i := 57) rfl)
theorem t58 {Z : State} {a0 : Array Value} (hw : ∀ d ∈ tables_1, d.before a0 Z = true) : (Jvm.Cond.initialized "java/util/HashMap").before a0 Z = true := hw _ (List.mem_of_getElem? (i := 58) rfl)
theorem t59 {Z : State} {a0 : Array Value} (hw : ∀ d ∈ tables_1, d.before a0 Z = true) : (Jvm.Cond.methodLink "java/util/HashSet" (9 : Nat) ({ cls := "java/util/HashMap", name := "<init>", desc := "()V" } : Jvm.MethodName)).before a0 Z = true := hw _ (List.mem_of_getElem? (i := 59) rfl)
theorem t60 {Z : State} {a0 : Array Value} (hw : ∀ d ∈ tables_1, d.before a0 Z = true) : (Jvm.Cond.instanceMethod ({ cls := "java/util/HashMap", name := "<init>", desc := "()V" } : Jvm.MethodName)).before a0 Z = true := hw _ (List.mem_of_getElem? (i := 60) rfl)
theorem t62 {Z : State} {a0 : Array Value} (hw : ∀ d ∈ tables_1, d.before a0 Z = true) : (Jvm.Cond.code ({ cls := "java/util/HashMap", name := "<init>", desc := "()V" } : Jvm.MethodName) jdk_69_method_7_code (1 : Nat) (Option.none : Option Jvm.ClassFile.FieldType)).before a0 Z = true := hw _ (List.mem_of_getElem? (i := 62) rfl)
theorem t63 {Z : State} {a0 : Array Value} (hw : ∀ d ∈ tables_1, d.before a0 Z = true) : (Jvm.Cond.methodLink "java/util/HashMap" (43 : Nat) ({ cls := "java/util/AbstractMap", name := "<init>", desc := "()V" } : Jvm.MethodName)).before a0 Z = true := hw _ (List.mem_of_getElem? (i := 63) rfl)
theorem t64 {Z : State} {a0 : Array Value} (hw : ∀ d ∈ tables_1, d.before a0 Z = true) : (Jvm.Cond.instanceMethod ({ cls := "java/util/AbstractMap", name := "<init>", desc := "()V" } : Jvm.MethodName)).before a0 Z = true := hw _ (List.mem_of_getElem? (i := 64) rfl)
theorem t67 {Z : State} {a0 : Array Value} (hw : ∀ d ∈ tables_1, d.before a0 Z = true) : (Jvm.Cond.initialized "java/util/AbstractMap").before a0 Z = true := hw _ (List.mem_of_getElem? (i := 67) rfl)
theorem t68 {Z : State} {a0 : Array Value} (hw : ∀ d ∈ tables_1, d.before a0 Z = true) : (Jvm.Cond.code ({ cls := "java/util/AbstractMap", name := "<init>", desc := "()V" } : Jvm.MethodName) jdk_71_method_1_code (1 : Nat) (Option.none : Option Jvm.ClassFile.FieldType)).before a0 Z = true := hw _ (List.mem_of_getElem? (i := 68) rfl)
theorem t69 {Z : State} {a0 : Array Value} (hw : ∀ d ∈ tables_1, d.before a0 Z = true) : (Jvm.Cond.methodLink "java/util/AbstractMap" (1 : Nat) ({ cls := "java/lang/Object", name := "<init>", desc := "()V" } : Jvm.MethodName)).before a0 Z = true := hw _ (List.mem_of_getElem? (i := 69) rfl)
theorem t70 {Z : State} {a0 : Array Value} (hw : ∀ d ∈ tables_1, d.before a0 Z = true) : (Jvm.Cond.constantFloat "java/util/HashMap" (92 : Nat) (1061158912 : UInt32)).before a0 Z = true := hw _ (List.mem_of_getElem? (i := 70) rfl)
theorem t71 {Z : State} {a0 : Array Value} (hw : ∀ d ∈ tables_1, d.before a0 Z = true) : (Jvm.Cond.fieldLink "java/util/HashMap" (81 : Nat) "java/util/HashMap" "loadFactor" "F").before a0 Z = true := hw _ (List.mem_of_getElem? (i := 71) rfl)
theorem t72 {Z : State} {a0 : Array Value} (hw : ∀ d ∈ tables_1, d.before a0 Z = true) : (Jvm.Cond.laysFinal "java/util/HashMap" "java/util/HashMap" "loadFactor" "F").before a0 Z = true := hw _ (List.mem_of_getElem? (i := 72) rfl)
theorem t73 {Z : State} {a0 : Array Value} (hw : ∀ d ∈ tables_1, d.before a0 Z = true) : (Jvm.Cond.fieldLink "java/util/HashSet" (10 : Nat) "java/util/HashSet" "map" "Ljava/util/HashMap;").before a0 Z = true := hw _ (List.mem_of_getElem? (i := 73) rfl)
theorem t74 {Z : State} {a0 : Array Value} (hw : ∀ d ∈ tables_1, d.before a0 Z = true) : (Jvm.Cond.lays "java/util/HashSet" "java/util/HashSet" "map" "Ljava/util/HashMap;").before a0 Z = true := hw _ (List.mem_of_getElem? (i := 74) rfl)
theorem t75 {Z : State} {a0 : Array Value} (hw : ∀ d ∈ tables_1, d.before a0 Z = true) : (Jvm.Cond.fieldLink "com/example/velvet_rope/velvetrope/lock/TransactionLocks" (10 : Nat) "com/example/velvet_rope/velvetrope/lock/TransactionLocks" "held" "Ljava/util/Set;").before a0 Z = true := hw _ (List.mem_of_getElem? (i := 75) rfl)
theorem t76 {Z : State} {a0 : Array Value} (hw : ∀ d ∈ tables_1, d.before a0 Z = true) : (Jvm.Cond.laysFinal "com/example/velvet_rope/velvetrope/lock/TransactionLocks" "com/example/velvet_rope/velvetrope/lock/TransactionLocks" "held" "Ljava/util/Set;").before a0 Z = true := hw _ (List.mem_of_getElem? (i := 76) rfl)
theorem t77 {Z : State} {a0 : Array Value} (hw : ∀ d ∈ tables_1, d.before a0 Z = true) : (Jvm.Cond.fieldLink "com/example/velvet_rope/velvetrope/lock/TransactionLocks" (16 : Nat) "com/example/velvet_rope/velvetrope/lock/TransactionLocks" "began" "J").before a0 Z = true := hw _ (List.mem_of_getElem? (i := 77) rfl)
theorem t78 {Z : State} {a0 : Array Value} (hw : ∀ d ∈ tables_1, d.before a0 Z = true) : (Jvm.Cond.laysFinal "com/example/velvet_rope/velvetrope/lock/TransactionLocks" "com/example/velvet_rope/velvetrope/lock/TransactionLocks" "began" "J").before a0 Z = true := hw _ (List.mem_of_getElem? (i := 78) rfl)
theorem t79 {Z : State} {a0 : Array Value} (hw : ∀ d ∈ tables_1, d.before a0 Z = true) : (Jvm.Cond.constantLong "com/example/velvet_rope/velvetrope/lock/TableEntriesComePinLaw" (17 : Nat) (-1 : Int64)).before a0 Z = true := hw _ (List.mem_of_getElem? (i := 79) rfl)
theorem t80 {Z : State} {a0 : Array Value} (hw : ∀ d ∈ tables_1, d.before a0 Z = true) : (Jvm.Cond.fieldLink "com/example/velvet_rope/velvetrope/lock/TableEntriesComePinLaw" (19 : Nat) "com/example/velvet_rope/velvetrope/lock/TransactionLocks" "comingTo" "Ljava/lang/String;").before a0 Z = true := hw _ (List.mem_of_getElem? (i := 80) rfl)
theorem t81 {Z : State} {a0 : Array Value} (hw : ∀ d ∈ tables_1, d.before a0 Z = true) : (Jvm.Cond.lays "com/example/velvet_rope/velvetrope/lock/TransactionLocks" "com/example/velvet_rope/velvetrope/lock/TransactionLocks" "comingTo" "Ljava/lang/String;").before a0 Z = true := hw _ (List.mem_of_getElem? (i := 81) rfl)
theorem t82 {Z : State} {a0 : Array Value} (hw : ∀ d ∈ tables_1, d.before a0 Z = true) : (Jvm.Cond.classLink "com/example/velvet_rope/velvetrope/lock/TableEntriesComePinLaw" (23 : Nat) "com/example/velvet_rope/velvetrope/lock/ElementLocks").before a0 Z = true := hw _ (List.mem_of_getElem? (i := 82) rfl)
theorem t83 {Z : State} {a0 : Array Value} (hw : ∀ d ∈ tables_1, d.before a0 Z = true) : (Jvm.Cond.instantiable "com/example/velvet_rope/velvetrope/lock/ElementLocks" (4 : Nat)).before a0 Z = true := hw _ (List.mem_of_getElem? (i := 83) rfl)
theorem t84 {Z : State} {a0 : Array Value} (hw : ∀ d ∈ tables_1, d.before a0 Z = true) : (Jvm.Cond.initialized "com/example/velvet_rope/velvetrope/lock/ElementLocks").before a0 Z = true := hw _ (List.mem_of_getElem? (i := 84) rfl)
theorem t85 {Z : State} {a0 : Array Value} (hw : ∀ d ∈ tables_1, d.before a0 Z = true) : (Jvm.Cond.methodLink "com/example/velvet_rope/velvetrope/lock/TableEntriesComePinLaw" (25 : Nat) ({ cls := "com/example/velvet_rope/velvetrope/lock/ElementLocks", name := "<init>", desc := "()V" } : Jvm.MethodName)).before a0 Z = true := hw _ (List.mem_of_getElem? (i := 85) rfl)
theorem t86 {Z : State} {a0 : Array Value} (hw : ∀ d ∈ tables_1, d.before a0 Z = true) : (Jvm.Cond.instanceMethod ({ cls := "com/example/velvet_rope/velvetrope/lock/ElementLocks", name := "<init>", desc := "()V" } : Jvm.MethodName)).before a0 Z = true := hw _ (List.mem_of_getElem? (i := 86) rfl)
theorem t87 {Z : State} {a0 : Array Value} (hw : ∀ d ∈ tables_1, d.before a0 Z = true) : (Jvm.Cond.code ({ cls := "com/example/velvet_rope/velvetrope/lock/ElementLocks", name := "<init>", desc := "()V" } : Jvm.MethodName) prog_48_method_1_code (1 : Nat) (Option.none : Option Jvm.ClassFile.FieldType)).before a0 Z = true := hw _ (List.mem_of_getElem? (i := 87) rfl)
theorem t88 {Z : State} {a0 : Array Value} (hw : ∀ d ∈ tables_1, d.before a0 Z = true) : (Jvm.Cond.methodLink "com/example/velvet_rope/velvetrope/lock/ElementLocks" (1 : Nat) ({ cls := "java/lang/Object", name := "<init>", desc := "()V" } : Jvm.MethodName)).before a0 Z = true := hw _ (List.mem_of_getElem? (i := 88) rfl)
theorem t89 {Z : State} {a0 : Array Value} (hw : ∀ d ∈ tables_1, d.before a0 Z = true) : (Jvm.Cond.classLink "com/example/velvet_rope/velvetrope/lock/ElementLocks" (7 : Nat) "java/util/ArrayList").before a0 Z = true := hw _ (List.mem_of_getElem? (i := 89) rfl)
theorem t90 {Z : State} {a0 : Array Value} (hw : ∀ d ∈ tables_1, d.before a0 Z = true) : (Jvm.Cond.instantiable "java/util/ArrayList" (3 : Nat)).before a0 Z = true := hw _ (List.mem_of_getElem? (i := 90) rfl)
theorem t91 {Z : State} {a0 : Array Value} (hw : ∀ d ∈ tables_1, d.before a0 Z = true) : (Jvm.Cond.initialized "java/util/ArrayList").before a0 Z = true := hw _ (List.mem_of_getElem? (i := 91) rfl)
theorem t92 {Z : State} {a0 : Array Value} (hw : ∀ d ∈ tables_1, d.before a0 Z = true) : (Jvm.Cond.methodLink "com/example/velvet_rope/velvetrope/lock/ElementLocks" (9 : Nat) ({ cls := "java/util/ArrayList", name := "<init>", desc := "(I)V" } : Jvm.MethodName)).before a0 Z = true := hw _ (List.mem_of_getElem? (i := 92) rfl)
theorem t93 {Z : State} {a0 : Array Value} (hw : ∀ d ∈ tables_1, d.before a0 Z = true) : (Jvm.Cond.instanceMethod ({ cls := "java/util/ArrayList", name := "<init>", desc := "(I)V" } : Jvm.MethodName)).before a0 Z = true := hw _ (List.mem_of_getElem? (i := 93) rfl)
theorem t94 {Z : State} {a0 : Array Value} (hw : ∀ d ∈ tables_1, d.before a0 Z = true) : (Jvm.Cond.code ({ cls := "java/util/ArrayList", name := "<init>", desc := "(I)V" } : Jvm.MethodName) jdk_38_method_1_code (2 : Nat) (Option.none : Option Jvm.ClassFile.FieldType)).before a0 Z = true := hw _ (List.mem_of_getElem? (i := 94) rfl)
theorem t95 {Z : State} {a0 : Array Value} (hw : ∀ d ∈ tables_1, d.before a0 Z = true) : (Jvm.Cond.methodLink "java/util/ArrayList" (1 : Nat) ({ cls := "java/util/AbstractList", name := "<init>", desc := "()V" } : Jvm.MethodName)).before a0 Z = true := hw _ (List.mem_of_getElem? (i := 95) rfl)
theorem t96 {Z : State} {a0 : Array Value} (hw : ∀ d ∈ tables_1, d.before a0 Z = true) : (Jvm.Cond.instanceMethod ({ cls := "java/util/AbstractList", name := "<init>", desc := "()V" } : Jvm.MethodName)).before a0 Z = true := hw _ (List.mem_of_getElem? (i := 96) rfl)
theorem t99 {Z : State} {a0 : Array Value} (hw : ∀ d ∈ tables_1, d.before a0 Z = true) : (Jvm.Cond.initialized "java/util/AbstractList").before a0 Z = true := hw _ (List.mem_of_getElem? (i := 99) rfl)
theorem t100 {Z : State} {a0 : Array Value} (hw : ∀ d ∈ tables_1, d.before a0 Z = true) : (Jvm.Cond.code ({ cls := "java/util/AbstractList", name := "<init>", desc := "()V" } : Jvm.MethodName) jdk_39_method_1_code (1 : Nat) (Option.none : Option Jvm.ClassFile.FieldType)).before a0 Z = true := hw _ (List.mem_of_getElem? (i := 100) rfl)
theorem t101 {Z : State} {a0 : Array Value} (hw : ∀ d ∈ tables_1, d.before a0 Z = true) : (Jvm.Cond.methodLink "java/util/AbstractList" (1 : Nat) ({ cls := "java/util/AbstractCollection", name := "<init>", desc := "()V" } : Jvm.MethodName)).before a0 Z = true := hw _ (List.mem_of_getElem? (i := 101) rfl)
theorem t103 {Z : State} {a0 : Array Value} (hw : ∀ d ∈ tables_1, d.before a0 Z = true) : (Jvm.Cond.fieldLink "java/util/AbstractList" (7 : Nat) "java/util/AbstractList" "modCount" "I").before a0 Z = true := hw _ (List.mem_of_getElem? (i := 103) rfl)
theorem t104 {Z : State} {a0 : Array Value} (hw : ∀ d ∈ tables_1, d.before a0 Z = true) : (Jvm.Cond.lays "java/util/ArrayList" "java/util/AbstractList" "modCount" "I").before a0 Z = true := hw _ (List.mem_of_getElem? (i := 104) rfl)
theorem t105 {Z : State} {a0 : Array Value} (hw : ∀ d ∈ tables_1, d.before a0 Z = true) : (Jvm.Cond.classLink "java/util/ArrayList" (7 : Nat) "java/lang/Object").before a0 Z = true := hw _ (List.mem_of_getElem? (i := 105) rfl)
theorem t106 {Z : State} {a0 : Array Value} (hw : ∀ d ∈ tables_1, d.before a0 Z = true) : (Jvm.Cond.arrayOver (Jvm.ClassFile.FieldType.object "java/lang/Object")).before a0 Z = true := hw _ (List.mem_of_getElem? (i := 106) rfl)
theorem t107 {Z : State} {a0 : Array Value} (hw : ∀ d ∈ tables_1, d.before a0 Z = true) : (Jvm.Cond.fieldLink "java/util/ArrayList" (9 : Nat) "java/util/ArrayList" "elementData" "[Ljava/lang/Object;").before a0 Z = true := hw _ (List.mem_of_getElem? (i := 107) rfl)
theorem t108 {Z : State} {a0 : Array Value} (hw : ∀ d ∈ tables_1, d.before a0 Z = true) : (Jvm.Cond.lays "java/util/ArrayList" "java/util/ArrayList" "elementData" "[Ljava/lang/Object;").before a0 Z = true := hw _ (List.mem_of_getElem? (i := 108) rfl)
theorem t109 {Z : State} {a0 : Array Value} (hw : ∀ d ∈ tables_1, d.before a0 Z = true) : (Jvm.Cond.fieldLink "com/example/velvet_rope/velvetrope/lock/ElementLocks" (12 : Nat) "com/example/velvet_rope/velvetrope/lock/ElementLocks" "holders" "Ljava/util/List;").before a0 Z = true := hw _ (List.mem_of_getElem? (i := 109) rfl)
theorem t110 {Z : State} {a0 : Array Value} (hw : ∀ d ∈ tables_1, d.before a0 Z = true) : (Jvm.Cond.laysFinal "com/example/velvet_rope/velvetrope/lock/ElementLocks" "com/example/velvet_rope/velvetrope/lock/ElementLocks" "holders" "Ljava/util/List;").before a0 Z = true := hw _ (List.mem_of_getElem? (i := 110) rfl)
theorem t111 {Z : State} {a0 : Array Value} (hw : ∀ d ∈ tables_1, d.before a0 Z = true) : (Jvm.Cond.classLink "com/example/velvet_rope/velvetrope/lock/ElementLocks" (18 : Nat) "com/example/velvet_rope/velvetrope/lock/WaitingQueue").before a0 Z = true := hw _ (List.mem_of_getElem? (i := 111) rfl)
theorem t112 {Z : State} {a0 : Array Value} (hw : ∀ d ∈ tables_1, d.before a0 Z = true) : (Jvm.Cond.instantiable "com/example/velvet_rope/velvetrope/lock/WaitingQueue" (8 : Nat)).before a0 Z = true := hw _ (List.mem_of_getElem? (i := 112) rfl)
theorem t113 {Z : State} {a0 : Array Value} (hw : ∀ d ∈ tables_1, d.before a0 Z = true) : (Jvm.Cond.initialized "com/example/velvet_rope/velvetrope/lock/WaitingQueue").before a0 Z = true := hw _ (List.mem_of_getElem? (i := 113) rfl)
theorem t114 {Z : State} {a0 : Array Value} (hw : ∀ d ∈ tables_1, d.before a0 Z = true) : (Jvm.Cond.methodLink "com/example/velvet_rope/velvetrope/lock/ElementLocks" (20 : Nat) ({ cls := "com/example/velvet_rope/velvetrope/lock/WaitingQueue", name := "<init>", desc := "()V" } : Jvm.MethodName)).before a0 Z = true := hw _ (List.mem_of_getElem? (i := 114) rfl)
theorem t115 {Z : State} {a0 : Array Value} (hw : ∀ d ∈ tables_1, d.before a0 Z = true) : (Jvm.Cond.instanceMethod ({ cls := "com/example/velvet_rope/velvetrope/lock/WaitingQueue", name := "<init>", desc := "()V" } : Jvm.MethodName)).before a0 Z = true := hw _ (List.mem_of_getElem? (i := 115) rfl)
theorem t116 {Z : State} {a0 : Array Value} (hw : ∀ d ∈ tables_1, d.before a0 Z = true) : (Jvm.Cond.code ({ cls := "com/example/velvet_rope/velvetrope/lock/WaitingQueue", name := "<init>", desc := "()V" } : Jvm.MethodName) prog_66_method_1_code (1 : Nat) (Option.none : Option Jvm.ClassFile.FieldType)).before a0 Z = true := hw _ (List.mem_of_getElem? (i := 116) rfl)
theorem t117 {Z : State} {a0 : Array Value} (hw : ∀ d ∈ tables_1, d.before a0 Z = true) : (Jvm.Cond.methodLink "com/example/velvet_rope/velvetrope/lock/WaitingQueue" (1 : Nat) ({ cls := "com/example/velvet_rope/velvetrope/lock/QueueList", name := "<init>", desc := "()V" } : Jvm.MethodName)).before a0 Z = true := hw _ (List.mem_of_getElem? (i := 117) rfl)
theorem t118 {Z : State} {a0 : Array Value} (hw : ∀ d ∈ tables_1, d.before a0 Z = true) : (Jvm.Cond.instanceMethod ({ cls := "com/example/velvet_rope/velvetrope/lock/QueueList", name := "<init>", desc := "()V" } : Jvm.MethodName)).before a0 Z = true := hw _ (List.mem_of_getElem? (i := 118) rfl)
theorem t120 {Z : State} {a0 : Array Value} (hw : ∀ d ∈ tables_1, d.before a0 Z = true) : (Jvm.Cond.initialized "com/example/velvet_rope/velvetrope/lock/QueueList").before a0 Z = true := hw _ (List.mem_of_getElem? (i := 120) rfl)
theorem t121 {Z : State} {a0 : Array Value} (hw : ∀ d ∈ tables_1, d.before a0 Z = true) : (Jvm.Cond.code ({ cls := "com/example/velvet_rope/velvetrope/lock/QueueList", name := "<init>", desc := "()V" } : Jvm.MethodName) prog_59_method_1_code (1 : Nat) (Option.none : Option Jvm.ClassFile.FieldType)).before a0 Z = true := hw _ (List.mem_of_getElem? (i := 121) rfl)
theorem t122 {Z : State} {a0 : Array Value} (hw : ∀ d ∈ tables_1, d.before a0 Z = true) : (Jvm.Cond.methodLink "com/example/velvet_rope/velvetrope/lock/QueueList" (1 : Nat) ({ cls := "java/util/AbstractList", name := "<init>", desc := "()V" } : Jvm.MethodName)).before a0 Z = true := hw _ (List.mem_of_getElem? (i := 122) rfl)
theorem t124 {Z : State} {a0 : Array Value} (hw : ∀ d ∈ tables_1, d.before a0 Z = true) : (Jvm.Cond.lays "com/example/velvet_rope/velvetrope/lock/WaitingQueue" "java/util/AbstractList" "modCount" "I").before a0 Z = true := hw _ (List.mem_of_getElem? (i := 124) rfl)
theorem t125 {Z : State} {a0 : Array Value} (hw : ∀ d ∈ tables_1, d.before a0 Z = true) : (Jvm.Cond.fieldLink "com/example/velvet_rope/velvetrope/lock/QueueList" (7 : Nat) "com/example/velvet_rope/velvetrope/lock/QueueList" "NONE_YET" "[Ljava/lang/Object;").before a0 Z = true := hw _ (List.mem_of_getElem? (i := 125) rfl)
theorem t126 {Z : State} {a0 : Array Value} (hw : ∀ d ∈ tables_1, d.before a0 Z = true) : (Jvm.Cond.laysStatic "com/example/velvet_rope/velvetrope/lock/QueueList" "NONE_YET" "[Ljava/lang/Object;").before a0 Z = true := hw _ (List.mem_of_getElem? (i := 126) rfl)
theorem t127 {Z : State} {a0 : Array Value} (hw : ∀ d ∈ tables_1, d.before a0 Z = true) : (Jvm.Cond.fieldLink "com/example/velvet_rope/velvetrope/lock/QueueList" (13 : Nat) "com/example/velvet_rope/velvetrope/lock/QueueList" "elements" "[Ljava/lang/Object;").before a0 Z = true := hw _ (List.mem_of_getElem? (i := 127) rfl)
theorem t128 {Z : State} {a0 : Array Value} (hw : ∀ d ∈ tables_1, d.before a0 Z = true) : (Jvm.Cond.lays "com/example/velvet_rope/velvetrope/lock/WaitingQueue" "com/example/velvet_rope/velvetrope/lock/QueueList" "elements" "[Ljava/lang/Object;").before a0 Z = true := hw _ (List.mem_of_getElem? (i := 128) rfl)
theorem t129 {Z : State} {a0 : Array Value} (hw : ∀ d ∈ tables_1, d.before a0 Z = true) : (Jvm.Cond.fieldLink "com/example/velvet_rope/velvetrope/lock/ElementLocks" (21 : Nat) "com/example/velvet_rope/velvetrope/lock/ElementLocks" "queue" "Lcom/example/velvet_rope/velvetrope/lock/WaitingQueue;").before a0 Z = true := hw _ (List.mem_of_getElem? (i := 129) rfl)
theorem t130 {Z : State} {a0 : Array Value} (hw : ∀ d ∈ tables_1, d.before a0 Z = true) : (Jvm.Cond.laysFinal "com/example/velvet_rope/velvetrope/lock/ElementLocks" "com/example/velvet_rope/velvetrope/lock/ElementLocks" "queue" "Lcom/example/velvet_rope/velvetrope/lock/WaitingQueue;").before a0 Z = true := hw _ (List.mem_of_getElem? (i := 130) rfl)
theorem t131 {Z : State} {a0 : Array Value} (hw : ∀ d ∈ tables_1, d.before a0 Z = true) : (Jvm.Cond.fieldLink "com/example/velvet_rope/velvetrope/lock/TableEntriesComePinLaw" (26 : Nat) "com/example/velvet_rope/velvetrope/lock/ElementLocks" "coming" "I").before a0 Z = true := hw _ (List.mem_of_getElem? (i := 131) rfl)
theorem t132 {Z : State} {a0 : Array Value} (hw : ∀ d ∈ tables_1, d.before a0 Z = true) : (Jvm.Cond.lays "com/example/velvet_rope/velvetrope/lock/ElementLocks" "com/example/velvet_rope/velvetrope/lock/ElementLocks" "coming" "I").before a0 Z = true := hw _ (List.mem_of_getElem? (i := 132) rfl)
theorem t133 {Z : State} {a0 : Array Value} (hw : ∀ d ∈ tables_1, d.before a0 Z = true) : (Jvm.Cond.methodLink "com/example/velvet_rope/velvetrope/lock/TableEntriesComePinLaw" (30 : Nat) ({ cls := "com/example/velvet_rope/velvetrope/lock/TableEntries", name := "come", desc := "(Lcom/example/velvet_rope/velvetrope/lock/TransactionLocks;Ljava/lang/String;Lcom/example/velvet_rope/velvetrope/lock/ElementLocks;)V" } : Jvm.MethodName)).before a0 Z = true := hw _ (List.mem_of_getElem? (i := 133) rfl)
theorem t134 {Z : State} {a0 : Array Value} (hw : ∀ d ∈ tables_1, d.before a0 Z = true) : (Jvm.Cond.static ({ cls := "com/example/velvet_rope/velvetrope/lock/TableEntries", name := "come", desc := "(Lcom/example/velvet_rope/velvetrope/lock/TransactionLocks;Ljava/lang/String;Lcom/example/velvet_rope/velvetrope/lock/ElementLocks;)V" } : Jvm.MethodName)).before a0 Z = true := hw _ (List.mem_of_getElem? (i := 134) rfl)
theorem t135 {Z : State} {a0 : Array Value} (hw : ∀ d ∈ tables_1, d.before a0 Z = true) : (Jvm.Cond.initialized "com/example/velvet_rope/velvetrope/lock/TableEntries").before a0 Z = true := hw _ (List.mem_of_getElem? (i := 135) rfl)
theorem t136 {Z : State} {a0 : Array Value} (hw : ∀ d ∈ tables_1, d.before a0 Z = true) : (Jvm.Cond.code ({ cls := "com/example/velvet_rope/velvetrope/lock/TableEntries", name := "come", desc := "(Lcom/example/velvet_rope/velvetrope/lock/TransactionLocks;Ljava/lang/String;Lcom/example/velvet_rope/velvetrope/lock/ElementLocks;)V" } : Jvm.MethodName) prog_63_method_11_code (3 : Nat) (Option.none : Option Jvm.ClassFile.FieldType)).before a0 Z = true := hw _ (List.mem_of_getElem? (i := 136) rfl)
theorem t137 {Z : State} {a0 : Array Value} (hw : ∀ d ∈ tables_1, d.before a0 Z = true) : (Jvm.Cond.fieldLink "com/example/velvet_rope/velvetrope/lock/TableEntries" (134 : Nat) "com/example/velvet_rope/velvetrope/lock/ElementLocks" "coming" "I").before a0 Z = true := hw _ (List.mem_of_getElem? (i := 137) rfl)
theorem t138 {Z : State} {a0 : Array Value} (hw : ∀ d ∈ tables_1, d.before a0 Z = true) : (Jvm.Cond.fieldLink "com/example/velvet_rope/velvetrope/lock/TableEntries" (122 : Nat) "com/example/velvet_rope/velvetrope/lock/TransactionLocks" "comingTo" "Ljava/lang/String;").before a0 Z = true := hw _ (List.mem_of_getElem? (i := 138) rfl)
theorem t139 {Z : State} {a0 : Array Value} (hw : ∀ d ∈ tables_1, d.before a0 Z = true) : (Jvm.Cond.methodLink "com/example/velvet_rope/velvetrope/lock/TableEntriesComePinLaw" (36 : Nat) ({ cls := "java/lang/String", name := "equals", desc := "(Ljava/lang/Object;)Z" } : Jvm.MethodName)).before a0 Z = true := hw _ (List.mem_of_getElem? (i := 139) rfl)
theorem t140 {Z : State} {a0 : Array Value} (hw : ∀ d ∈ tables_1, d.before a0 Z = true) : (Jvm.Cond.declares ({ cls := "java/lang/String", name := "equals", desc := "(Ljava/lang/Object;)Z" } : Jvm.MethodName)).before a0 Z = true := hw _ (List.mem_of_getElem? (i := 140) rfl)
theorem t141 {Z : State} {a0 : Array Value} (hw : ∀ d ∈ tables_1, d.before a0 Z = true) : (Jvm.Cond.instanceMethod ({ cls := "java/lang/String", name := "equals", desc := "(Ljava/lang/Object;)Z" } : Jvm.MethodName)).before a0 Z = true := hw _ (List.mem_of_getElem? (i := 141) rfl)
theorem t142 {Z : State} {a0 : Array Value} (hw : ∀ d ∈ tables_1, d.before a0 Z = true) : (Jvm.Cond.selects "java/lang/String" ({ cls := "java/lang/String", name := "equals", desc := "(Ljava/lang/Object;)Z" } : Jvm.MethodName) ({ cls := "java/lang/String", name := "equals", desc := "(Ljava/lang/Object;)Z" } : Jvm.MethodName)).before a0 Z = true := hw _ (List.mem_of_getElem? (i := 142) rfl)
theorem t143 {Z : State} {a0 : Array Value} (hw : ∀ d ∈ tables_1, d.before a0 Z = true) : (Jvm.Cond.code ({ cls := "java/lang/String", name := "equals", desc := "(Ljava/lang/Object;)Z" } : Jvm.MethodName) jdk_42_method_66_code (3 : Nat) (Option.some Jvm.ClassFile.FieldType.boolean)).before a0 Z = true := hw _ (List.mem_of_getElem? (i := 143) rfl)
theorem t144 {Z : State} {a0 : Array Value} (hw : ∀ d ∈ tables_1, d.before a0 Z = true) : (Jvm.Cond.fieldLink "com/example/velvet_rope/velvetrope/lock/TableEntriesComePinLaw" (40 : Nat) "com/example/velvet_rope/velvetrope/lock/TransactionLocks" "began" "J").before a0 Z = true := hw _ (List.mem_of_getElem? (i := 144) rfl)
theorem t145 {Z : State} {a0 : Array Value} (hw : ∀ d ∈ tables_1, d.before a0 Z = true) : (Jvm.Cond.fieldLink "com/example/velvet_rope/velvetrope/lock/TableEntriesComePinLaw" (44 : Nat) "com/example/velvet_rope/velvetrope/lock/TransactionLocks" "waiting" "Lcom/example/velvet_rope/velvetrope/lock/Request;").before a0 Z = true := hw _ (List.mem_of_getElem? (i := 145) rfl)
theorem t146 {Z : State} {a0 : Array Value} (hw : ∀ d ∈ tables_1, d.before a0 Z = true) : (Jvm.Cond.lays "com/example/velvet_rope/velvetrope/lock/TransactionLocks" "com/example/velvet_rope/velvetrope/lock/TransactionLocks" "waiting" "Lcom/example/velvet_rope/velvetrope/lock/Request;").before a0 Z = true := hw _ (List.mem_of_getElem? (i := 146) rfl)
theorem t147 {Z : State} {a0 : Array Value} (hw : ∀ d ∈ tables_1, d.before a0 Z = true) : (Jvm.Cond.methodLink "com/example/velvet_rope/velvetrope/lock/TableEntriesComePinLaw" (48 : Nat) ({ cls := "com/example/velvet_rope/velvetrope/lock/ElementLocks", name := "idle", desc := "()Z" } : Jvm.MethodName)).before a0 Z = true := hw _ (List.mem_of_getElem? (i := 147) rfl)
theorem t148 {Z : State} {a0 : Array Value} (hw : ∀ d ∈ tables_1, d.before a0 Z = true) : (Jvm.Cond.declares ({ cls := "com/example/velvet_rope/velvetrope/lock/ElementLocks", name := "idle", desc := "()Z" } : Jvm.MethodName)).before a0 Z = true := hw _ (List.mem_of_getElem? (i := 148) rfl)
theorem t149 {Z : State} {a0 : Array Value} (hw : ∀ d ∈ tables_1, d.before a0 Z = true) : (Jvm.Cond.instanceMethod ({ cls := "com/example/velvet_rope/velvetrope/lock/ElementLocks", name := "idle", desc := "()Z" } : Jvm.MethodName)).before a0 Z = true := hw _ (List.mem_of_getElem? (i := 149) rfl)
theorem t150 {Z : State} {a0 : Array Value} (hw : ∀ d ∈ tables_1, d.before a0 Z = true) : (Jvm.Cond.selects "com/example/velvet_rope/velvetrope/lock/ElementLocks" ({ cls := "com/example/velvet_rope/velvetrope/lock/ElementLocks", name := "idle", desc := "()Z" } : Jvm.MethodName) ({ cls := "com/example/velvet_rope/velvetrope/lock/ElementLocks", name := "idle", desc := "()Z" } : Jvm.MethodName)).before a0 Z = true := hw _ (List.mem_of_getElem? (i := 150) rfl)
theorem t151 {Z : State} {a0 : Array Value} (hw : ∀ d ∈ tables_1, d.before a0 Z = true) : (Jvm.Cond.code ({ cls := "com/example/velvet_rope/velvetrope/lock/ElementLocks", name := "idle", desc := "()Z" } : Jvm.MethodName) prog_48_method_2_code (1 : Nat) (Option.some Jvm.ClassFile.FieldType.boolean)).before a0 Z = true := hw _ (List.mem_of_getElem? (i := 151) rfl)
theorem t152 {Z : State} {a0 : Array Value} (hw : ∀ d ∈ tables_1, d.before a0 Z = true) : (Jvm.Cond.methodLink "com/example/velvet_rope/velvetrope/lock/ElementLocks" (25 : Nat) ({ cls := "java/util/List", name := "isEmpty", desc := "()Z" } : Jvm.MethodName)).before a0 Z = true := hw _ (List.mem_of_getElem? (i := 152) rfl)
theorem t153 {Z : State} {a0 : Array Value} (hw : ∀ d ∈ tables_1, d.before a0 Z = true) : (Jvm.Cond.declares ({ cls := "java/util/List", name := "isEmpty", desc := "()Z" } : Jvm.MethodName)).before a0 Z = true := hw _ (List.mem_of_getElem? (i := 153) rfl)
theorem t154 {Z : State} {a0 : Array Value} (hw : ∀ d ∈ tables_1, d.before a0 Z = true) : (Jvm.Cond.interfaceMethod "java/util/List" "java/util/List" "isEmpty" "()Z").before a0 Z = true := hw _ (List.mem_of_getElem? (i := 154) rfl)
theorem t155 {Z : State} {a0 : Array Value} (hw : ∀ d ∈ tables_1, d.before a0 Z = true) : (Jvm.Cond.selects "java/util/ArrayList" ({ cls := "java/util/List", name := "isEmpty", desc := "()Z" } : Jvm.MethodName) ({ cls := "java/util/ArrayList", name := "isEmpty", desc := "()Z" } : Jvm.MethodName)).before a0 Z = true := hw _ (List.mem_of_getElem? (i := 155) rfl)
theorem t156 {Z : State} {a0 : Array Value} (hw : ∀ d ∈ tables_1, d.before a0 Z = true) : (Jvm.Cond.instanceMethod ({ cls := "java/util/ArrayList", name := "isEmpty", desc := "()Z" } : Jvm.MethodName)).before a0 Z = true := hw _ (List.mem_of_getElem? (i := 156) rfl)
theorem t157 {Z : State} {a0 : Array Value} (hw : ∀ d ∈ tables_1, d.before a0 Z = true) : (Jvm.Cond.publicMethod ({ cls := "java/util/ArrayList", name := "isEmpty", desc := "()Z" } : Jvm.MethodName)).before a0 Z = true := hw _ (List.mem_of_getElem? (i := 157) rfl)
theorem t158 {Z : State} {a0 : Array Value} (hw : ∀ d ∈ tables_1, d.before a0 Z = true) : (Jvm.Cond.unhidden "java/util/ArrayList" "isEmpty" "()Z").before a0 Z = true := hw _ (List.mem_of_getElem? (i := 158) rfl)
theorem t159 {Z : State} {a0 : Array Value} (hw : ∀ d ∈ tables_1, d.before a0 Z = true) : (Jvm.Cond.castable "java/util/ArrayList" "java/util/List").before a0 Z = true := hw _ (List.mem_of_getElem? (i := 159) rfl)
theorem t160 {Z : State} {a0 : Array Value} (hw : ∀ d ∈ tables_1, d.before a0 Z = true) : (Jvm.Cond.code ({ cls := "java/util/ArrayList", name := "isEmpty", desc := "()Z" } : Jvm.MethodName) jdk_38_method_9_code (1 : Nat) (Option.some Jvm.ClassFile.FieldType.boolean)).before a0 Z = true := hw _ (List.mem_of_getElem? (i := 160) rfl)
theorem t161 {Z : State} {a0 : Array Value} (hw : ∀ d ∈ tables_1, d.before a0 Z = true) : (Jvm.Cond.fieldLink "java/util/ArrayList" (48 : Nat) "java/util/ArrayList" "size" "I").before a0 Z = true := hw _ (List.mem_of_getElem? (i := 161) rfl)
theorem t162 {Z : State} {a0 : Array Value} (hw : ∀ d ∈ tables_1, d.before a0 Z = true) : (Jvm.Cond.lays "java/util/ArrayList" "java/util/ArrayList" "size" "I").before a0 Z = true := hw _ (List.mem_of_getElem? (i := 162) rfl)
theorem t163 {Z : State} {a0 : Array Value} (hw : ∀ d ∈ tables_1, d.before a0 Z = true) : (Jvm.Cond.methodLink "com/example/velvet_rope/velvetrope/lock/ElementLocks" (31 : Nat) ({ cls := "com/example/velvet_rope/velvetrope/lock/WaitingQueue", name := "isEmpty", desc := "()Z" } : Jvm.MethodName)).before a0 Z = true := hw _ (List.mem_of_getElem? (i := 163) rfl)
theorem t164 {Z : State} {a0 : Array Value} (hw : ∀ d ∈ tables_1, d.before a0 Z = true) : (Jvm.Cond.sameMethod "com/example/velvet_rope/velvetrope/lock/WaitingQueue" "java/util/AbstractCollection" "isEmpty" "()Z").before a0 Z = true := hw _ (List.mem_of_getElem? (i := 164) rfl)
theorem t165 {Z : State} {a0 : Array Value} (hw : ∀ d ∈ tables_1, d.before a0 Z = true) : (Jvm.Cond.declares ({ cls := "java/util/AbstractCollection", name := "isEmpty", desc := "()Z" } : Jvm.MethodName)).before a0 Z = true := hw _ (List.mem_of_getElem? (i := 165) rfl)
theorem t166 {Z : State} {a0 : Array Value} (hw : ∀ d ∈ tables_1, d.before a0 Z = true) : (Jvm.Cond.instanceMethod ({ cls := "java/util/AbstractCollection", name := "isEmpty", desc := "()Z" } : Jvm.MethodName)).before a0 Z = true := hw _ (List.mem_of_getElem? (i := 166) rfl)
theorem t167 {Z : State} {a0 : Array Value} (hw : ∀ d ∈ tables_1, d.before a0 Z = true) : (Jvm.Cond.selects "com/example/velvet_rope/velvetrope/lock/WaitingQueue" ({ cls := "com/example/velvet_rope/velvetrope/lock/WaitingQueue", name := "isEmpty", desc := "()Z" } : Jvm.MethodName) ({ cls := "java/util/AbstractCollection", name := "isEmpty", desc := "()Z" } : Jvm.MethodName)).before a0 Z = true := hw _ (List.mem_of_getElem? (i := 167) rfl)
theorem t168 {Z : State} {a0 : Array Value} (hw : ∀ d ∈ tables_1, d.before a0 Z = true) : (Jvm.Cond.code ({ cls := "java/util/AbstractCollection", name := "isEmpty", desc := "()Z" } : Jvm.MethodName) jdk_22_method_4_code (1 : Nat) (Option.some Jvm.ClassFile.FieldType.boolean)).before a0 Z = true := hw _ (List.mem_of_getElem? (i := 168) rfl)
theorem t169 {Z : State} {a0 : Array Value} (hw : ∀ d ∈ tables_1, d.before a0 Z = true) : (Jvm.Cond.methodLink "java/util/AbstractCollection" (7 : Nat) ({ cls := "java/util/AbstractCollection", name := "size", desc := "()I" } : Jvm.MethodName)).before a0 Z = true := hw _ (List.mem_of_getElem? (i := 169) rfl)
theorem t170 {Z : State} {a0 : Array Value} (hw : ∀ d ∈ tables_1, d.before a0 Z = true) : (Jvm.Cond.declares ({ cls := "java/util/AbstractCollection", name := "size", desc := "()I" } : Jvm.MethodName)).before a0 Z = true := hw _ (List.mem_of_getElem? (i := 170) rfl)
theorem t171 {Z : State} {a0 : Array Value} (hw : ∀ d ∈ tables_1, d.before a0 Z = true) : (Jvm.Cond.selects "com/example/velvet_rope/velvetrope/lock/WaitingQueue" ({ cls := "java/util/AbstractCollection", name := "size", desc := "()I" } : Jvm.MethodName) ({ cls := "com/example/velvet_rope/velvetrope/lock/QueueList", name := "size", desc := "()I" } : Jvm.MethodName)).before a0 Z = true := hw _ (List.mem_of_getElem? (i := 171) rfl)
theorem t172 {Z : State} {a0 : Array Value} (hw : ∀ d ∈ tables_1, d.before a0 Z = true) : (Jvm.Cond.instanceMethod ({ cls := "com/example/velvet_rope/velvetrope/lock/QueueList", name := "size", desc := "()I" } : Jvm.MethodName)).before a0 Z = true := hw _ (List.mem_of_getElem? (i := 172) rfl)
theorem t173 {Z : State} {a0 : Array Value} (hw : ∀ d ∈ tables_1, d.before a0 Z = true) : (Jvm.Cond.code ({ cls := "com/example/velvet_rope/velvetrope/lock/QueueList", name := "size", desc := "()I" } : Jvm.MethodName) prog_59_method_3_code (1 : Nat) (Option.some Jvm.ClassFile.FieldType.int)).before a0 Z = true := hw _ (List.mem_of_getElem? (i := 173) rfl)
theorem t174 {Z : State} {a0 : Array Value} (hw : ∀ d ∈ tables_1, d.before a0 Z = true) : (Jvm.Cond.fieldLink "com/example/velvet_rope/velvetrope/lock/QueueList" (34 : Nat) "com/example/velvet_rope/velvetrope/lock/QueueList" "end" "I").before a0 Z = true := hw _ (List.mem_of_getElem? (i := 174) rfl)
theorem t175 {Z : State} {a0 : Array Value} (hw : ∀ d ∈ tables_1, d.before a0 Z = true) : (Jvm.Cond.lays "com/example/velvet_rope/velvetrope/lock/WaitingQueue" "com/example/velvet_rope/velvetrope/lock/QueueList" "end" "I").before a0 Z = true := hw _ (List.mem_of_getElem? (i := 175) rfl)
theorem t176 {Z : State} {a0 : Array Value} (hw : ∀ d ∈ tables_1, d.before a0 Z = true) : (Jvm.Cond.fieldLink "com/example/velvet_rope/velvetrope/lock/QueueList" (26 : Nat) "com/example/velvet_rope/velvetrope/lock/QueueList" "start" "I").before a0 Z = true := hw _ (List.mem_of_getElem? (i := 176) rfl)
theorem t177 {Z : State} {a0 : Array Value} (hw : ∀ d ∈ tables_1, d.before a0 Z = true) : (Jvm.Cond.lays "com/example/velvet_rope/velvetrope/lock/WaitingQueue" "com/example/velvet_rope/velvetrope/lock/QueueList" "start" "I").before a0 Z = true := hw _ (List.mem_of_getElem? (i := 177) rfl)
theorem t178 {Z : State} {a0 : Array Value} (hw : ∀ d ∈ tables_1, d.before a0 Z = true) : (Jvm.Cond.fieldLink "com/example/velvet_rope/velvetrope/lock/ElementLocks" (32 : Nat) "com/example/velvet_rope/velvetrope/lock/ElementLocks" "coming" "I").before a0 Z = true := hw _ (List.mem_of_getElem? (i := 178) rfl)
theorem pd0 : parseMethodDescriptor "([CI[BII)I" = some ⟨[(.array .char), .int, (.array .byte), .int, .int], some .int⟩ := by decide +kernel
theorem pd1 : parseMethodDescriptor "([CII)[B" = some ⟨[(.array .char), .int, .int], some (.array .byte)⟩ := by decide +kernel
theorem pd2 : parseMethodDescriptor "([BI)B" = some ⟨[(.array .byte), .int], some .byte⟩ := by decide +kernel
theorem pd3 : parseMethodDescriptor "([CIILjava/lang/Void;)V" = some ⟨[(.array .char), .int, .int, (.object "java/lang/Void")], none⟩ := by decide +kernel
theorem pd4 : parseMethodDescriptor "()V" = some ⟨[], none⟩ := by decide +kernel
theorem pd5 : parseMethodDescriptor "(I)V" = some ⟨[.int], none⟩ := by decide +kernel
theorem pd6 : parseMethodDescriptor "()I" = some ⟨[], some .int⟩ := by decide +kernel
theorem pd7 : parseMethodDescriptor "()Z" = some ⟨[], some .boolean⟩ := by decide +kernel
theorem pd8 : parseMethodDescriptor "([C)V" = some ⟨[(.array .char)], none⟩ := by decide +kernel
theorem pd9 : parseMethodDescriptor "(J)V" = some ⟨[.long], none⟩ := by decide +kernel
theorem pd10 : parseMethodDescriptor "(Lcom/example/velvet_rope/velvetrope/lock/TransactionLocks;Ljava/lang/String;Lcom/example/velvet_rope/velvetrope/lock/ElementLocks;)V" = some ⟨[(.object "com/example/velvet_rope/velvetrope/lock/TransactionLocks"), (.object "java/lang/String"), (.object "com/example/velvet_rope/velvetrope/lock/ElementLocks")], none⟩ := by decide +kernel
theorem pd11 : parseMethodDescriptor "(Ljava/lang/Object;)Z" = some ⟨[(.object "java/lang/Object")], some .boolean⟩ := by decide +kernel
theorem pn0 : plainName "java/lang/StringUTF16" = true := by first | (simp [plainName, overriddenIn]; done) | decide +kernel
theorem pn1 : plainName "java/lang/String" = true := by first | (simp [plainName, overriddenIn]; done) | decide +kernel
theorem pn2 : plainName "java/util/AbstractCollection" = true := by first | (simp [plainName, overriddenIn]; done) | decide +kernel
theorem pn3 : plainName "java/util/AbstractSet" = true := by first | (simp [plainName, overriddenIn]; done) | decide +kernel
theorem pn4 : plainName "java/util/AbstractMap" = true := by first | (simp [plainName, overriddenIn]; done) | decide +kernel
theorem pn5 : plainName "java/util/AbstractList" = true := by first | (simp [plainName, overriddenIn]; done) | decide +kernel
theorem pn6 : plainName "java/util/HashMap" = true := by first | (simp [plainName, overriddenIn]; done) | decide +kernel
theorem pn7 : plainName "java/util/HashSet" = true := by first | (simp [plainName, overriddenIn]; done) | decide +kernel
theorem pn8 : plainName "com/example/velvet_rope/velvetrope/lock/TransactionLocks" = true := by first | (simp [plainName, overriddenIn]; done) | decide +kernel
theorem pn9 : plainName "java/util/ArrayList" = true := by first | (simp [plainName, overriddenIn]; done) | decide +kernel
theorem pn10 : plainName "com/example/velvet_rope/velvetrope/lock/QueueList" = true := by first | (simp [plainName, overriddenIn]; done) | decide +kernel
theorem pn11 : plainName "com/example/velvet_rope/velvetrope/lock/WaitingQueue" = true := by first | (simp [plainName, overriddenIn]; done) | decide +kernel
theorem pn12 : plainName "com/example/velvet_rope/velvetrope/lock/ElementLocks" = true := by first | (simp [plainName, overriddenIn]; done) | decide +kernel
theorem pn13 : plainName "com/example/velvet_rope/velvetrope/lock/TableEntries" = true := by first | (simp [plainName, overriddenIn]; done) | decide +kernel
theorem pn14 : plainName "com/example/velvet_rope/velvetrope/lock/TableEntriesComePinLaw" = true := by first | (simp [plainName, overriddenIn]; done) | decide +kernel
theorem c5_0 : Dp jdk_52_method_21_code 0 0 1 := Or.inl ⟨0, (by decide +kernel), by decide, rfl⟩
theorem c5_1 : Dis jdk_52_method_21_code 1 5 3 := Or.inl ⟨(by decide +kernel), rfl⟩
theorem c5_3 : Dil jdk_52_method_21_code 3 5 5 := Or.inl ⟨(by decide +kernel), rfl⟩
theorem c5_5 : Dil jdk_52_method_21_code 5 4 7 := Or.inl ⟨(by decide +kernel), rfl⟩
theorem c5_7 : Db jdk_52_method_21_code 7 (.if_icmp .ge) 10 44 := ⟨37, (by decide +kernel), rfl, by decide, by decide⟩
theorem c5_10 : Dal jdk_52_method_21_code 10 0 11 := Or.inr ⟨0, (by decide +kernel), rfl, rfl⟩
theorem c5_11 : Dil jdk_52_method_21_code 11 1 12 := Or.inr ⟨1, (by decide +kernel), rfl, rfl⟩
theorem c5_12 : Dc jdk_52_method_21_code 12 .caload 1 13 := ⟨(by decide +kernel), rfl⟩
theorem c5_13 : Dis jdk_52_method_21_code 13 6 15 := Or.inl ⟨(by decide +kernel), rfl⟩
theorem c5_15 : Dil jdk_52_method_21_code 15 6 17 := Or.inl ⟨(by decide +kernel), rfl⟩
theorem c5_17 : Dp jdk_52_method_21_code 17 255 20 := Or.inr (Or.inr ⟨255, (by decide +kernel), by decide, rfl⟩)
theorem c5_20 : Db jdk_52_method_21_code 20 (.if_icmp .le) 23 26 := ⟨6, (by decide +kernel), rfl, by decide, by decide⟩
theorem c5_23 : Dil jdk_52_method_21_code 23 5 25 := Or.inl ⟨(by decide +kernel), rfl⟩
theorem c5_25 : Dc jdk_52_method_21_code 25 .ireturn 1 26 := ⟨(by decide +kernel), rfl⟩
theorem c5_26 : Dal jdk_52_method_21_code 26 2 27 := Or.inr ⟨2, (by decide +kernel), rfl, rfl⟩
theorem c5_27 : Dil jdk_52_method_21_code 27 3 28 := Or.inr ⟨3, (by decide +kernel), rfl, rfl⟩
theorem c5_28 : Dil jdk_52_method_21_code 28 6 30 := Or.inl ⟨(by decide +kernel), rfl⟩
theorem c5_30 : Dc jdk_52_method_21_code 30 .i2b 1 31 := ⟨(by decide +kernel), rfl⟩
theorem c5_31 : Dc jdk_52_method_21_code 31 .bastore 1 32 := ⟨(by decide +kernel), rfl⟩
theorem c5_32 : Dinc jdk_52_method_21_code 32 1 1 35 := ⟨1, (by decide +kernel), by decide, rfl⟩
theorem c5_35 : Dinc jdk_52_method_21_code 35 3 1 38 := ⟨1, (by decide +kernel), by decide, rfl⟩
theorem c5_38 : Dinc jdk_52_method_21_code 38 5 1 41 := ⟨1, (by decide +kernel), by decide, rfl⟩
theorem c5_41 : Db jdk_52_method_21_code 41 .goto 44 3 := ⟨(-38), (by decide +kernel), rfl, by decide, by decide⟩
theorem c5_44 : Dil jdk_52_method_21_code 44 4 46 := Or.inl ⟨(by decide +kernel), rfl⟩
theorem c5_46 : Dc jdk_52_method_21_code 46 .ireturn 1 47 := ⟨(by decide +kernel), rfl⟩
theorem c4_0 : Dil jdk_52_method_16_code 0 2 1 := Or.inr ⟨2, (by decide +kernel), rfl, rfl⟩
theorem c4_1 : Dc jdk_52_method_16_code 1 (.newarray .byte) 2 3 := ⟨(by decide +kernel), rfl⟩
theorem c4_3 : Das jdk_52_method_16_code 3 3 4 := Or.inr ⟨3, (by decide +kernel), rfl, rfl⟩
theorem c4_4 : Dal jdk_52_method_16_code 4 0 5 := Or.inr ⟨0, (by decide +kernel), rfl, rfl⟩
theorem c4_5 : Dil jdk_52_method_16_code 5 1 6 := Or.inr ⟨1, (by decide +kernel), rfl, rfl⟩
theorem c4_6 : Dal jdk_52_method_16_code 6 3 7 := Or.inr ⟨3, (by decide +kernel), rfl, rfl⟩
theorem c4_7 : Dp jdk_52_method_16_code 7 0 8 := Or.inl ⟨0, (by decide +kernel), by decide, rfl⟩
theorem c4_8 : Dil jdk_52_method_16_code 8 2 9 := Or.inr ⟨2, (by decide +kernel), rfl, rfl⟩
theorem c4_9 : Dc jdk_52_method_16_code 9 (.invokestatic 115) 3 12 := ⟨(by decide +kernel), rfl⟩
theorem c4_12 : Dis jdk_52_method_16_code 12 4 14 := Or.inl ⟨(by decide +kernel), rfl⟩
theorem c4_14 : Dil jdk_52_method_16_code 14 4 16 := Or.inl ⟨(by decide +kernel), rfl⟩
theorem c4_16 : Dil jdk_52_method_16_code 16 2 17 := Or.inr ⟨2, (by decide +kernel), rfl, rfl⟩
theorem c4_17 : Db jdk_52_method_16_code 17 (.if_icmp .eq) 20 57 := ⟨40, (by decide +kernel), rfl, by decide, by decide⟩
theorem c4_20 : Dal jdk_52_method_16_code 20 0 21 := Or.inr ⟨0, (by decide +kernel), rfl, rfl⟩
theorem c4_21 : Dil jdk_52_method_16_code 21 1 22 := Or.inr ⟨1, (by decide +kernel), rfl, rfl⟩
theorem c4_22 : Dil jdk_52_method_16_code 22 2 23 := Or.inr ⟨2, (by decide +kernel), rfl, rfl⟩
theorem c4_23 : Dc jdk_52_method_16_code 23 (.invokestatic 119) 3 26 := ⟨(by decide +kernel), rfl⟩
theorem c4_26 : Das jdk_52_method_16_code 26 5 28 := Or.inl ⟨(by decide +kernel), rfl⟩
theorem c4_28 : Dal jdk_52_method_16_code 28 5 30 := Or.inl ⟨(by decide +kernel), rfl⟩
theorem c4_30 : Dil jdk_52_method_16_code 30 4 32 := Or.inl ⟨(by decide +kernel), rfl⟩
theorem c4_32 : Dc jdk_52_method_16_code 32 (.invokestatic 71) 3 35 := ⟨(by decide +kernel), rfl⟩
theorem c4_35 : Dp jdk_52_method_16_code 35 255 38 := Or.inr (Or.inr ⟨255, (by decide +kernel), by decide, rfl⟩)
theorem c4_38 : Db jdk_52_method_16_code 38 (.if_icmp .gt) 41 54 := ⟨16, (by decide +kernel), rfl, by decide, by decide⟩
theorem c4_41 : Dal jdk_52_method_16_code 41 5 43 := Or.inl ⟨(by decide +kernel), rfl⟩
theorem c4_43 : Dp jdk_52_method_16_code 43 0 44 := Or.inl ⟨0, (by decide +kernel), by decide, rfl⟩
theorem c4_44 : Dal jdk_52_method_16_code 44 3 45 := Or.inr ⟨3, (by decide +kernel), rfl, rfl⟩
theorem c4_45 : Dp jdk_52_method_16_code 45 0 46 := Or.inl ⟨0, (by decide +kernel), by decide, rfl⟩
theorem c4_46 : Dil jdk_52_method_16_code 46 2 47 := Or.inr ⟨2, (by decide +kernel), rfl, rfl⟩
theorem c4_47 : Dc jdk_52_method_16_code 47 (.invokestatic 123) 3 50 := ⟨(by decide +kernel), rfl⟩
theorem c4_50 : Dil jdk_52_method_16_code 50 2 51 := Or.inr ⟨2, (by decide +kernel), rfl, rfl⟩
theorem c4_51 : Db jdk_52_method_16_code 51 (.if_icmp .eq) 54 57 := ⟨6, (by decide +kernel), rfl, by decide, by decide⟩
theorem c4_54 : Dal jdk_52_method_16_code 54 5 56 := Or.inl ⟨(by decide +kernel), rfl⟩
theorem c4_56 : Dc jdk_52_method_16_code 56 .areturn 1 57 := ⟨(by decide +kernel), rfl⟩
theorem c4_57 : Dal jdk_52_method_16_code 57 3 58 := Or.inr ⟨3, (by decide +kernel), rfl, rfl⟩
theorem c4_58 : Dc jdk_52_method_16_code 58 .areturn 1 59 := ⟨(by decide +kernel), rfl⟩
theorem c6_0 : Dil jdk_52_method_15_code 0 1 1 := Or.inr ⟨1, (by decide +kernel), rfl, rfl⟩
theorem c6_1 : Dal jdk_52_method_15_code 1 0 2 := Or.inr ⟨0, (by decide +kernel), rfl, rfl⟩
theorem c6_2 : Dc jdk_52_method_15_code 2 .arraylength 1 3 := ⟨(by decide +kernel), rfl⟩
theorem c6_3 : Dc jdk_52_method_15_code 3 .isub 1 4 := ⟨(by decide +kernel), rfl⟩
theorem c6_4 : Dp jdk_52_method_15_code 4 31 6 := Or.inr (Or.inl ⟨31, (by decide +kernel), by decide, rfl⟩)
theorem c6_6 : Dc jdk_52_method_15_code 6 .iushr 1 7 := ⟨(by decide +kernel), rfl⟩
theorem c6_7 : Dc jdk_52_method_15_code 7 .i2b 1 8 := ⟨(by decide +kernel), rfl⟩
theorem c6_8 : Dc jdk_52_method_15_code 8 .ireturn 1 9 := ⟨(by decide +kernel), rfl⟩
theorem c2_0 : Dal jdk_42_method_149_code 0 0 1 := Or.inr ⟨0, (by decide +kernel), rfl, rfl⟩
theorem c2_1 : Dc jdk_42_method_149_code 1 (.invokespecial 1) 3 4 := ⟨(by decide +kernel), rfl⟩
theorem c2_4 : Dil jdk_42_method_149_code 4 3 5 := Or.inr ⟨3, (by decide +kernel), rfl, rfl⟩
theorem c2_5 : Db jdk_42_method_149_code 5 (.ifCond .ne) 8 27 := ⟨22, (by decide +kernel), rfl, by decide, by decide⟩
theorem c2_8 : Dal jdk_42_method_149_code 8 0 9 := Or.inr ⟨0, (by decide +kernel), rfl, rfl⟩
theorem c2_9 : Dc jdk_42_method_149_code 9 (.ldc 7) 2 11 := ⟨(by decide +kernel), rfl⟩
theorem c2_11 : Dc jdk_42_method_149_code 11 (.getfield 9) 3 14 := ⟨(by decide +kernel), rfl⟩
theorem c2_14 : Dc jdk_42_method_149_code 14 (.putfield 9) 3 17 := ⟨(by decide +kernel), rfl⟩
theorem c2_17 : Dal jdk_42_method_149_code 17 0 18 := Or.inr ⟨0, (by decide +kernel), rfl, rfl⟩
theorem c2_18 : Dc jdk_42_method_149_code 18 (.ldc 7) 2 20 := ⟨(by decide +kernel), rfl⟩
theorem c2_20 : Dc jdk_42_method_149_code 20 (.getfield 15) 3 23 := ⟨(by decide +kernel), rfl⟩
theorem c2_23 : Dc jdk_42_method_149_code 23 (.putfield 15) 3 26 := ⟨(by decide +kernel), rfl⟩
theorem c2_26 : Dc jdk_42_method_149_code 26 .return_ 1 27 := ⟨(by decide +kernel), rfl⟩
theorem c2_27 : Dc jdk_42_method_149_code 27 (.getstatic 38) 3 30 := ⟨(by decide +kernel), rfl⟩
theorem c2_30 : Db jdk_42_method_149_code 30 (.ifCond .eq) 33 58 := ⟨28, (by decide +kernel), rfl, by decide, by decide⟩
theorem c2_33 : Dal jdk_42_method_149_code 33 1 34 := Or.inr ⟨1, (by decide +kernel), rfl, rfl⟩
theorem c2_34 : Dil jdk_42_method_149_code 34 2 35 := Or.inr ⟨2, (by decide +kernel), rfl, rfl⟩
theorem c2_35 : Dil jdk_42_method_149_code 35 3 36 := Or.inr ⟨3, (by decide +kernel), rfl, rfl⟩
theorem c2_36 : Dc jdk_42_method_149_code 36 (.invokestatic 177) 3 39 := ⟨(by decide +kernel), rfl⟩
theorem c2_39 : Das jdk_42_method_149_code 39 5 41 := Or.inl ⟨(by decide +kernel), rfl⟩
theorem c2_41 : Dal jdk_42_method_149_code 41 0 42 := Or.inr ⟨0, (by decide +kernel), rfl, rfl⟩
theorem c2_42 : Dal jdk_42_method_149_code 42 5 44 := Or.inl ⟨(by decide +kernel), rfl⟩
theorem c2_44 : Dil jdk_42_method_149_code 44 3 45 := Or.inr ⟨3, (by decide +kernel), rfl, rfl⟩
theorem c2_45 : Dc jdk_42_method_149_code 45 (.invokestatic 47) 3 48 := ⟨(by decide +kernel), rfl⟩
theorem c2_48 : Dc jdk_42_method_149_code 48 (.putfield 15) 3 51 := ⟨(by decide +kernel), rfl⟩
theorem c2_51 : Dal jdk_42_method_149_code 51 0 52 := Or.inr ⟨0, (by decide +kernel), rfl, rfl⟩
theorem c2_52 : Dal jdk_42_method_149_code 52 5 54 := Or.inl ⟨(by decide +kernel), rfl⟩
theorem c2_54 : Dc jdk_42_method_149_code 54 (.putfield 9) 3 57 := ⟨(by decide +kernel), rfl⟩
theorem c2_57 : Dc jdk_42_method_149_code 57 .return_ 1 58 := ⟨(by decide +kernel), rfl⟩
theorem c2_58 : Dal jdk_42_method_149_code 58 0 59 := Or.inr ⟨0, (by decide +kernel), rfl, rfl⟩
theorem c2_59 : Dp jdk_42_method_149_code 59 1 60 := Or.inl ⟨1, (by decide +kernel), by decide, rfl⟩
theorem c2_60 : Dc jdk_42_method_149_code 60 (.putfield 15) 3 63 := ⟨(by decide +kernel), rfl⟩
theorem c2_63 : Dal jdk_42_method_149_code 63 0 64 := Or.inr ⟨0, (by decide +kernel), rfl, rfl⟩
theorem c2_64 : Dal jdk_42_method_149_code 64 1 65 := Or.inr ⟨1, (by decide +kernel), rfl, rfl⟩
theorem c2_65 : Dil jdk_42_method_149_code 65 2 66 := Or.inr ⟨2, (by decide +kernel), rfl, rfl⟩
theorem c2_66 : Dil jdk_42_method_149_code 66 3 67 := Or.inr ⟨3, (by decide +kernel), rfl, rfl⟩
theorem c2_67 : Dc jdk_42_method_149_code 67 (.invokestatic 180) 3 70 := ⟨(by decide +kernel), rfl⟩
theorem c2_70 : Dc jdk_42_method_149_code 70 (.putfield 9) 3 73 := ⟨(by decide +kernel), rfl⟩
theorem c2_73 : Dc jdk_42_method_149_code 73 .return_ 1 74 := ⟨(by decide +kernel), rfl⟩
theorem c1_0 : Dal jdk_42_method_3_code 0 0 1 := Or.inr ⟨0, (by decide +kernel), rfl, rfl⟩
theorem c1_1 : Dal jdk_42_method_3_code 1 1 2 := Or.inr ⟨1, (by decide +kernel), rfl, rfl⟩
theorem c1_2 : Dp jdk_42_method_3_code 2 0 3 := Or.inl ⟨0, (by decide +kernel), by decide, rfl⟩
theorem c1_3 : Dal jdk_42_method_3_code 3 1 4 := Or.inr ⟨1, (by decide +kernel), rfl, rfl⟩
theorem c1_4 : Dc jdk_42_method_3_code 4 .arraylength 1 5 := ⟨(by decide +kernel), rfl⟩
theorem c1_5 : Dc jdk_42_method_3_code 5 .aconst_null 1 6 := ⟨(by decide +kernel), rfl⟩
theorem c1_6 : Dc jdk_42_method_3_code 6 (.invokespecial 27) 3 9 := ⟨(by decide +kernel), rfl⟩
theorem c1_9 : Dc jdk_42_method_3_code 9 .return_ 1 10 := ⟨(by decide +kernel), rfl⟩
theorem c10_0 : Dal jdk_22_method_1_code 0 0 1 := Or.inr ⟨0, (by decide +kernel), rfl, rfl⟩
theorem c10_1 : Dc jdk_22_method_1_code 1 (.invokespecial 1) 3 4 := ⟨(by decide +kernel), rfl⟩
theorem c10_4 : Dc jdk_22_method_1_code 4 .return_ 1 5 := ⟨(by decide +kernel), rfl⟩
theorem c9_0 : Dal jdk_91_method_1_code 0 0 1 := Or.inr ⟨0, (by decide +kernel), rfl, rfl⟩
theorem c9_1 : Dc jdk_91_method_1_code 1 (.invokespecial 1) 3 4 := ⟨(by decide +kernel), rfl⟩
theorem c9_4 : Dc jdk_91_method_1_code 4 .return_ 1 5 := ⟨(by decide +kernel), rfl⟩
theorem c12_0 : Dal jdk_71_method_1_code 0 0 1 := Or.inr ⟨0, (by decide +kernel), rfl, rfl⟩
theorem c12_1 : Dc jdk_71_method_1_code 1 (.invokespecial 1) 3 4 := ⟨(by decide +kernel), rfl⟩
theorem c12_4 : Dc jdk_71_method_1_code 4 .return_ 1 5 := ⟨(by decide +kernel), rfl⟩
theorem c15_0 : Dal jdk_39_method_1_code 0 0 1 := Or.inr ⟨0, (by decide +kernel), rfl, rfl⟩
theorem c15_1 : Dc jdk_39_method_1_code 1 (.invokespecial 1) 3 4 := ⟨(by decide +kernel), rfl⟩
theorem c15_4 : Dal jdk_39_method_1_code 4 0 5 := Or.inr ⟨0, (by decide +kernel), rfl, rfl⟩
theorem c15_5 : Dp jdk_39_method_1_code 5 0 6 := Or.inl ⟨0, (by decide +kernel), by decide, rfl⟩
theorem c15_6 : Dc jdk_39_method_1_code 6 (.putfield 7) 3 9 := ⟨(by decide +kernel), rfl⟩
theorem c15_9 : Dc jdk_39_method_1_code 9 .return_ 1 10 := ⟨(by decide +kernel), rfl⟩
theorem c11_0 : Dal jdk_69_method_7_code 0 0 1 := Or.inr ⟨0, (by decide +kernel), rfl, rfl⟩
theorem c11_1 : Dc jdk_69_method_7_code 1 (.invokespecial 43) 3 4 := ⟨(by decide +kernel), rfl⟩
theorem c11_4 : Dal jdk_69_method_7_code 4 0 5 := Or.inr ⟨0, (by decide +kernel), rfl, rfl⟩
theorem c11_5 : Dc jdk_69_method_7_code 5 (.ldc 92) 2 7 := ⟨(by decide +kernel), rfl⟩
theorem c11_7 : Dc jdk_69_method_7_code 7 (.putfield 81) 3 10 := ⟨(by decide +kernel), rfl⟩
theorem c11_10 : Dc jdk_69_method_7_code 10 .return_ 1 11 := ⟨(by decide +kernel), rfl⟩
theorem c8_0 : Dal jdk_93_method_1_code 0 0 1 := Or.inr ⟨0, (by decide +kernel), rfl, rfl⟩
theorem c8_1 : Dc jdk_93_method_1_code 1 (.invokespecial 1) 3 4 := ⟨(by decide +kernel), rfl⟩
theorem c8_4 : Dal jdk_93_method_1_code 4 0 5 := Or.inr ⟨0, (by decide +kernel), rfl, rfl⟩
theorem c8_5 : Dc jdk_93_method_1_code 5 (.new 7) 3 8 := ⟨(by decide +kernel), rfl⟩
theorem c8_8 : Dc jdk_93_method_1_code 8 .dup 1 9 := ⟨(by decide +kernel), rfl⟩
theorem c8_9 : Dc jdk_93_method_1_code 9 (.invokespecial 9) 3 12 := ⟨(by decide +kernel), rfl⟩
theorem c8_12 : Dc jdk_93_method_1_code 12 (.putfield 10) 3 15 := ⟨(by decide +kernel), rfl⟩
theorem c8_15 : Dc jdk_93_method_1_code 15 .return_ 1 16 := ⟨(by decide +kernel), rfl⟩
theorem c7_0 : Dal prog_65_method_1_code 0 0 1 := Or.inr ⟨0, (by decide +kernel), rfl, rfl⟩
theorem c7_1 : Dc prog_65_method_1_code 1 (.invokespecial 1) 3 4 := ⟨(by decide +kernel), rfl⟩
theorem c7_4 : Dal prog_65_method_1_code 4 0 5 := Or.inr ⟨0, (by decide +kernel), rfl, rfl⟩
theorem c7_5 : Dc prog_65_method_1_code 5 (.new 7) 3 8 := ⟨(by decide +kernel), rfl⟩
theorem c7_8 : Dc prog_65_method_1_code 8 .dup 1 9 := ⟨(by decide +kernel), rfl⟩
theorem c7_9 : Dc prog_65_method_1_code 9 (.invokespecial 9) 3 12 := ⟨(by decide +kernel), rfl⟩
theorem c7_12 : Dc prog_65_method_1_code 12 (.putfield 10) 3 15 := ⟨(by decide +kernel), rfl⟩
theorem c7_15 : Dal prog_65_method_1_code 15 0 16 := Or.inr ⟨0, (by decide +kernel), rfl, rfl⟩
theorem c7_16 : Dll prog_65_method_1_code 16 1 17 := Or.inr ⟨1, (by decide +kernel), rfl, rfl⟩
theorem c7_17 : Dc prog_65_method_1_code 17 (.putfield 16) 3 20 := ⟨(by decide +kernel), rfl⟩
theorem c7_20 : Dc prog_65_method_1_code 20 .return_ 1 21 := ⟨(by decide +kernel), rfl⟩
theorem c14_0 : Dal jdk_38_method_1_code 0 0 1 := Or.inr ⟨0, (by decide +kernel), rfl, rfl⟩
theorem c14_1 : Dc jdk_38_method_1_code 1 (.invokespecial 1) 3 4 := ⟨(by decide +kernel), rfl⟩
theorem c14_4 : Dil jdk_38_method_1_code 4 1 5 := Or.inr ⟨1, (by decide +kernel), rfl, rfl⟩
theorem c14_5 : Db jdk_38_method_1_code 5 (.ifCond .le) 8 19 := ⟨14, (by decide +kernel), rfl, by decide, by decide⟩
theorem c14_8 : Dal jdk_38_method_1_code 8 0 9 := Or.inr ⟨0, (by decide +kernel), rfl, rfl⟩
theorem c14_9 : Dil jdk_38_method_1_code 9 1 10 := Or.inr ⟨1, (by decide +kernel), rfl, rfl⟩
theorem c14_10 : Dc jdk_38_method_1_code 10 (.anewarray 7) 3 13 := ⟨(by decide +kernel), rfl⟩
theorem c14_13 : Dc jdk_38_method_1_code 13 (.putfield 9) 3 16 := ⟨(by decide +kernel), rfl⟩
theorem c14_16 : Db jdk_38_method_1_code 16 .goto 19 60 := ⟨44, (by decide +kernel), rfl, by decide, by decide⟩
theorem c14_19 : Dil jdk_38_method_1_code 19 1 20 := Or.inr ⟨1, (by decide +kernel), rfl, rfl⟩
theorem c14_20 : Db jdk_38_method_1_code 20 (.ifCond .ne) 23 33 := ⟨13, (by decide +kernel), rfl, by decide, by decide⟩
theorem c14_23 : Dal jdk_38_method_1_code 23 0 24 := Or.inr ⟨0, (by decide +kernel), rfl, rfl⟩
theorem c14_24 : Dc jdk_38_method_1_code 24 (.getstatic 15) 3 27 := ⟨(by decide +kernel), rfl⟩
theorem c14_27 : Dc jdk_38_method_1_code 27 (.putfield 9) 3 30 := ⟨(by decide +kernel), rfl⟩
theorem c14_30 : Db jdk_38_method_1_code 30 .goto 33 60 := ⟨30, (by decide +kernel), rfl, by decide, by decide⟩
theorem c14_33 : Dc jdk_38_method_1_code 33 (.new 18) 3 36 := ⟨(by decide +kernel), rfl⟩
theorem c14_36 : Dc jdk_38_method_1_code 36 .dup 1 37 := ⟨(by decide +kernel), rfl⟩
theorem c14_37 : Dc jdk_38_method_1_code 37 (.new 20) 3 40 := ⟨(by decide +kernel), rfl⟩
theorem c14_40 : Dc jdk_38_method_1_code 40 .dup 1 41 := ⟨(by decide +kernel), rfl⟩
theorem c14_41 : Dc jdk_38_method_1_code 41 (.invokespecial 22) 3 44 := ⟨(by decide +kernel), rfl⟩
theorem c14_44 : Dc jdk_38_method_1_code 44 (.ldc 23) 2 46 := ⟨(by decide +kernel), rfl⟩
theorem c14_46 : Dc jdk_38_method_1_code 46 (.invokevirtual 25) 3 49 := ⟨(by decide +kernel), rfl⟩
theorem c14_49 : Dil jdk_38_method_1_code 49 1 50 := Or.inr ⟨1, (by decide +kernel), rfl, rfl⟩
theorem c14_50 : Dc jdk_38_method_1_code 50 (.invokevirtual 29) 3 53 := ⟨(by decide +kernel), rfl⟩
theorem c14_53 : Dc jdk_38_method_1_code 53 (.invokevirtual 32) 3 56 := ⟨(by decide +kernel), rfl⟩
theorem c14_56 : Dc jdk_38_method_1_code 56 (.invokespecial 36) 3 59 := ⟨(by decide +kernel), rfl⟩
theorem c14_59 : Dc jdk_38_method_1_code 59 .athrow 1 60 := ⟨(by decide +kernel), rfl⟩
theorem c14_60 : Dc jdk_38_method_1_code 60 .return_ 1 61 := ⟨(by decide +kernel), rfl⟩
theorem c17_0 : Dal prog_59_method_1_code 0 0 1 := Or.inr ⟨0, (by decide +kernel), rfl, rfl⟩
theorem c17_1 : Dc prog_59_method_1_code 1 (.invokespecial 1) 3 4 := ⟨(by decide +kernel), rfl⟩
theorem c17_4 : Dal prog_59_method_1_code 4 0 5 := Or.inr ⟨0, (by decide +kernel), rfl, rfl⟩
theorem c17_5 : Dc prog_59_method_1_code 5 (.getstatic 7) 3 8 := ⟨(by decide +kernel), rfl⟩
theorem c17_8 : Dc prog_59_method_1_code 8 (.putfield 13) 3 11 := ⟨(by decide +kernel), rfl⟩
theorem c17_11 : Dc prog_59_method_1_code 11 .return_ 1 12 := ⟨(by decide +kernel), rfl⟩
theorem c16_0 : Dal prog_66_method_1_code 0 0 1 := Or.inr ⟨0, (by decide +kernel), rfl, rfl⟩
theorem c16_1 : Dc prog_66_method_1_code 1 (.invokespecial 1) 3 4 := ⟨(by decide +kernel), rfl⟩
theorem c16_4 : Dc prog_66_method_1_code 4 .return_ 1 5 := ⟨(by decide +kernel), rfl⟩
theorem c13_0 : Dal prog_48_method_1_code 0 0 1 := Or.inr ⟨0, (by decide +kernel), rfl, rfl⟩
theorem c13_1 : Dc prog_48_method_1_code 1 (.invokespecial 1) 3 4 := ⟨(by decide +kernel), rfl⟩
theorem c13_4 : Dal prog_48_method_1_code 4 0 5 := Or.inr ⟨0, (by decide +kernel), rfl, rfl⟩
theorem c13_5 : Dc prog_48_method_1_code 5 (.new 7) 3 8 := ⟨(by decide +kernel), rfl⟩
theorem c13_8 : Dc prog_48_method_1_code 8 .dup 1 9 := ⟨(by decide +kernel), rfl⟩
theorem c13_9 : Dp prog_48_method_1_code 9 2 10 := Or.inl ⟨2, (by decide +kernel), by decide, rfl⟩
theorem c13_10 : Dc prog_48_method_1_code 10 (.invokespecial 9) 3 13 := ⟨(by decide +kernel), rfl⟩
theorem c13_13 : Dc prog_48_method_1_code 13 (.putfield 12) 3 16 := ⟨(by decide +kernel), rfl⟩
theorem c13_16 : Dal prog_48_method_1_code 16 0 17 := Or.inr ⟨0, (by decide +kernel), rfl, rfl⟩
theorem c13_17 : Dc prog_48_method_1_code 17 (.new 18) 3 20 := ⟨(by decide +kernel), rfl⟩
theorem c13_20 : Dc prog_48_method_1_code 20 .dup 1 21 := ⟨(by decide +kernel), rfl⟩
theorem c13_21 : Dc prog_48_method_1_code 21 (.invokespecial 20) 3 24 := ⟨(by decide +kernel), rfl⟩
theorem c13_24 : Dc prog_48_method_1_code 24 (.putfield 21) 3 27 := ⟨(by decide +kernel), rfl⟩
theorem c13_27 : Dc prog_48_method_1_code 27 .return_ 1 28 := ⟨(by decide +kernel), rfl⟩
theorem c18_0 : Dal prog_63_method_11_code 0 2 1 := Or.inr ⟨2, (by decide +kernel), rfl, rfl⟩
theorem c18_1 : Dc prog_63_method_11_code 1 .dup 1 2 := ⟨(by decide +kernel), rfl⟩
theorem c18_2 : Dc prog_63_method_11_code 2 (.getfield 134) 3 5 := ⟨(by decide +kernel), rfl⟩
theorem c18_5 : Dp prog_63_method_11_code 5 1 6 := Or.inl ⟨1, (by decide +kernel), by decide, rfl⟩
theorem c18_6 : Dc prog_63_method_11_code 6 .iadd 1 7 := ⟨(by decide +kernel), rfl⟩
theorem c18_7 : Dc prog_63_method_11_code 7 (.putfield 134) 3 10 := ⟨(by decide +kernel), rfl⟩
theorem c18_10 : Dal prog_63_method_11_code 10 0 11 := Or.inr ⟨0, (by decide +kernel), rfl, rfl⟩
theorem c18_11 : Dal prog_63_method_11_code 11 1 12 := Or.inr ⟨1, (by decide +kernel), rfl, rfl⟩
theorem c18_12 : Dc prog_63_method_11_code 12 (.putfield 122) 3 15 := ⟨(by decide +kernel), rfl⟩
theorem c18_15 : Dc prog_63_method_11_code 15 .return_ 1 16 := ⟨(by decide +kernel), rfl⟩
theorem c21_0 : Dal jdk_38_method_9_code 0 0 1 := Or.inr ⟨0, (by decide +kernel), rfl, rfl⟩
theorem c21_1 : Dc jdk_38_method_9_code 1 (.getfield 48) 3 4 := ⟨(by decide +kernel), rfl⟩
theorem c21_4 : Db jdk_38_method_9_code 4 (.ifCond .ne) 7 11 := ⟨7, (by decide +kernel), rfl, by decide, by decide⟩
theorem c21_7 : Dp jdk_38_method_9_code 7 1 8 := Or.inl ⟨1, (by decide +kernel), by decide, rfl⟩
theorem c21_8 : Db jdk_38_method_9_code 8 .goto 11 12 := ⟨4, (by decide +kernel), rfl, by decide, by decide⟩
theorem c21_11 : Dp jdk_38_method_9_code 11 0 12 := Or.inl ⟨0, (by decide +kernel), by decide, rfl⟩
theorem c21_12 : Dc jdk_38_method_9_code 12 .ireturn 1 13 := ⟨(by decide +kernel), rfl⟩
theorem c23_0 : Dal prog_59_method_3_code 0 0 1 := Or.inr ⟨0, (by decide +kernel), rfl, rfl⟩
theorem c23_1 : Dc prog_59_method_3_code 1 (.getfield 34) 3 4 := ⟨(by decide +kernel), rfl⟩
theorem c23_4 : Dal prog_59_method_3_code 4 0 5 := Or.inr ⟨0, (by decide +kernel), rfl, rfl⟩
theorem c23_5 : Dc prog_59_method_3_code 5 (.getfield 26) 3 8 := ⟨(by decide +kernel), rfl⟩
theorem c23_8 : Dc prog_59_method_3_code 8 .isub 1 9 := ⟨(by decide +kernel), rfl⟩
theorem c23_9 : Dc prog_59_method_3_code 9 .ireturn 1 10 := ⟨(by decide +kernel), rfl⟩
theorem c22_0 : Dal jdk_22_method_4_code 0 0 1 := Or.inr ⟨0, (by decide +kernel), rfl, rfl⟩
theorem c22_1 : Dc jdk_22_method_4_code 1 (.invokevirtual 7) 3 4 := ⟨(by decide +kernel), rfl⟩
theorem c22_4 : Db jdk_22_method_4_code 4 (.ifCond .ne) 7 11 := ⟨7, (by decide +kernel), rfl, by decide, by decide⟩
theorem c22_7 : Dp jdk_22_method_4_code 7 1 8 := Or.inl ⟨1, (by decide +kernel), by decide, rfl⟩
theorem c22_8 : Db jdk_22_method_4_code 8 .goto 11 12 := ⟨4, (by decide +kernel), rfl, by decide, by decide⟩
theorem c22_11 : Dp jdk_22_method_4_code 11 0 12 := Or.inl ⟨0, (by decide +kernel), by decide, rfl⟩
theorem c22_12 : Dc jdk_22_method_4_code 12 .ireturn 1 13 := ⟨(by decide +kernel), rfl⟩
theorem c20_0 : Dal prog_48_method_2_code 0 0 1 := Or.inr ⟨0, (by decide +kernel), rfl, rfl⟩
theorem c20_1 : Dc prog_48_method_2_code 1 (.getfield 12) 3 4 := ⟨(by decide +kernel), rfl⟩
theorem c20_4 : Dc prog_48_method_2_code 4 (.invokeinterface 25 1) 5 9 := ⟨(by decide +kernel), rfl⟩
theorem c20_9 : Db prog_48_method_2_code 9 (.ifCond .eq) 12 33 := ⟨24, (by decide +kernel), rfl, by decide, by decide⟩
theorem c20_12 : Dal prog_48_method_2_code 12 0 13 := Or.inr ⟨0, (by decide +kernel), rfl, rfl⟩
theorem c20_13 : Dc prog_48_method_2_code 13 (.getfield 21) 3 16 := ⟨(by decide +kernel), rfl⟩
theorem c20_16 : Dc prog_48_method_2_code 16 (.invokevirtual 31) 3 19 := ⟨(by decide +kernel), rfl⟩
theorem c20_19 : Db prog_48_method_2_code 19 (.ifCond .eq) 22 33 := ⟨14, (by decide +kernel), rfl, by decide, by decide⟩
theorem c20_22 : Dal prog_48_method_2_code 22 0 23 := Or.inr ⟨0, (by decide +kernel), rfl, rfl⟩
theorem c20_23 : Dc prog_48_method_2_code 23 (.getfield 32) 3 26 := ⟨(by decide +kernel), rfl⟩
theorem c20_26 : Db prog_48_method_2_code 26 (.ifCond .ne) 29 33 := ⟨7, (by decide +kernel), rfl, by decide, by decide⟩
theorem c20_29 : Dp prog_48_method_2_code 29 1 30 := Or.inl ⟨1, (by decide +kernel), by decide, rfl⟩
theorem c20_30 : Db prog_48_method_2_code 30 .goto 33 34 := ⟨4, (by decide +kernel), rfl, by decide, by decide⟩
theorem c20_33 : Dp prog_48_method_2_code 33 0 34 := Or.inl ⟨0, (by decide +kernel), by decide, rfl⟩
theorem c20_34 : Dc prog_48_method_2_code 34 .ireturn 1 35 := ⟨(by decide +kernel), rfl⟩
theorem c19_0 : Dal jdk_42_method_66_code 0 0 1 := Or.inr ⟨0, (by decide +kernel), rfl, rfl⟩
theorem c19_1 : Dal jdk_42_method_66_code 1 1 2 := Or.inr ⟨1, (by decide +kernel), rfl, rfl⟩
theorem c19_2 : Db jdk_42_method_66_code 2 (.if_acmp .ne) 5 7 := ⟨5, (by decide +kernel), rfl, by decide, by decide⟩
theorem c19_5 : Dp jdk_42_method_66_code 5 1 6 := Or.inl ⟨1, (by decide +kernel), by decide, rfl⟩
theorem c19_6 : Dc jdk_42_method_66_code 6 .ireturn 1 7 := ⟨(by decide +kernel), rfl⟩
theorem c19_7 : Dal jdk_42_method_66_code 7 1 8 := Or.inr ⟨1, (by decide +kernel), rfl, rfl⟩
theorem c19_8 : Dc jdk_42_method_66_code 8 (.instanceof 10) 3 11 := ⟨(by decide +kernel), rfl⟩
theorem c19_11 : Db jdk_42_method_66_code 11 (.ifCond .eq) 14 54 := ⟨43, (by decide +kernel), rfl, by decide, by decide⟩
theorem c19_14 : Dal jdk_42_method_66_code 14 1 15 := Or.inr ⟨1, (by decide +kernel), rfl, rfl⟩
theorem c19_15 : Dc jdk_42_method_66_code 15 (.checkcast 10) 3 18 := ⟨(by decide +kernel), rfl⟩
theorem c19_18 : Das jdk_42_method_66_code 18 2 19 := Or.inr ⟨2, (by decide +kernel), rfl, rfl⟩
theorem c19_19 : Dc jdk_42_method_66_code 19 (.getstatic 38) 3 22 := ⟨(by decide +kernel), rfl⟩
theorem c19_22 : Db jdk_42_method_66_code 22 (.ifCond .eq) 25 36 := ⟨14, (by decide +kernel), rfl, by decide, by decide⟩
theorem c19_25 : Dal jdk_42_method_66_code 25 0 26 := Or.inr ⟨0, (by decide +kernel), rfl, rfl⟩
theorem c19_26 : Dc jdk_42_method_66_code 26 (.getfield 15) 3 29 := ⟨(by decide +kernel), rfl⟩
theorem c19_29 : Dal jdk_42_method_66_code 29 2 30 := Or.inr ⟨2, (by decide +kernel), rfl, rfl⟩
theorem c19_30 : Dc jdk_42_method_66_code 30 (.getfield 15) 3 33 := ⟨(by decide +kernel), rfl⟩
theorem c19_33 : Db jdk_42_method_66_code 33 (.if_icmp .ne) 36 54 := ⟨21, (by decide +kernel), rfl, by decide, by decide⟩
theorem c19_36 : Dal jdk_42_method_66_code 36 0 37 := Or.inr ⟨0, (by decide +kernel), rfl, rfl⟩
theorem c19_37 : Dc jdk_42_method_66_code 37 (.getfield 9) 3 40 := ⟨(by decide +kernel), rfl⟩
theorem c19_40 : Dal jdk_42_method_66_code 40 2 41 := Or.inr ⟨2, (by decide +kernel), rfl, rfl⟩
theorem c19_41 : Dc jdk_42_method_66_code 41 (.getfield 9) 3 44 := ⟨(by decide +kernel), rfl⟩
theorem c19_44 : Dc jdk_42_method_66_code 44 (.invokestatic 541) 3 47 := ⟨(by decide +kernel), rfl⟩
theorem c19_47 : Db jdk_42_method_66_code 47 (.ifCond .eq) 50 54 := ⟨7, (by decide +kernel), rfl, by decide, by decide⟩
theorem c19_50 : Dp jdk_42_method_66_code 50 1 51 := Or.inl ⟨1, (by decide +kernel), by decide, rfl⟩
theorem c19_51 : Db jdk_42_method_66_code 51 .goto 54 55 := ⟨4, (by decide +kernel), rfl, by decide, by decide⟩
theorem c19_54 : Dp jdk_42_method_66_code 54 0 55 := Or.inl ⟨0, (by decide +kernel), by decide, rfl⟩
theorem c19_55 : Dc jdk_42_method_66_code 55 .ireturn 1 56 := ⟨(by decide +kernel), rfl⟩
theorem c0_0 : Dp code 0 2 1 := Or.inl ⟨2, at_0, by decide, rfl⟩
theorem c0_1 : Dc code 1 (.newarray .char) 2 3 := ⟨at_1, rfl⟩
theorem c0_3 : Dc code 3 .dup 1 4 := ⟨at_3, rfl⟩
theorem c0_4 : Dp code 4 0 5 := Or.inl ⟨0, at_4, by decide, rfl⟩
theorem c0_5 : Dil code 5 3 6 := Or.inr ⟨3, at_5, rfl, rfl⟩
theorem c0_6 : Dp code 6 255 9 := Or.inr (Or.inr ⟨255, at_6, by decide, rfl⟩)
theorem c0_9 : Dc code 9 .iand 1 10 := ⟨at_9, rfl⟩
theorem c0_10 : Dc code 10 .i2c 1 11 := ⟨at_10, rfl⟩
theorem c0_11 : Dc code 11 .castore 1 12 := ⟨at_11, rfl⟩
theorem c0_12 : Dc code 12 .dup 1 13 := ⟨at_12, rfl⟩
theorem c0_13 : Dp code 13 1 14 := Or.inl ⟨1, at_13, by decide, rfl⟩
theorem c0_14 : Dil code 14 3 15 := Or.inr ⟨3, at_14, rfl, rfl⟩
theorem c0_15 : Dp code 15 8 17 := Or.inr (Or.inl ⟨8, at_15, by decide, rfl⟩)
theorem c0_17 : Dc code 17 .iushr 1 18 := ⟨at_17, rfl⟩
theorem c0_18 : Dp code 18 255 21 := Or.inr (Or.inr ⟨255, at_18, by decide, rfl⟩)
theorem c0_21 : Dc code 21 .iand 1 22 := ⟨at_21, rfl⟩
theorem c0_22 : Dc code 22 .i2c 1 23 := ⟨at_22, rfl⟩
theorem c0_23 : Dc code 23 .castore 1 24 := ⟨at_23, rfl⟩
theorem c0_24 : Das code 24 6 26 := Or.inl ⟨at_24, rfl⟩
theorem c0_26 : Dc code 26 (.new 7) 3 29 := ⟨at_26, rfl⟩
theorem c0_29 : Dc code 29 .dup 1 30 := ⟨at_29, rfl⟩
theorem c0_30 : Dal code 30 6 32 := Or.inl ⟨at_30, rfl⟩
theorem c0_32 : Dc code 32 (.invokespecial 9) 3 35 := ⟨at_32, rfl⟩
theorem c0_35 : Das code 35 7 37 := Or.inl ⟨at_35, rfl⟩
theorem c0_37 : Dp code 37 2 38 := Or.inl ⟨2, at_37, by decide, rfl⟩
theorem c0_38 : Dc code 38 (.newarray .char) 2 40 := ⟨at_38, rfl⟩
theorem c0_40 : Dc code 40 .dup 1 41 := ⟨at_40, rfl⟩
theorem c0_41 : Dp code 41 0 42 := Or.inl ⟨0, at_41, by decide, rfl⟩
theorem c0_42 : Dil code 42 4 44 := Or.inl ⟨at_42, rfl⟩
theorem c0_44 : Dp code 44 255 47 := Or.inr (Or.inr ⟨255, at_44, by decide, rfl⟩)
theorem c0_47 : Dc code 47 .iand 1 48 := ⟨at_47, rfl⟩
theorem c0_48 : Dc code 48 .i2c 1 49 := ⟨at_48, rfl⟩
theorem c0_49 : Dc code 49 .castore 1 50 := ⟨at_49, rfl⟩
theorem c0_50 : Dc code 50 .dup 1 51 := ⟨at_50, rfl⟩
theorem c0_51 : Dp code 51 1 52 := Or.inl ⟨1, at_51, by decide, rfl⟩
theorem c0_52 : Dil code 52 4 54 := Or.inl ⟨at_52, rfl⟩
theorem c0_54 : Dp code 54 8 56 := Or.inr (Or.inl ⟨8, at_54, by decide, rfl⟩)
theorem c0_56 : Dc code 56 .iushr 1 57 := ⟨at_56, rfl⟩
theorem c0_57 : Dp code 57 255 60 := Or.inr (Or.inr ⟨255, at_57, by decide, rfl⟩)
theorem c0_60 : Dc code 60 .iand 1 61 := ⟨at_60, rfl⟩
theorem c0_61 : Dc code 61 .i2c 1 62 := ⟨at_61, rfl⟩
theorem c0_62 : Dc code 62 .castore 1 63 := ⟨at_62, rfl⟩
theorem c0_63 : Das code 63 8 65 := Or.inl ⟨at_63, rfl⟩
theorem c0_65 : Dc code 65 (.new 7) 3 68 := ⟨at_65, rfl⟩
theorem c0_68 : Dc code 68 .dup 1 69 := ⟨at_68, rfl⟩
theorem c0_69 : Dal code 69 8 71 := Or.inl ⟨at_69, rfl⟩
theorem c0_71 : Dc code 71 (.invokespecial 9) 3 74 := ⟨at_71, rfl⟩
theorem c0_74 : Das code 74 9 76 := Or.inl ⟨at_74, rfl⟩
theorem c0_76 : Dp code 76 1 77 := Or.inl ⟨1, at_76, by decide, rfl⟩
theorem c0_77 : Dc code 77 (.newarray .char) 2 79 := ⟨at_77, rfl⟩
theorem c0_79 : Dc code 79 .dup 1 80 := ⟨at_79, rfl⟩
theorem c0_80 : Dp code 80 0 81 := Or.inl ⟨0, at_80, by decide, rfl⟩
theorem c0_81 : Dil code 81 5 83 := Or.inl ⟨at_81, rfl⟩
theorem c0_83 : Dp code 83 8 85 := Or.inr (Or.inl ⟨8, at_83, by decide, rfl⟩)
theorem c0_85 : Dc code 85 .iushr 1 86 := ⟨at_85, rfl⟩
theorem c0_86 : Dp code 86 255 89 := Or.inr (Or.inr ⟨255, at_86, by decide, rfl⟩)
theorem c0_89 : Dc code 89 .iand 1 90 := ⟨at_89, rfl⟩
theorem c0_90 : Dc code 90 .i2c 1 91 := ⟨at_90, rfl⟩
theorem c0_91 : Dc code 91 .castore 1 92 := ⟨at_91, rfl⟩
theorem c0_92 : Das code 92 10 94 := Or.inl ⟨at_92, rfl⟩
theorem c0_94 : Dc code 94 (.new 7) 3 97 := ⟨at_94, rfl⟩
theorem c0_97 : Dc code 97 .dup 1 98 := ⟨at_97, rfl⟩
theorem c0_98 : Dal code 98 10 100 := Or.inl ⟨at_98, rfl⟩
theorem c0_100 : Dc code 100 (.invokespecial 9) 3 103 := ⟨at_100, rfl⟩
theorem c0_103 : Das code 103 11 105 := Or.inl ⟨at_103, rfl⟩
theorem c0_105 : Dc code 105 (.new 12) 3 108 := ⟨at_105, rfl⟩
theorem c0_108 : Dc code 108 .dup 1 109 := ⟨at_108, rfl⟩
theorem c0_109 : Dll code 109 1 110 := Or.inr ⟨1, at_109, rfl, rfl⟩
theorem c0_110 : Dc code 110 (.invokespecial 14) 3 113 := ⟨at_110, rfl⟩
theorem c0_113 : Das code 113 12 115 := Or.inl ⟨at_113, rfl⟩
theorem c0_115 : Dc code 115 (.new 12) 3 118 := ⟨at_115, rfl⟩
theorem c0_118 : Dc code 118 .dup 1 119 := ⟨at_118, rfl⟩
theorem c0_119 : Dll code 119 1 120 := Or.inr ⟨1, at_119, rfl, rfl⟩
theorem c0_120 : Dc code 120 (.ldc2_w 17) 3 123 := ⟨at_120, rfl⟩
theorem c0_123 : Dc code 123 .lxor 1 124 := ⟨at_123, rfl⟩
theorem c0_124 : Dc code 124 (.invokespecial 14) 3 127 := ⟨at_124, rfl⟩
theorem c0_127 : Das code 127 13 129 := Or.inl ⟨at_127, rfl⟩
theorem c0_129 : Dil code 129 5 131 := Or.inl ⟨at_129, rfl⟩
theorem c0_131 : Dp code 131 2 132 := Or.inl ⟨2, at_131, by decide, rfl⟩
theorem c0_132 : Dc code 132 .iand 1 133 := ⟨at_132, rfl⟩
theorem c0_133 : Db code 133 (.ifCond .eq) 136 140 := ⟨7, at_133, rfl, by decide, by decide⟩
theorem c0_136 : Dp code 136 1 137 := Or.inl ⟨1, at_136, by decide, rfl⟩
theorem c0_137 : Db code 137 .goto 140 141 := ⟨4, at_137, rfl, by decide, by decide⟩
theorem c0_140 : Dp code 140 0 141 := Or.inl ⟨0, at_140, by decide, rfl⟩
theorem c0_141 : Dis code 141 14 143 := Or.inl ⟨at_141, rfl⟩
theorem c0_143 : Dil code 143 14 145 := Or.inl ⟨at_143, rfl⟩
theorem c0_145 : Db code 145 (.ifCond .eq) 148 162 := ⟨17, at_145, rfl, by decide, by decide⟩
theorem c0_148 : Dal code 148 12 150 := Or.inl ⟨at_148, rfl⟩
theorem c0_150 : Dal code 150 11 152 := Or.inl ⟨at_150, rfl⟩
theorem c0_152 : Dc code 152 (.putfield 19) 3 155 := ⟨at_152, rfl⟩
theorem c0_155 : Dal code 155 13 157 := Or.inl ⟨at_155, rfl⟩
theorem c0_157 : Dal code 157 11 159 := Or.inl ⟨at_157, rfl⟩
theorem c0_159 : Dc code 159 (.putfield 19) 3 162 := ⟨at_159, rfl⟩
theorem c0_162 : Dc code 162 (.new 23) 3 165 := ⟨at_162, rfl⟩
theorem c0_165 : Dc code 165 .dup 1 166 := ⟨at_165, rfl⟩
theorem c0_166 : Dc code 166 (.invokespecial 25) 3 169 := ⟨at_166, rfl⟩
theorem c0_169 : Das code 169 15 171 := Or.inl ⟨at_169, rfl⟩
theorem c0_171 : Dal code 171 15 173 := Or.inl ⟨at_171, rfl⟩
theorem c0_173 : Dil code 173 0 174 := Or.inr ⟨0, at_173, rfl, rfl⟩
theorem c0_174 : Dc code 174 (.putfield 26) 3 177 := ⟨at_174, rfl⟩
theorem c0_177 : Dil code 177 5 179 := Or.inl ⟨at_177, rfl⟩
theorem c0_179 : Dp code 179 1 180 := Or.inl ⟨1, at_179, by decide, rfl⟩
theorem c0_180 : Dc code 180 .iand 1 181 := ⟨at_180, rfl⟩
theorem c0_181 : Db code 181 (.ifCond .eq) 184 188 := ⟨7, at_181, rfl, by decide, by decide⟩
theorem c0_184 : Dp code 184 1 185 := Or.inl ⟨1, at_184, by decide, rfl⟩
theorem c0_185 : Db code 185 .goto 188 189 := ⟨4, at_185, rfl, by decide, by decide⟩
theorem c0_188 : Dp code 188 0 189 := Or.inl ⟨0, at_188, by decide, rfl⟩
theorem c0_189 : Dis code 189 16 191 := Or.inl ⟨at_189, rfl⟩
theorem c0_191 : Dil code 191 16 193 := Or.inl ⟨at_191, rfl⟩
theorem c0_193 : Db code 193 (.ifCond .eq) 196 201 := ⟨8, at_193, rfl, by decide, by decide⟩
theorem c0_196 : Dal code 196 12 198 := Or.inl ⟨at_196, rfl⟩
theorem c0_198 : Db code 198 .goto 201 203 := ⟨5, at_198, rfl, by decide, by decide⟩
theorem c0_201 : Dal code 201 13 203 := Or.inl ⟨at_201, rfl⟩
theorem c0_203 : Das code 203 17 205 := Or.inl ⟨at_203, rfl⟩
theorem c0_205 : Dal code 205 13 207 := Or.inl ⟨at_205, rfl⟩
theorem c0_207 : Dc code 207 (.getfield 19) 3 210 := ⟨at_207, rfl⟩
theorem c0_210 : Das code 210 18 212 := Or.inl ⟨at_210, rfl⟩
theorem c0_212 : Dal code 212 12 214 := Or.inl ⟨at_212, rfl⟩
theorem c0_214 : Dal code 214 7 216 := Or.inl ⟨at_214, rfl⟩
theorem c0_216 : Dal code 216 15 218 := Or.inl ⟨at_216, rfl⟩
theorem c0_218 : Dc code 218 (.invokestatic 30) 3 221 := ⟨at_218, rfl⟩
theorem c0_221 : Dal code 221 15 223 := Or.inl ⟨at_221, rfl⟩
theorem c0_223 : Dc code 223 (.getfield 26) 3 226 := ⟨at_223, rfl⟩
theorem c0_226 : Dil code 226 0 227 := Or.inr ⟨0, at_226, rfl, rfl⟩
theorem c0_227 : Dp code 227 1 228 := Or.inl ⟨1, at_227, by decide, rfl⟩
theorem c0_228 : Dc code 228 .iadd 1 229 := ⟨at_228, rfl⟩
theorem c0_229 : Db code 229 (.if_icmp .ne) 232 310 := ⟨81, at_229, rfl, by decide, by decide⟩
theorem c0_232 : Dal code 232 7 234 := Or.inl ⟨at_232, rfl⟩
theorem c0_234 : Dal code 234 12 236 := Or.inl ⟨at_234, rfl⟩
theorem c0_236 : Dc code 236 (.getfield 19) 3 239 := ⟨at_236, rfl⟩
theorem c0_239 : Dc code 239 (.invokevirtual 36) 3 242 := ⟨at_239, rfl⟩
theorem c0_242 : Db code 242 (.ifCond .eq) 245 310 := ⟨68, at_242, rfl, by decide, by decide⟩
theorem c0_245 : Dal code 245 12 247 := Or.inl ⟨at_245, rfl⟩
theorem c0_247 : Dc code 247 (.getfield 40) 3 250 := ⟨at_247, rfl⟩
theorem c0_250 : Dll code 250 1 251 := Or.inr ⟨1, at_250, rfl, rfl⟩
theorem c0_251 : Dc code 251 .lcmp 1 252 := ⟨at_251, rfl⟩
theorem c0_252 : Db code 252 (.ifCond .ne) 255 310 := ⟨58, at_252, rfl, by decide, by decide⟩
theorem c0_255 : Dal code 255 12 257 := Or.inl ⟨at_255, rfl⟩
theorem c0_257 : Dc code 257 (.getfield 44) 3 260 := ⟨at_257, rfl⟩
theorem c0_260 : Db code 260 .ifnonnull 263 310 := ⟨50, at_260, rfl, by decide, by decide⟩
theorem c0_263 : Dal code 263 13 265 := Or.inl ⟨at_263, rfl⟩
theorem c0_265 : Dc code 265 (.getfield 19) 3 268 := ⟨at_265, rfl⟩
theorem c0_268 : Dal code 268 18 270 := Or.inl ⟨at_268, rfl⟩
theorem c0_270 : Db code 270 (.if_acmp .ne) 273 310 := ⟨40, at_270, rfl, by decide, by decide⟩
theorem c0_273 : Dal code 273 13 275 := Or.inl ⟨at_273, rfl⟩
theorem c0_275 : Dc code 275 (.getfield 40) 3 278 := ⟨at_275, rfl⟩
theorem c0_278 : Dll code 278 1 279 := Or.inr ⟨1, at_278, rfl, rfl⟩
theorem c0_279 : Dc code 279 (.ldc2_w 17) 3 282 := ⟨at_279, rfl⟩
theorem c0_282 : Dc code 282 .lxor 1 283 := ⟨at_282, rfl⟩
theorem c0_283 : Dc code 283 .lcmp 1 284 := ⟨at_283, rfl⟩
theorem c0_284 : Db code 284 (.ifCond .ne) 287 310 := ⟨26, at_284, rfl, by decide, by decide⟩
theorem c0_287 : Dal code 287 15 289 := Or.inl ⟨at_287, rfl⟩
theorem c0_289 : Dc code 289 (.invokevirtual 48) 3 292 := ⟨at_289, rfl⟩
theorem c0_292 : Dil code 292 0 293 := Or.inr ⟨0, at_292, rfl, rfl⟩
theorem c0_293 : Dp code 293 1 294 := Or.inl ⟨1, at_293, by decide, rfl⟩
theorem c0_294 : Dc code 294 .iadd 1 295 := ⟨at_294, rfl⟩
theorem c0_295 : Db code 295 (.ifCond .ne) 298 302 := ⟨7, at_295, rfl, by decide, by decide⟩
theorem c0_298 : Dp code 298 1 299 := Or.inl ⟨1, at_298, by decide, rfl⟩
theorem c0_299 : Db code 299 .goto 302 303 := ⟨4, at_299, rfl, by decide, by decide⟩
theorem c0_302 : Dp code 302 0 303 := Or.inl ⟨0, at_302, by decide, rfl⟩
theorem c0_303 : Db code 303 (.if_icmp .ne) 306 310 := ⟨7, at_303, rfl, by decide, by decide⟩
theorem c0_306 : Dp code 306 1 307 := Or.inl ⟨1, at_306, by decide, rfl⟩
theorem c0_307 : Db code 307 .goto 310 311 := ⟨4, at_307, rfl, by decide, by decide⟩
theorem c0_310 : Dp code 310 0 311 := Or.inl ⟨0, at_310, by decide, rfl⟩
theorem c0_311 : Dis code 311 19 313 := Or.inl ⟨at_311, rfl⟩
theorem c0_313 : Dal code 313 17 315 := Or.inl ⟨at_313, rfl⟩
theorem c0_315 : Dal code 315 9 317 := Or.inl ⟨at_315, rfl⟩
theorem c0_317 : Dal code 317 15 319 := Or.inl ⟨at_317, rfl⟩
theorem c0_319 : Dc code 319 (.invokestatic 30) 3 322 := ⟨at_319, rfl⟩
theorem c0_322 : Dal code 322 15 324 := Or.inl ⟨at_322, rfl⟩
theorem c0_324 : Dc code 324 (.getfield 26) 3 327 := ⟨at_324, rfl⟩
theorem c0_327 : Dil code 327 0 328 := Or.inr ⟨0, at_327, rfl, rfl⟩
theorem c0_328 : Dp code 328 2 329 := Or.inl ⟨2, at_328, by decide, rfl⟩
theorem c0_329 : Dc code 329 .iadd 1 330 := ⟨at_329, rfl⟩
theorem c0_330 : Db code 330 (.if_icmp .ne) 333 418 := ⟨88, at_330, rfl, by decide, by decide⟩
theorem c0_333 : Dal code 333 9 335 := Or.inl ⟨at_333, rfl⟩
theorem c0_335 : Dal code 335 17 337 := Or.inl ⟨at_335, rfl⟩
theorem c0_337 : Dc code 337 (.getfield 19) 3 340 := ⟨at_337, rfl⟩
theorem c0_340 : Dc code 340 (.invokevirtual 36) 3 343 := ⟨at_340, rfl⟩
theorem c0_343 : Db code 343 (.ifCond .eq) 346 418 := ⟨75, at_343, rfl, by decide, by decide⟩
theorem c0_346 : Dil code 346 16 348 := Or.inl ⟨at_346, rfl⟩
theorem c0_348 : Db code 348 (.ifCond .ne) 351 364 := ⟨16, at_348, rfl, by decide, by decide⟩
theorem c0_351 : Dal code 351 7 353 := Or.inl ⟨at_351, rfl⟩
theorem c0_353 : Dal code 353 12 355 := Or.inl ⟨at_353, rfl⟩
theorem c0_355 : Dc code 355 (.getfield 19) 3 358 := ⟨at_355, rfl⟩
theorem c0_358 : Dc code 358 (.invokevirtual 36) 3 361 := ⟨at_358, rfl⟩
theorem c0_361 : Db code 361 (.ifCond .eq) 364 418 := ⟨57, at_361, rfl, by decide, by decide⟩
theorem c0_364 : Dal code 364 17 366 := Or.inl ⟨at_364, rfl⟩
theorem c0_366 : Dc code 366 (.getfield 40) 3 369 := ⟨at_366, rfl⟩
theorem c0_369 : Dil code 369 16 371 := Or.inl ⟨at_369, rfl⟩
theorem c0_371 : Db code 371 (.ifCond .eq) 374 378 := ⟨7, at_371, rfl, by decide, by decide⟩
theorem c0_374 : Dll code 374 1 375 := Or.inr ⟨1, at_374, rfl, rfl⟩
theorem c0_375 : Db code 375 .goto 378 383 := ⟨8, at_375, rfl, by decide, by decide⟩
theorem c0_378 : Dll code 378 1 379 := Or.inr ⟨1, at_378, rfl, rfl⟩
theorem c0_379 : Dc code 379 (.ldc2_w 17) 3 382 := ⟨at_379, rfl⟩
theorem c0_382 : Dc code 382 .lxor 1 383 := ⟨at_382, rfl⟩
theorem c0_383 : Dc code 383 .lcmp 1 384 := ⟨at_383, rfl⟩
theorem c0_384 : Db code 384 (.ifCond .ne) 387 418 := ⟨34, at_384, rfl, by decide, by decide⟩
theorem c0_387 : Dal code 387 17 389 := Or.inl ⟨at_387, rfl⟩
theorem c0_389 : Dc code 389 (.getfield 44) 3 392 := ⟨at_389, rfl⟩
theorem c0_392 : Db code 392 .ifnonnull 395 418 := ⟨26, at_392, rfl, by decide, by decide⟩
theorem c0_395 : Dal code 395 15 397 := Or.inl ⟨at_395, rfl⟩
theorem c0_397 : Dc code 397 (.invokevirtual 48) 3 400 := ⟨at_397, rfl⟩
theorem c0_400 : Dil code 400 0 401 := Or.inr ⟨0, at_400, rfl, rfl⟩
theorem c0_401 : Dp code 401 2 402 := Or.inl ⟨2, at_401, by decide, rfl⟩
theorem c0_402 : Dc code 402 .iadd 1 403 := ⟨at_402, rfl⟩
theorem c0_403 : Db code 403 (.ifCond .ne) 406 410 := ⟨7, at_403, rfl, by decide, by decide⟩
theorem c0_406 : Dp code 406 1 407 := Or.inl ⟨1, at_406, by decide, rfl⟩
theorem c0_407 : Db code 407 .goto 410 411 := ⟨4, at_407, rfl, by decide, by decide⟩
theorem c0_410 : Dp code 410 0 411 := Or.inl ⟨0, at_410, by decide, rfl⟩
theorem c0_411 : Db code 411 (.if_icmp .ne) 414 418 := ⟨7, at_411, rfl, by decide, by decide⟩
theorem c0_414 : Dp code 414 1 415 := Or.inl ⟨1, at_414, by decide, rfl⟩
theorem c0_415 : Db code 415 .goto 418 419 := ⟨4, at_415, rfl, by decide, by decide⟩
theorem c0_418 : Dp code 418 0 419 := Or.inl ⟨0, at_418, by decide, rfl⟩
theorem c0_419 : Dis code 419 20 421 := Or.inl ⟨at_419, rfl⟩
theorem c0_421 : Dil code 421 19 423 := Or.inl ⟨at_421, rfl⟩
theorem c0_423 : Db code 423 (.ifCond .eq) 426 435 := ⟨12, at_423, rfl, by decide, by decide⟩
theorem c0_426 : Dil code 426 20 428 := Or.inl ⟨at_426, rfl⟩
theorem c0_428 : Db code 428 (.ifCond .eq) 431 435 := ⟨7, at_428, rfl, by decide, by decide⟩
theorem c0_431 : Dp code 431 1 432 := Or.inl ⟨1, at_431, by decide, rfl⟩
theorem c0_432 : Db code 432 .goto 435 436 := ⟨4, at_432, rfl, by decide, by decide⟩
theorem c0_435 : Dp code 435 0 436 := Or.inl ⟨0, at_435, by decide, rfl⟩
theorem c0_436 : Dc code 436 .ireturn 1 437 := ⟨at_436, rfl⟩

set_option maxRecDepth 65536 in
set_option maxHeartbeats 4000000 in
theorem rm_sc2_1 (l : Launch) (Z : State) (a0 : Array Value) (hw : ∀ d ∈ tables_1, d.before a0 Z = true) (h0 : Heap) (n0 : Nat) (M : List (Addr × Desc)) (a b : Addr) (c0 : Int32) (hc0 : ¬ 255 < c0) (P0 : Hp Z n0 h0 ((b, (.inr (.byte, "[B", [(.int 0)]))) :: (a, (.inr (.char, "[C", [(.int c0)]))) :: M)) :
    Con false l Z (⟨"java/lang/StringUTF16", "compress", "([CI[BII)I"⟩ : MethodName) jdk_52_method_21_code 7 (some .int) ({ frames := 0, cells := 0, slots := 0, locals := 0 } : Room) #[(.ref a), (.int 0), (.ref b), (.int 0), (.int 1)] h0 n0 (R1 fun w h' => w = .int 1 ∧ Hp Z n0 h' ((b, (.inr (.byte, "[B", [(.int (nar .byte c0.toInt8.toInt32))]))) :: (a, (.inr (.char, "[C", [(.int c0)]))) :: M)) := by
  refine con_of (ls := [.val (.ref a), .val (.int 0), .val (.ref b), .val (.int 0), .val (.int 1), .unset, .unset]) (plainFor_of_name pn0) rfl ?_
  refine go_push c5_0 ?_
  refine go_istore c5_1 rfl rfl ?_
  dsimp only [setl]
  refine go_iload c5_3 rfl ?_
  refine go_iload c5_5 rfl ?_
  refine go_icmp_ge c5_7 (fun q => absurd q (by decide)) (fun _ => ?_)
  refine go_aload c5_10 rfl rfl ?_
  refine go_iload c5_11 rfl ?_
  refine go_caloadH P0 (1) c5_12 rfl (by decide) rfl ?_
  refine go_istore c5_13 rfl rfl ?_
  dsimp only [setl]
  refine go_iload c5_15 rfl ?_
  refine go_push c5_17 ?_
  refine go_icmp_le c5_20 (fun _ => ?_) (fun q => absurd q hc0)
  refine go_aload c5_26 rfl rfl ?_
  refine go_iload c5_27 rfl ?_
  refine go_iload c5_28 rfl ?_
  refine go_i2b c5_30 ?_
  refine go_bastoreH P0 0 c5_31 rfl (by decide) (Nat.le_of_ble_eq_true rfl) ?_
  intro h1 P2
  dsimp only [lupd] at P2
  refine go_iincX (x' := 1) c5_32 rfl (by decide) ?_
  dsimp only [setl]
  refine go_iincX (x' := 1) c5_35 rfl (by decide) ?_
  dsimp only [setl]
  refine go_iincX (x' := 1) c5_38 rfl (by decide) ?_
  dsimp only [setl]
  refine go_goto c5_41 ?_
  refine go_iload c5_3 rfl ?_
  refine go_iload c5_5 rfl ?_
  refine go_icmp_ge c5_7 (fun _ => ?_) (fun q => absurd q (by decide))
  refine go_iload c5_44 rfl ?_
  exact go_iret rfl c5_46 (by decide) (by decide) ⟨_, rfl, rfl, P2⟩
set_option maxRecDepth 65536 in
set_option maxHeartbeats 4000000 in
theorem rm_sc1_1 (l : Launch) (Z : State) (a0 : Array Value) (hw : ∀ d ∈ tables_1, d.before a0 Z = true) (h0 : Heap) (n0 : Nat) (M : List (Addr × Desc)) (a : Addr) (c0 : Int32) (hc0 : ¬ 255 < c0) (P0 : Hp Z n0 h0 ((a, (.inr (.char, "[C", [(.int c0)]))) :: M)) :
    Con false l Z (⟨"java/lang/StringUTF16", "compress", "([CII)[B"⟩ : MethodName) jdk_52_method_16_code 6 (some (.array .byte)) ({ frames := 1, cells := 1, slots := 1, locals := 18 } : Room) #[(.ref a), (.int 0), (.int 1)] h0 n0 (R1 fun w h' => ∃ b, w = .ref b ∧ Hp Z n0 h' ((b, (.inr (.byte, "[B", [(.int (nar .byte c0.toInt8.toInt32))]))) :: (a, (.inr (.char, "[C", [(.int c0)]))) :: M)) := by
  refine con_of (ls := [.val (.ref a), .val (.int 0), .val (.int 1), .unset, .unset, .unset]) (plainFor_of_name pn0) rfl ?_
  refine go_iload c4_0 rfl ?_
  refine go_newarr (y := (⟨"java/lang/StringUTF16", "compress", "([CII)[B"⟩ : MethodName)) P0 "[B" [(.int 0)] 1 c4_1 (t19 hw) (by decide) (by decide) (by decide) (by decide) rfl rfl (by decide) (by decide) ?_
  intro h1 a3 P2
  refine go_more (k' := 1) (n' := 1) (by decide) (by decide) ?_
  refine go_astore c4_3 rfl rfl rfl ?_
  dsimp only [setl]
  refine go_aload c4_4 rfl rfl ?_
  refine go_iload c4_5 rfl ?_
  refine go_aload c4_6 rfl rfl ?_
  refine go_push c4_7 ?_
  refine go_iload c4_8 rfl ?_
  refine go_callS1 (y := (⟨"java/lang/StringUTF16", "compress", "([CII)[B"⟩ : MethodName)) (W := 0) (argsL := [(.ref a), (.int 0), (.ref a3), (.int 0), (.int 1)]) (st := []) c4_9 (rm_sc2_1 l Z a0 hw h1 n0 _ a a3 c0 hc0 P2) (t20 hw) (t21 hw) (t17 hw) (t22 hw) (by decide) (lenOf pd0 rfl) rfl rfl (by decide) (by decide) (by decide) (by decide) rfl ?_
  rintro _ h4 ⟨rfl, P5⟩
  refine go_more (k' := 1) (n' := 1) (by decide) (by decide) ?_
  refine go_istore c4_12 rfl rfl ?_
  dsimp only [setl]
  refine go_iload c4_14 rfl ?_
  refine go_iload c4_16 rfl ?_
  refine go_icmp_eq c4_17 (fun _ => ?_) (fun q => absurd q (by decide))
  refine go_aload c4_57 rfl rfl ?_
  exact go_aret rfl rfl rfl c4_58 (by decide) (by decide) ⟨_, rfl, _, rfl, P5⟩
set_option maxRecDepth 65536 in
set_option maxHeartbeats 4000000 in
theorem rm_coder_1 (l : Launch) (Z : State) (a0 : Array Value) (hw : ∀ d ∈ tables_1, d.before a0 Z = true) (h0 : Heap) (n0 : Nat) (M : List (Addr × Desc)) (b : Addr) (v0 : Int32) (P0 : Hp Z n0 h0 ((b, (.inr (.byte, "[B", [(.int v0)]))) :: M)) :
    Con false l Z (⟨"java/lang/StringUTF16", "coderFromArrayLen", "([BI)B"⟩ : MethodName) jdk_52_method_15_code 2 (some .byte) ({ frames := 0, cells := 0, slots := 0, locals := 0 } : Room) #[(.ref b), (.int 1)] h0 n0 (Ret (.int 0) h0) := by
  refine con_of (ls := [.val (.ref b), .val (.int 1)]) (plainFor_of_name pn0) rfl ?_
  refine go_iload c6_0 rfl ?_
  refine go_aload c6_1 rfl rfl ?_
  refine go_alen (z := 1) P0 (0) c6_2 rfl rfl ?_
  refine go_isub c6_3 ?_
  refine go_isI 0 (by decide) ?_
  refine go_push c6_4 ?_
  refine go_iushr c6_6 ?_
  refine go_isI 0 (by decide) ?_
  refine go_i2b c6_7 ?_
  refine go_isI 0 (by decide) ?_
  exact go_nret rfl (Or.inl rfl) c6_8 (by decide) (by decide) (by decide) ⟨_, rfl, rfl, rfl⟩
set_option maxRecDepth 65536 in
set_option maxHeartbeats 4000000 in
theorem rm_si4_1 (l : Launch) (Z : State) (a0 : Array Value) (hw : ∀ d ∈ tables_1, d.before a0 Z = true) (h0 : Heap) (n0 : Nat) (cs : Int32) (hcs : cs ≠ 0) (SC : Sta Z Z.heap "java/lang/String" "COMPACT_STRINGS" "Z" (.int cs)) (M : List (Addr × Desc)) (s a : Addr) (c0 : Int32) (hc0 : ¬ 255 < c0) (P0 : Hp Z n0 h0 ((a, (.inr (.char, "[C", [(.int c0)]))) :: (s, (.inl ("java/lang/String", [(("java/lang/String", "coder", "B"), (.int 0)), (("java/lang/String", "value", "[B"), .null)]))) :: M)) :
    Con false l Z (⟨"java/lang/String", "<init>", "([CIILjava/lang/Void;)V"⟩ : MethodName) jdk_42_method_149_code 6 none ({ frames := 2, cells := 1, slots := 1, locals := 35 } : Room) #[(.ref s), (.ref a), (.int 0), (.int 1), .null] h0 n0 (R0 fun h' => ∃ b, Hp Z n0 h' ((b, (.inr (.byte, "[B", [(.int (nar .byte c0.toInt8.toInt32))]))) :: (a, (.inr (.char, "[C", [(.int c0)]))) :: (s, (.inl ("java/lang/String", [(("java/lang/String", "coder", "B"), (.int 0)), (("java/lang/String", "value", "[B"), (.ref b))]))) :: M)) := by
  refine con_of (ls := [.val (.ref s), .val (.ref a), .val (.int 0), .val (.int 1), .val .null, .unset]) (plainFor_of_name pn1) rfl ?_
  refine go_aload c2_0 rfl rfl ?_
  refine go_initO (y := (⟨"java/lang/String", "<init>", "([CIILjava/lang/Void;)V"⟩ : MethodName)) (W := 0) c2_1 (t11 hw) (t12 hw) (t13 hw) rfl (by decide) rfl (by decide) ?_
  refine go_iload c2_4 rfl ?_
  refine go_if_ne c2_5 (fun _ => ?_) (fun q => absurd q (by decide))
  refine go_getS (y := (⟨"java/lang/String", "<init>", "([CIILjava/lang/Void;)V"⟩ : MethodName)) (host := "") c2_27 (Or.inl (t14 hw)) Via.refl (SC.ext P0.1.2) ?_
  refine go_if_eq c2_30 (fun q => absurd q hcs) (fun _ => ?_)
  refine go_aload c2_33 rfl rfl ?_
  refine go_iload c2_34 rfl ?_
  refine go_iload c2_35 rfl ?_
  refine go_callS1 (y := (⟨"java/lang/String", "<init>", "([CIILjava/lang/Void;)V"⟩ : MethodName)) (W := 0) (argsL := [(.ref a), (.int 0), (.int 1)]) (st := []) c2_36 (rm_sc1_1 l Z a0 hw h0 n0 _ a c0 hc0 P0) (t15 hw) (t16 hw) (t17 hw) (t18 hw) (by decide) (lenOf pd1 rfl) rfl rfl (by decide) (by decide) (by decide) (by decide) rfl ?_
  rintro _ h1 ⟨b3, rfl, P2⟩
  refine go_more (k' := 1) (n' := 1) (by decide) (by decide) ?_
  refine go_astore c2_39 rfl rfl rfl ?_
  dsimp only [setl]
  refine go_aload c2_41 rfl rfl ?_
  refine go_aload c2_42 rfl rfl ?_
  refine go_iload c2_44 rfl ?_
  refine go_callS1 (y := (⟨"java/lang/String", "<init>", "([CIILjava/lang/Void;)V"⟩ : MethodName)) (W := 1) (argsL := [(.ref b3), (.int 1)]) (st := [(.ref s)]) c2_45 (rm_coder_1 l Z a0 hw h1 n0 _ b3 (nar .byte c0.toInt8.toInt32) P2) (t23 hw) (t24 hw) (t17 hw) (t25 hw) (by decide) (lenOf pd2 rfl) rfl rfl (by decide) (by decide) (by decide) (by decide) rfl ?_
  rintro _ _ ⟨rfl, rfl⟩
  refine go_more (k' := 1) (n' := 1) (by decide) (by decide) ?_
  refine go_put (y := (⟨"java/lang/String", "<init>", "([CIILjava/lang/Void;)V"⟩ : MethodName)) P2 2 0 .byte c2_48 rfl rfl (t26 hw) (Or.inr ⟨(t27 hw), rfl, rfl⟩) (t2 hw) (by decide) (by decide) (by decide) ?_
  intro h4 P5
  dsimp only [lupd] at P5
  refine go_aload c2_51 rfl rfl ?_
  refine go_aload c2_52 rfl rfl ?_
  refine go_put (y := (⟨"java/lang/String", "<init>", "([CIILjava/lang/Void;)V"⟩ : MethodName)) P5 2 1 (.array .byte) c2_54 rfl rfl (t28 hw) (Or.inr ⟨(t29 hw), rfl, rfl⟩) (t2 hw) (by decide) rfl rfl ?_
  intro h6 P7
  dsimp only [lupd] at P7
  exact go_ret rfl c2_57 (by decide) (by decide) ⟨rfl, _, P7⟩
set_option maxRecDepth 65536 in
set_option maxHeartbeats 4000000 in
theorem rm_si1_1 (l : Launch) (Z : State) (a0 : Array Value) (hw : ∀ d ∈ tables_1, d.before a0 Z = true) (h0 : Heap) (n0 : Nat) (cs : Int32) (hcs : cs ≠ 0) (SC : Sta Z Z.heap "java/lang/String" "COMPACT_STRINGS" "Z" (.int cs)) (M : List (Addr × Desc)) (s a : Addr) (c0 : Int32) (hc0 : ¬ 255 < c0) (P0 : Hp Z n0 h0 ((a, (.inr (.char, "[C", [(.int c0)]))) :: (s, (.inl ("java/lang/String", [(("java/lang/String", "coder", "B"), (.int 0)), (("java/lang/String", "value", "[B"), .null)]))) :: M)) :
    Con false l Z (⟨"java/lang/String", "<init>", "([C)V"⟩ : MethodName) jdk_42_method_3_code 2 none ({ frames := 3, cells := 1, slots := 1, locals := 52 } : Room) #[(.ref s), (.ref a)] h0 n0 (R0 fun h' => ∃ b, Hp Z n0 h' ((b, (.inr (.byte, "[B", [(.int (nar .byte c0.toInt8.toInt32))]))) :: (a, (.inr (.char, "[C", [(.int c0)]))) :: (s, (.inl ("java/lang/String", [(("java/lang/String", "coder", "B"), (.int 0)), (("java/lang/String", "value", "[B"), (.ref b))]))) :: M)) := by
  refine con_of (ls := [.val (.ref s), .val (.ref a)]) (plainFor_of_name pn1) rfl ?_
  refine go_aload c1_0 rfl rfl ?_
  refine go_aload c1_1 rfl rfl ?_
  refine go_push c1_2 ?_
  refine go_aload c1_3 rfl rfl ?_
  refine go_alen (z := 1) P0 (0) c1_4 rfl rfl ?_
  refine go_null c1_5 ?_
  refine go_callN0 (y := (⟨"java/lang/String", "<init>", "([C)V"⟩ : MethodName)) (W := 0) (argsL := [(.ref a), (.int 0), (.int 1), .null]) (st := []) c1_6 rfl rfl (rm_si4_1 l Z a0 hw h0 n0 cs hcs SC _ s a c0 hc0 P0) (t7 hw) (t8 hw) (t3 hw) (t10 hw) (by decide) (lenOf pd3 rfl) rfl rfl (by decide) (by decide) (by decide) (by decide) rfl ?_
  rintro h1 ⟨b3, P2⟩
  refine go_more (k' := 1) (n' := 1) (by decide) (by decide) ?_
  exact go_ret rfl c1_9 (by decide) (by decide) ⟨rfl, _, P2⟩
set_option maxRecDepth 65536 in
set_option maxHeartbeats 4000000 in
theorem rm_sc2_2 (l : Launch) (Z : State) (a0 : Array Value) (hw : ∀ d ∈ tables_1, d.before a0 Z = true) (h0 : Heap) (n0 : Nat) (M : List (Addr × Desc)) (a b : Addr) (c0 c1 : Int32) (hc0 : ¬ 255 < c0) (hc1 : ¬ 255 < c1) (P0 : Hp Z n0 h0 ((b, (.inr (.byte, "[B", [(.int 0), (.int 0)]))) :: (a, (.inr (.char, "[C", [(.int c0), (.int c1)]))) :: M)) :
    Con false l Z (⟨"java/lang/StringUTF16", "compress", "([CI[BII)I"⟩ : MethodName) jdk_52_method_21_code 7 (some .int) ({ frames := 0, cells := 0, slots := 0, locals := 0 } : Room) #[(.ref a), (.int 0), (.ref b), (.int 0), (.int 2)] h0 n0 (R1 fun w h' => w = .int 2 ∧ Hp Z n0 h' ((b, (.inr (.byte, "[B", [(.int (nar .byte c0.toInt8.toInt32)), (.int (nar .byte c1.toInt8.toInt32))]))) :: (a, (.inr (.char, "[C", [(.int c0), (.int c1)]))) :: M)) := by
  refine con_of (ls := [.val (.ref a), .val (.int 0), .val (.ref b), .val (.int 0), .val (.int 2), .unset, .unset]) (plainFor_of_name pn0) rfl ?_
  refine go_push c5_0 ?_
  refine go_istore c5_1 rfl rfl ?_
  dsimp only [setl]
  refine go_iload c5_3 rfl ?_
  refine go_iload c5_5 rfl ?_
  refine go_icmp_ge c5_7 (fun q => absurd q (by decide)) (fun _ => ?_)
  refine go_aload c5_10 rfl rfl ?_
  refine go_iload c5_11 rfl ?_
  refine go_caloadH P0 (1) c5_12 rfl (by decide) rfl ?_
  refine go_istore c5_13 rfl rfl ?_
  dsimp only [setl]
  refine go_iload c5_15 rfl ?_
  refine go_push c5_17 ?_
  refine go_icmp_le c5_20 (fun _ => ?_) (fun q => absurd q hc0)
  refine go_aload c5_26 rfl rfl ?_
  refine go_iload c5_27 rfl ?_
  refine go_iload c5_28 rfl ?_
  refine go_i2b c5_30 ?_
  refine go_bastoreH P0 0 c5_31 rfl (by decide) (Nat.le_of_ble_eq_true rfl) ?_
  intro h1 P2
  dsimp only [lupd] at P2
  refine go_iincX (x' := 1) c5_32 rfl (by decide) ?_
  dsimp only [setl]
  refine go_iincX (x' := 1) c5_35 rfl (by decide) ?_
  dsimp only [setl]
  refine go_iincX (x' := 1) c5_38 rfl (by decide) ?_
  dsimp only [setl]
  refine go_goto c5_41 ?_
  refine go_iload c5_3 rfl ?_
  refine go_iload c5_5 rfl ?_
  refine go_icmp_ge c5_7 (fun q => absurd q (by decide)) (fun _ => ?_)
  refine go_aload c5_10 rfl rfl ?_
  refine go_iload c5_11 rfl ?_
  refine go_caloadH P2 (1) c5_12 rfl (by decide) rfl ?_
  refine go_istore c5_13 rfl rfl ?_
  dsimp only [setl]
  refine go_iload c5_15 rfl ?_
  refine go_push c5_17 ?_
  refine go_icmp_le c5_20 (fun _ => ?_) (fun q => absurd q hc1)
  refine go_aload c5_26 rfl rfl ?_
  refine go_iload c5_27 rfl ?_
  refine go_iload c5_28 rfl ?_
  refine go_i2b c5_30 ?_
  refine go_bastoreH P2 0 c5_31 rfl (by decide) (Nat.le_of_ble_eq_true rfl) ?_
  intro h3 P4
  dsimp only [lupd] at P4
  refine go_iincX (x' := 2) c5_32 rfl (by decide) ?_
  dsimp only [setl]
  refine go_iincX (x' := 2) c5_35 rfl (by decide) ?_
  dsimp only [setl]
  refine go_iincX (x' := 2) c5_38 rfl (by decide) ?_
  dsimp only [setl]
  refine go_goto c5_41 ?_
  refine go_iload c5_3 rfl ?_
  refine go_iload c5_5 rfl ?_
  refine go_icmp_ge c5_7 (fun _ => ?_) (fun q => absurd q (by decide))
  refine go_iload c5_44 rfl ?_
  exact go_iret rfl c5_46 (by decide) (by decide) ⟨_, rfl, rfl, P4⟩
set_option maxRecDepth 65536 in
set_option maxHeartbeats 4000000 in
theorem rm_sc1_2 (l : Launch) (Z : State) (a0 : Array Value) (hw : ∀ d ∈ tables_1, d.before a0 Z = true) (h0 : Heap) (n0 : Nat) (M : List (Addr × Desc)) (a : Addr) (c0 c1 : Int32) (hc0 : ¬ 255 < c0) (hc1 : ¬ 255 < c1) (P0 : Hp Z n0 h0 ((a, (.inr (.char, "[C", [(.int c0), (.int c1)]))) :: M)) :
    Con false l Z (⟨"java/lang/StringUTF16", "compress", "([CII)[B"⟩ : MethodName) jdk_52_method_16_code 6 (some (.array .byte)) ({ frames := 1, cells := 1, slots := 2, locals := 18 } : Room) #[(.ref a), (.int 0), (.int 2)] h0 n0 (R1 fun w h' => ∃ b, w = .ref b ∧ Hp Z n0 h' ((b, (.inr (.byte, "[B", [(.int (nar .byte c0.toInt8.toInt32)), (.int (nar .byte c1.toInt8.toInt32))]))) :: (a, (.inr (.char, "[C", [(.int c0), (.int c1)]))) :: M)) := by
  refine con_of (ls := [.val (.ref a), .val (.int 0), .val (.int 2), .unset, .unset, .unset]) (plainFor_of_name pn0) rfl ?_
  refine go_iload c4_0 rfl ?_
  refine go_newarr (y := (⟨"java/lang/StringUTF16", "compress", "([CII)[B"⟩ : MethodName)) P0 "[B" [(.int 0), (.int 0)] 2 c4_1 (t19 hw) (by decide) (by decide) (by decide) (by decide) rfl rfl (by decide) (by decide) ?_
  intro h1 a3 P2
  refine go_more (k' := 1) (n' := 2) (by decide) (by decide) ?_
  refine go_astore c4_3 rfl rfl rfl ?_
  dsimp only [setl]
  refine go_aload c4_4 rfl rfl ?_
  refine go_iload c4_5 rfl ?_
  refine go_aload c4_6 rfl rfl ?_
  refine go_push c4_7 ?_
  refine go_iload c4_8 rfl ?_
  refine go_callS1 (y := (⟨"java/lang/StringUTF16", "compress", "([CII)[B"⟩ : MethodName)) (W := 0) (argsL := [(.ref a), (.int 0), (.ref a3), (.int 0), (.int 2)]) (st := []) c4_9 (rm_sc2_2 l Z a0 hw h1 n0 _ a a3 c0 c1 hc0 hc1 P2) (t20 hw) (t21 hw) (t17 hw) (t22 hw) (by decide) (lenOf pd0 rfl) rfl rfl (by decide) (by decide) (by decide) (by decide) rfl ?_
  rintro _ h4 ⟨rfl, P5⟩
  refine go_more (k' := 1) (n' := 2) (by decide) (by decide) ?_
  refine go_istore c4_12 rfl rfl ?_
  dsimp only [setl]
  refine go_iload c4_14 rfl ?_
  refine go_iload c4_16 rfl ?_
  refine go_icmp_eq c4_17 (fun _ => ?_) (fun q => absurd q (by decide))
  refine go_aload c4_57 rfl rfl ?_
  exact go_aret rfl rfl rfl c4_58 (by decide) (by decide) ⟨_, rfl, _, rfl, P5⟩
set_option maxRecDepth 65536 in
set_option maxHeartbeats 4000000 in
theorem rm_coder_2 (l : Launch) (Z : State) (a0 : Array Value) (hw : ∀ d ∈ tables_1, d.before a0 Z = true) (h0 : Heap) (n0 : Nat) (M : List (Addr × Desc)) (b : Addr) (v0 v1 : Int32) (P0 : Hp Z n0 h0 ((b, (.inr (.byte, "[B", [(.int v0), (.int v1)]))) :: M)) :
    Con false l Z (⟨"java/lang/StringUTF16", "coderFromArrayLen", "([BI)B"⟩ : MethodName) jdk_52_method_15_code 2 (some .byte) ({ frames := 0, cells := 0, slots := 0, locals := 0 } : Room) #[(.ref b), (.int 2)] h0 n0 (Ret (.int 0) h0) := by
  refine con_of (ls := [.val (.ref b), .val (.int 2)]) (plainFor_of_name pn0) rfl ?_
  refine go_iload c6_0 rfl ?_
  refine go_aload c6_1 rfl rfl ?_
  refine go_alen (z := 2) P0 (0) c6_2 rfl rfl ?_
  refine go_isub c6_3 ?_
  refine go_isI 0 (by decide) ?_
  refine go_push c6_4 ?_
  refine go_iushr c6_6 ?_
  refine go_isI 0 (by decide) ?_
  refine go_i2b c6_7 ?_
  refine go_isI 0 (by decide) ?_
  exact go_nret rfl (Or.inl rfl) c6_8 (by decide) (by decide) (by decide) ⟨_, rfl, rfl, rfl⟩
set_option maxRecDepth 65536 in
set_option maxHeartbeats 4000000 in
theorem rm_si4_2 (l : Launch) (Z : State) (a0 : Array Value) (hw : ∀ d ∈ tables_1, d.before a0 Z = true) (h0 : Heap) (n0 : Nat) (cs : Int32) (hcs : cs ≠ 0) (SC : Sta Z Z.heap "java/lang/String" "COMPACT_STRINGS" "Z" (.int cs)) (M : List (Addr × Desc)) (s a : Addr) (c0 c1 : Int32) (hc0 : ¬ 255 < c0) (hc1 : ¬ 255 < c1) (P0 : Hp Z n0 h0 ((a, (.inr (.char, "[C", [(.int c0), (.int c1)]))) :: (s, (.inl ("java/lang/String", [(("java/lang/String", "coder", "B"), (.int 0)), (("java/lang/String", "value", "[B"), .null)]))) :: M)) :
    Con false l Z (⟨"java/lang/String", "<init>", "([CIILjava/lang/Void;)V"⟩ : MethodName) jdk_42_method_149_code 6 none ({ frames := 2, cells := 1, slots := 2, locals := 35 } : Room) #[(.ref s), (.ref a), (.int 0), (.int 2), .null] h0 n0 (R0 fun h' => ∃ b, Hp Z n0 h' ((b, (.inr (.byte, "[B", [(.int (nar .byte c0.toInt8.toInt32)), (.int (nar .byte c1.toInt8.toInt32))]))) :: (a, (.inr (.char, "[C", [(.int c0), (.int c1)]))) :: (s, (.inl ("java/lang/String", [(("java/lang/String", "coder", "B"), (.int 0)), (("java/lang/String", "value", "[B"), (.ref b))]))) :: M)) := by
  refine con_of (ls := [.val (.ref s), .val (.ref a), .val (.int 0), .val (.int 2), .val .null, .unset]) (plainFor_of_name pn1) rfl ?_
  refine go_aload c2_0 rfl rfl ?_
  refine go_initO (y := (⟨"java/lang/String", "<init>", "([CIILjava/lang/Void;)V"⟩ : MethodName)) (W := 0) c2_1 (t11 hw) (t12 hw) (t13 hw) rfl (by decide) rfl (by decide) ?_
  refine go_iload c2_4 rfl ?_
  refine go_if_ne c2_5 (fun _ => ?_) (fun q => absurd q (by decide))
  refine go_getS (y := (⟨"java/lang/String", "<init>", "([CIILjava/lang/Void;)V"⟩ : MethodName)) (host := "") c2_27 (Or.inl (t14 hw)) Via.refl (SC.ext P0.1.2) ?_
  refine go_if_eq c2_30 (fun q => absurd q hcs) (fun _ => ?_)
  refine go_aload c2_33 rfl rfl ?_
  refine go_iload c2_34 rfl ?_
  refine go_iload c2_35 rfl ?_
  refine go_callS1 (y := (⟨"java/lang/String", "<init>", "([CIILjava/lang/Void;)V"⟩ : MethodName)) (W := 0) (argsL := [(.ref a), (.int 0), (.int 2)]) (st := []) c2_36 (rm_sc1_2 l Z a0 hw h0 n0 _ a c0 c1 hc0 hc1 P0) (t15 hw) (t16 hw) (t17 hw) (t18 hw) (by decide) (lenOf pd1 rfl) rfl rfl (by decide) (by decide) (by decide) (by decide) rfl ?_
  rintro _ h1 ⟨b3, rfl, P2⟩
  refine go_more (k' := 1) (n' := 2) (by decide) (by decide) ?_
  refine go_astore c2_39 rfl rfl rfl ?_
  dsimp only [setl]
  refine go_aload c2_41 rfl rfl ?_
  refine go_aload c2_42 rfl rfl ?_
  refine go_iload c2_44 rfl ?_
  refine go_callS1 (y := (⟨"java/lang/String", "<init>", "([CIILjava/lang/Void;)V"⟩ : MethodName)) (W := 1) (argsL := [(.ref b3), (.int 2)]) (st := [(.ref s)]) c2_45 (rm_coder_2 l Z a0 hw h1 n0 _ b3 (nar .byte c0.toInt8.toInt32) (nar .byte c1.toInt8.toInt32) P2) (t23 hw) (t24 hw) (t17 hw) (t25 hw) (by decide) (lenOf pd2 rfl) rfl rfl (by decide) (by decide) (by decide) (by decide) rfl ?_
  rintro _ _ ⟨rfl, rfl⟩
  refine go_more (k' := 1) (n' := 2) (by decide) (by decide) ?_
  refine go_put (y := (⟨"java/lang/String", "<init>", "([CIILjava/lang/Void;)V"⟩ : MethodName)) P2 2 0 .byte c2_48 rfl rfl (t26 hw) (Or.inr ⟨(t27 hw), rfl, rfl⟩) (t2 hw) (by decide) (by decide) (by decide) ?_
  intro h4 P5
  dsimp only [lupd] at P5
  refine go_aload c2_51 rfl rfl ?_
  refine go_aload c2_52 rfl rfl ?_
  refine go_put (y := (⟨"java/lang/String", "<init>", "([CIILjava/lang/Void;)V"⟩ : MethodName)) P5 2 1 (.array .byte) c2_54 rfl rfl (t28 hw) (Or.inr ⟨(t29 hw), rfl, rfl⟩) (t2 hw) (by decide) rfl rfl ?_
  intro h6 P7
  dsimp only [lupd] at P7
  exact go_ret rfl c2_57 (by decide) (by decide) ⟨rfl, _, P7⟩
set_option maxRecDepth 65536 in
set_option maxHeartbeats 4000000 in
theorem rm_si1_2 (l : Launch) (Z : State) (a0 : Array Value) (hw : ∀ d ∈ tables_1, d.before a0 Z = true) (h0 : Heap) (n0 : Nat) (cs : Int32) (hcs : cs ≠ 0) (SC : Sta Z Z.heap "java/lang/String" "COMPACT_STRINGS" "Z" (.int cs)) (M : List (Addr × Desc)) (s a : Addr) (c0 c1 : Int32) (hc0 : ¬ 255 < c0) (hc1 : ¬ 255 < c1) (P0 : Hp Z n0 h0 ((a, (.inr (.char, "[C", [(.int c0), (.int c1)]))) :: (s, (.inl ("java/lang/String", [(("java/lang/String", "coder", "B"), (.int 0)), (("java/lang/String", "value", "[B"), .null)]))) :: M)) :
    Con false l Z (⟨"java/lang/String", "<init>", "([C)V"⟩ : MethodName) jdk_42_method_3_code 2 none ({ frames := 3, cells := 1, slots := 2, locals := 52 } : Room) #[(.ref s), (.ref a)] h0 n0 (R0 fun h' => ∃ b, Hp Z n0 h' ((b, (.inr (.byte, "[B", [(.int (nar .byte c0.toInt8.toInt32)), (.int (nar .byte c1.toInt8.toInt32))]))) :: (a, (.inr (.char, "[C", [(.int c0), (.int c1)]))) :: (s, (.inl ("java/lang/String", [(("java/lang/String", "coder", "B"), (.int 0)), (("java/lang/String", "value", "[B"), (.ref b))]))) :: M)) := by
  refine con_of (ls := [.val (.ref s), .val (.ref a)]) (plainFor_of_name pn1) rfl ?_
  refine go_aload c1_0 rfl rfl ?_
  refine go_aload c1_1 rfl rfl ?_
  refine go_push c1_2 ?_
  refine go_aload c1_3 rfl rfl ?_
  refine go_alen (z := 2) P0 (0) c1_4 rfl rfl ?_
  refine go_null c1_5 ?_
  refine go_callN0 (y := (⟨"java/lang/String", "<init>", "([C)V"⟩ : MethodName)) (W := 0) (argsL := [(.ref a), (.int 0), (.int 2), .null]) (st := []) c1_6 rfl rfl (rm_si4_2 l Z a0 hw h0 n0 cs hcs SC _ s a c0 c1 hc0 hc1 P0) (t7 hw) (t8 hw) (t3 hw) (t10 hw) (by decide) (lenOf pd3 rfl) rfl rfl (by decide) (by decide) (by decide) (by decide) rfl ?_
  rintro h1 ⟨b3, P2⟩
  refine go_more (k' := 1) (n' := 2) (by decide) (by decide) ?_
  exact go_ret rfl c1_9 (by decide) (by decide) ⟨rfl, _, P2⟩
set_option maxRecDepth 65536 in
set_option maxHeartbeats 4000000 in
theorem rm_ac (l : Launch) (Z : State) (a0 : Array Value) (hw : ∀ d ∈ tables_1, d.before a0 Z = true) (h0 : Heap) (n0 : Nat) (a : Addr) :
    Con false l Z (⟨"java/util/AbstractCollection", "<init>", "()V"⟩ : MethodName) jdk_22_method_1_code 1 none ({ frames := 1, cells := 0, slots := 0, locals := 12 } : Room) #[(.ref a)] h0 n0 (R0 fun h' => h0 = h') := by
  refine con_of (ls := [.val (.ref a)]) (plainFor_of_name pn2) rfl ?_
  refine go_aload c10_0 rfl rfl ?_
  refine go_initO (y := (⟨"java/util/AbstractCollection", "<init>", "()V"⟩ : MethodName)) (W := 0) c10_1 (t55 hw) (t12 hw) (t13 hw) rfl (by decide) rfl (by decide) ?_
  exact go_ret rfl c10_4 (by decide) (by decide) ⟨rfl, rfl⟩
set_option maxRecDepth 65536 in
set_option maxHeartbeats 4000000 in
theorem rm_as (l : Launch) (Z : State) (a0 : Array Value) (hw : ∀ d ∈ tables_1, d.before a0 Z = true) (h0 : Heap) (n0 : Nat) (a : Addr) :
    Con false l Z (⟨"java/util/AbstractSet", "<init>", "()V"⟩ : MethodName) jdk_91_method_1_code 1 none ({ frames := 2, cells := 0, slots := 0, locals := 24 } : Room) #[(.ref a)] h0 n0 (R0 fun h' => h0 = h') := by
  refine con_of (ls := [.val (.ref a)]) (plainFor_of_name pn3) rfl ?_
  refine go_aload c9_0 rfl rfl ?_
  refine go_callN0 (y := (⟨"java/util/AbstractSet", "<init>", "()V"⟩ : MethodName)) (W := 0) (argsL := []) (st := []) c9_1 rfl rfl (rm_ac l Z a0 hw h0 n0 a) (t49 hw) (t50 hw) (t53 hw) (t54 hw) (by decide) (lenOf pd4 rfl) rfl rfl (by decide) (by decide) (by decide) (by decide) rfl ?_
  rintro _ rfl
  refine go_more (k' := 0) (n' := 0) (by decide) (by decide) ?_
  exact go_ret rfl c9_4 (by decide) (by decide) ⟨rfl, rfl⟩
set_option maxRecDepth 65536 in
set_option maxHeartbeats 4000000 in
theorem rm_am (l : Launch) (Z : State) (a0 : Array Value) (hw : ∀ d ∈ tables_1, d.before a0 Z = true) (h0 : Heap) (n0 : Nat) (a : Addr) :
    Con false l Z (⟨"java/util/AbstractMap", "<init>", "()V"⟩ : MethodName) jdk_71_method_1_code 1 none ({ frames := 1, cells := 0, slots := 0, locals := 12 } : Room) #[(.ref a)] h0 n0 (R0 fun h' => h0 = h') := by
  refine con_of (ls := [.val (.ref a)]) (plainFor_of_name pn4) rfl ?_
  refine go_aload c12_0 rfl rfl ?_
  refine go_initO (y := (⟨"java/util/AbstractMap", "<init>", "()V"⟩ : MethodName)) (W := 0) c12_1 (t69 hw) (t12 hw) (t13 hw) rfl (by decide) rfl (by decide) ?_
  exact go_ret rfl c12_4 (by decide) (by decide) ⟨rfl, rfl⟩
set_option maxRecDepth 65536 in
set_option maxHeartbeats 4000000 in
theorem rm_alA (l : Launch) (Z : State) (a0 : Array Value) (hw : ∀ d ∈ tables_1, d.before a0 Z = true) (h0 : Heap) (n0 : Nat) (a : Addr) (M : List (Addr × Desc)) (P0 : Hp Z n0 h0 ((a, (.inl ("java/util/ArrayList", [(("java/util/AbstractList", "modCount", "I"), (.int 0)), (("java/util/ArrayList", "elementData", "[Ljava/lang/Object;"), .null), (("java/util/ArrayList", "size", "I"), (.int 0))]))) :: M)) :
    Con false l Z (⟨"java/util/AbstractList", "<init>", "()V"⟩ : MethodName) jdk_39_method_1_code 1 none ({ frames := 2, cells := 0, slots := 0, locals := 24 } : Room) #[(.ref a)] h0 n0 (R0 fun h' => Hp Z n0 h' ((a, (.inl ("java/util/ArrayList", [(("java/util/AbstractList", "modCount", "I"), (.int 0)), (("java/util/ArrayList", "elementData", "[Ljava/lang/Object;"), .null), (("java/util/ArrayList", "size", "I"), (.int 0))]))) :: M)) := by
  refine con_of (ls := [.val (.ref a)]) (plainFor_of_name pn5) rfl ?_
  refine go_aload c15_0 rfl rfl ?_
  refine go_callN0 (y := (⟨"java/util/AbstractList", "<init>", "()V"⟩ : MethodName)) (W := 0) (argsL := []) (st := []) c15_1 rfl rfl (rm_ac l Z a0 hw h0 n0 a) (t101 hw) (t50 hw) (t53 hw) (t54 hw) (by decide) (lenOf pd4 rfl) rfl rfl (by decide) (by decide) (by decide) (by decide) rfl ?_
  rintro _ rfl
  refine go_more (k' := 0) (n' := 0) (by decide) (by decide) ?_
  refine go_aload c15_4 rfl rfl ?_
  refine go_push c15_5 ?_
  refine go_put (y := (⟨"java/util/AbstractList", "<init>", "()V"⟩ : MethodName)) P0 0 0 .int c15_6 rfl rfl (t103 hw) (Or.inl (t104 hw)) (t90 hw) (by decide) rfl rfl ?_
  intro h1 P2
  dsimp only [lupd] at P2
  exact go_ret rfl c15_9 (by decide) (by decide) ⟨rfl, P2⟩
set_option maxRecDepth 65536 in
set_option maxHeartbeats 4000000 in
theorem rm_alW (l : Launch) (Z : State) (a0 : Array Value) (hw : ∀ d ∈ tables_1, d.before a0 Z = true) (h0 : Heap) (n0 : Nat) (a : Addr) (M : List (Addr × Desc)) (P0 : Hp Z n0 h0 ((a, (.inl ("com/example/velvet_rope/velvetrope/lock/WaitingQueue", [(("java/util/AbstractList", "modCount", "I"), (.int 0)), (("com/example/velvet_rope/velvetrope/lock/QueueList", "elements", "[Ljava/lang/Object;"), .null), (("com/example/velvet_rope/velvetrope/lock/QueueList", "end", "I"), (.int 0)), (("com/example/velvet_rope/velvetrope/lock/QueueList", "start", "I"), (.int 0))]))) :: M)) :
    Con false l Z (⟨"java/util/AbstractList", "<init>", "()V"⟩ : MethodName) jdk_39_method_1_code 1 none ({ frames := 2, cells := 0, slots := 0, locals := 24 } : Room) #[(.ref a)] h0 n0 (R0 fun h' => Hp Z n0 h' ((a, (.inl ("com/example/velvet_rope/velvetrope/lock/WaitingQueue", [(("java/util/AbstractList", "modCount", "I"), (.int 0)), (("com/example/velvet_rope/velvetrope/lock/QueueList", "elements", "[Ljava/lang/Object;"), .null), (("com/example/velvet_rope/velvetrope/lock/QueueList", "end", "I"), (.int 0)), (("com/example/velvet_rope/velvetrope/lock/QueueList", "start", "I"), (.int 0))]))) :: M)) := by
  refine con_of (ls := [.val (.ref a)]) (plainFor_of_name pn5) rfl ?_
  refine go_aload c15_0 rfl rfl ?_
  refine go_callN0 (y := (⟨"java/util/AbstractList", "<init>", "()V"⟩ : MethodName)) (W := 0) (argsL := []) (st := []) c15_1 rfl rfl (rm_ac l Z a0 hw h0 n0 a) (t101 hw) (t50 hw) (t53 hw) (t54 hw) (by decide) (lenOf pd4 rfl) rfl rfl (by decide) (by decide) (by decide) (by decide) rfl ?_
  rintro _ rfl
  refine go_more (k' := 0) (n' := 0) (by decide) (by decide) ?_
  refine go_aload c15_4 rfl rfl ?_
  refine go_push c15_5 ?_
  refine go_put (y := (⟨"java/util/AbstractList", "<init>", "()V"⟩ : MethodName)) P0 0 0 .int c15_6 rfl rfl (t103 hw) (Or.inl (t124 hw)) (t112 hw) (by decide) rfl rfl ?_
  intro h1 P2
  dsimp only [lupd] at P2
  exact go_ret rfl c15_9 (by decide) (by decide) ⟨rfl, P2⟩
set_option maxRecDepth 65536 in
set_option maxHeartbeats 4000000 in
theorem rm_hm (l : Launch) (Z : State) (a0 : Array Value) (hw : ∀ d ∈ tables_1, d.before a0 Z = true) (h0 : Heap) (n0 : Nat) (a : Addr) (M : List (Addr × Desc)) (P0 : Hp Z n0 h0 ((a, (.inl ("java/util/HashMap", [(("java/util/HashMap", "loadFactor", "F"), (.float 0))]))) :: M)) :
    Con false l Z (⟨"java/util/HashMap", "<init>", "()V"⟩ : MethodName) jdk_69_method_7_code 1 none ({ frames := 2, cells := 0, slots := 0, locals := 24 } : Room) #[(.ref a)] h0 n0 (R0 fun h' => Hp Z n0 h' ((a, (.inl ("java/util/HashMap", [(("java/util/HashMap", "loadFactor", "F"), (.float 1061158912))]))) :: M)) := by
  refine con_of (ls := [.val (.ref a)]) (plainFor_of_name pn6) rfl ?_
  refine go_aload c11_0 rfl rfl ?_
  refine go_callN0 (y := (⟨"java/util/HashMap", "<init>", "()V"⟩ : MethodName)) (W := 0) (argsL := []) (st := []) c11_1 rfl rfl (rm_am l Z a0 hw h0 n0 a) (t63 hw) (t64 hw) (t67 hw) (t68 hw) (by decide) (lenOf pd4 rfl) rfl rfl (by decide) (by decide) (by decide) (by decide) rfl ?_
  rintro _ rfl
  refine go_more (k' := 0) (n' := 0) (by decide) (by decide) ?_
  refine go_aload c11_4 rfl rfl ?_
  refine go_ldcF (y := (⟨"java/util/HashMap", "<init>", "()V"⟩ : MethodName)) c11_5 (t70 hw) ?_
  refine go_put (y := (⟨"java/util/HashMap", "<init>", "()V"⟩ : MethodName)) P0 0 0 .float c11_7 rfl rfl (t71 hw) (Or.inr ⟨(t72 hw), rfl, rfl⟩) (t57 hw) (by decide) rfl rfl ?_
  intro h1 P2
  dsimp only [lupd] at P2
  exact go_ret rfl c11_10 (by decide) (by decide) ⟨rfl, P2⟩
set_option maxRecDepth 65536 in
set_option maxHeartbeats 4000000 in
theorem rm_hs (l : Launch) (Z : State) (a0 : Array Value) (hw : ∀ d ∈ tables_1, d.before a0 Z = true) (h0 : Heap) (n0 : Nat) (a : Addr) (M : List (Addr × Desc)) (P0 : Hp Z n0 h0 ((a, (.inl ("java/util/HashSet", [(("java/util/HashSet", "map", "Ljava/util/HashMap;"), .null)]))) :: M)) :
    Con false l Z (⟨"java/util/HashSet", "<init>", "()V"⟩ : MethodName) jdk_93_method_1_code 1 none ({ frames := 3, cells := 1, slots := 8, locals := 38 } : Room) #[(.ref a)] h0 n0 (R0 fun h' => ∃ m, Hp Z n0 h' ((m, (.inl ("java/util/HashMap", [(("java/util/HashMap", "loadFactor", "F"), (.float 1061158912))]))) :: (a, (.inl ("java/util/HashSet", [(("java/util/HashSet", "map", "Ljava/util/HashMap;"), (.ref m))]))) :: M)) := by
  refine con_of (ls := [.val (.ref a)]) (plainFor_of_name pn7) rfl ?_
  refine go_aload c8_0 rfl rfl ?_
  refine go_callN0 (y := (⟨"java/util/HashSet", "<init>", "()V"⟩ : MethodName)) (W := 0) (argsL := []) (st := []) c8_1 rfl rfl (rm_as l Z a0 hw h0 n0 a) (t43 hw) (t44 hw) (t47 hw) (t48 hw) (by decide) (lenOf pd4 rfl) rfl rfl (by decide) (by decide) (by decide) (by decide) rfl ?_
  rintro _ rfl
  refine go_more (k' := 0) (n' := 0) (by decide) (by decide) ?_
  refine go_aload c8_4 rfl rfl ?_
  refine go_new (y := (⟨"java/util/HashSet", "<init>", "()V"⟩ : MethodName)) P0 [(("java/util/HashMap", "loadFactor", "F"), (.float 0))] c8_5 (t56 hw) (t57 hw) (t58 hw) (⟨⟨Or.inr (t72 hw), .float, by decide, rfl⟩, trivial⟩) (by decide) (by decide) (by decide) ?_
  intro h1 a3 P2
  refine go_more (k' := 1) (n' := 8) (by decide) (by decide) ?_
  refine go_dup c8_8 rfl ?_
  have P4 : Hp Z n0 h1 ((a3, (.inl ("java/util/HashMap", [(("java/util/HashMap", "loadFactor", "F"), (.float 0))]))) :: (a, (.inl ("java/util/HashSet", [(("java/util/HashSet", "map", "Ljava/util/HashMap;"), .null)]))) :: M) := (P2.front 0)
  refine go_callN0 (y := (⟨"java/util/HashSet", "<init>", "()V"⟩ : MethodName)) (W := 2) (argsL := []) (st := [(.ref a3), (.ref a)]) c8_9 rfl rfl (rm_hm l Z a0 hw h1 n0 a3  _ P4) (t59 hw) (t60 hw) (t58 hw) (t62 hw) (by decide) (lenOf pd4 rfl) rfl rfl (by decide) (by decide) (by decide) (by decide) rfl ?_
  rintro h5 P6
  refine go_more (k' := 1) (n' := 8) (by decide) (by decide) ?_
  refine go_put (y := (⟨"java/util/HashSet", "<init>", "()V"⟩ : MethodName)) P6 1 0 (.object "java/util/HashMap") c8_12 rfl rfl (t73 hw) (Or.inl (t74 hw)) (t38 hw) (by decide) rfl rfl ?_
  intro h7 P8
  dsimp only [lupd] at P8
  exact go_ret rfl c8_15 (by decide) (by decide) ⟨rfl, _, P8⟩
set_option maxRecDepth 65536 in
set_option maxHeartbeats 4000000 in
theorem rm_tl (l : Launch) (Z : State) (a0 : Array Value) (hw : ∀ d ∈ tables_1, d.before a0 Z = true) (h0 : Heap) (n0 : Nat) (a : Addr) (b : Int64) (M : List (Addr × Desc)) (P0 : Hp Z n0 h0 ((a, (.inl ("com/example/velvet_rope/velvetrope/lock/TransactionLocks", [(("com/example/velvet_rope/velvetrope/lock/TransactionLocks", "held", "Ljava/util/Set;"), .null), (("com/example/velvet_rope/velvetrope/lock/TransactionLocks", "began", "J"), (.long 0)), (("com/example/velvet_rope/velvetrope/lock/TransactionLocks", "comingTo", "Ljava/lang/String;"), .null), (("com/example/velvet_rope/velvetrope/lock/TransactionLocks", "waiting", "Lcom/example/velvet_rope/velvetrope/lock/Request;"), .null)]))) :: M)) :
    Con false l Z (⟨"com/example/velvet_rope/velvetrope/lock/TransactionLocks", "<init>", "(J)V"⟩ : MethodName) prog_65_method_1_code 3 none ({ frames := 4, cells := 2, slots := 9, locals := 52 } : Room) #[(.ref a), (.long b)] h0 n0 (R0 fun h' => ∃ m s, Hp Z n0 h' ((m, (.inl ("java/util/HashMap", [(("java/util/HashMap", "loadFactor", "F"), (.float 1061158912))]))) :: (s, (.inl ("java/util/HashSet", [(("java/util/HashSet", "map", "Ljava/util/HashMap;"), (.ref m))]))) :: (a, (.inl ("com/example/velvet_rope/velvetrope/lock/TransactionLocks", [(("com/example/velvet_rope/velvetrope/lock/TransactionLocks", "held", "Ljava/util/Set;"), (.ref s)), (("com/example/velvet_rope/velvetrope/lock/TransactionLocks", "began", "J"), (.long b)), (("com/example/velvet_rope/velvetrope/lock/TransactionLocks", "comingTo", "Ljava/lang/String;"), .null), (("com/example/velvet_rope/velvetrope/lock/TransactionLocks", "waiting", "Lcom/example/velvet_rope/velvetrope/lock/Request;"), .null)]))) :: M)) := by
  refine con_of (ls := [.val (.ref a), .val (.long b), .second]) (plainFor_of_name pn8) rfl ?_
  refine go_aload c7_0 rfl rfl ?_
  refine go_initO (y := (⟨"com/example/velvet_rope/velvetrope/lock/TransactionLocks", "<init>", "(J)V"⟩ : MethodName)) (W := 0) c7_1 (t36 hw) (t12 hw) (t13 hw) rfl (by decide) rfl (by decide) ?_
  refine go_aload c7_4 rfl rfl ?_
  refine go_new (y := (⟨"com/example/velvet_rope/velvetrope/lock/TransactionLocks", "<init>", "(J)V"⟩ : MethodName)) P0 [(("java/util/HashSet", "map", "Ljava/util/HashMap;"), .null)] c7_5 (t37 hw) (t38 hw) (t39 hw) (⟨⟨Or.inl (t74 hw), (.object "java/util/HashMap"), by decide, rfl⟩, trivial⟩) (by decide) (by decide) (by decide) ?_
  intro h1 a3 P2
  refine go_more (k' := 1) (n' := 1) (by decide) (by decide) ?_
  refine go_dup c7_8 rfl ?_
  have P4 : Hp Z n0 h1 ((a3, (.inl ("java/util/HashSet", [(("java/util/HashSet", "map", "Ljava/util/HashMap;"), .null)]))) :: (a, (.inl ("com/example/velvet_rope/velvetrope/lock/TransactionLocks", [(("com/example/velvet_rope/velvetrope/lock/TransactionLocks", "held", "Ljava/util/Set;"), .null), (("com/example/velvet_rope/velvetrope/lock/TransactionLocks", "began", "J"), (.long 0)), (("com/example/velvet_rope/velvetrope/lock/TransactionLocks", "comingTo", "Ljava/lang/String;"), .null), (("com/example/velvet_rope/velvetrope/lock/TransactionLocks", "waiting", "Lcom/example/velvet_rope/velvetrope/lock/Request;"), .null)]))) :: M) := (P2.front 0)
  refine go_callN0 (y := (⟨"com/example/velvet_rope/velvetrope/lock/TransactionLocks", "<init>", "(J)V"⟩ : MethodName)) (W := 2) (argsL := []) (st := [(.ref a3), (.ref a)]) c7_9 rfl rfl (rm_hs l Z a0 hw h1 n0 a3  _ P4) (t40 hw) (t41 hw) (t39 hw) (t42 hw) (by decide) (lenOf pd4 rfl) rfl rfl (by decide) (by decide) (by decide) (by decide) rfl ?_
  rintro h5 ⟨e7, P6⟩
  refine go_more (k' := 2) (n' := 9) (by decide) (by decide) ?_
  refine go_put (y := (⟨"com/example/velvet_rope/velvetrope/lock/TransactionLocks", "<init>", "(J)V"⟩ : MethodName)) P6 2 0 (.object "java/util/Set") c7_12 rfl rfl (t75 hw) (Or.inr ⟨(t76 hw), rfl, rfl⟩) (t31 hw) (by decide) rfl rfl ?_
  intro h8 P9
  dsimp only [lupd] at P9
  refine go_aload c7_15 rfl rfl ?_
  refine go_lload c7_16 rfl ?_
  refine go_put (y := (⟨"com/example/velvet_rope/velvetrope/lock/TransactionLocks", "<init>", "(J)V"⟩ : MethodName)) P9 2 1 .long c7_17 rfl rfl (t77 hw) (Or.inr ⟨(t78 hw), rfl, rfl⟩) (t31 hw) (by decide) rfl rfl ?_
  intro h10 P11
  dsimp only [lupd] at P11
  exact go_ret rfl c7_20 (by decide) (by decide) ⟨rfl, _, _, P11⟩
set_option maxRecDepth 65536 in
set_option maxHeartbeats 4000000 in
theorem rm_ar (l : Launch) (Z : State) (a0 : Array Value) (hw : ∀ d ∈ tables_1, d.before a0 Z = true) (h0 : Heap) (n0 : Nat) (a : Addr) (M : List (Addr × Desc)) (P0 : Hp Z n0 h0 ((a, (.inl ("java/util/ArrayList", [(("java/util/AbstractList", "modCount", "I"), (.int 0)), (("java/util/ArrayList", "elementData", "[Ljava/lang/Object;"), .null), (("java/util/ArrayList", "size", "I"), (.int 0))]))) :: M)) :
    Con false l Z (⟨"java/util/ArrayList", "<init>", "(I)V"⟩ : MethodName) jdk_38_method_1_code 2 none ({ frames := 3, cells := 1, slots := 2, locals := 36 } : Room) #[(.ref a), (.int 2)] h0 n0 (R0 fun h' => ∃ r, Hp Z n0 h' ((r, (.inr ((.object "java/lang/Object"), "[Ljava/lang/Object;", [.null, .null]))) :: (a, (.inl ("java/util/ArrayList", [(("java/util/AbstractList", "modCount", "I"), (.int 0)), (("java/util/ArrayList", "elementData", "[Ljava/lang/Object;"), (.ref r)), (("java/util/ArrayList", "size", "I"), (.int 0))]))) :: M)) := by
  refine con_of (ls := [.val (.ref a), .val (.int 2)]) (plainFor_of_name pn9) rfl ?_
  refine go_aload c14_0 rfl rfl ?_
  have P1 : Hp Z n0 h0 ((a, (.inl ("java/util/ArrayList", [(("java/util/AbstractList", "modCount", "I"), (.int 0)), (("java/util/ArrayList", "elementData", "[Ljava/lang/Object;"), .null), (("java/util/ArrayList", "size", "I"), (.int 0))]))) :: M) := (P0.front 0)
  refine go_callN0 (y := (⟨"java/util/ArrayList", "<init>", "(I)V"⟩ : MethodName)) (W := 0) (argsL := []) (st := []) c14_1 rfl rfl (rm_alA l Z a0 hw h0 n0 a  _ P1) (t95 hw) (t96 hw) (t99 hw) (t100 hw) (by decide) (lenOf pd4 rfl) rfl rfl (by decide) (by decide) (by decide) (by decide) rfl ?_
  rintro h2 P3
  refine go_more (k' := 0) (n' := 0) (by decide) (by decide) ?_
  refine go_iload c14_4 rfl ?_
  refine go_if_le c14_5 (fun q => absurd q (by decide)) (fun _ => ?_)
  refine go_aload c14_8 rfl rfl ?_
  refine go_iload c14_9 rfl ?_
  refine go_newobjarr (y := (⟨"java/util/ArrayList", "<init>", "(I)V"⟩ : MethodName)) P3 "[Ljava/lang/Object;" [.null, .null] 2 c14_10 (t105 hw) (t106 hw) (by decide) (by decide) (by decide) (by decide) rfl (by decide) (by decide) ?_
  intro h4 a6 P5
  refine go_more (k' := 1) (n' := 2) (by decide) (by decide) ?_
  refine go_put (y := (⟨"java/util/ArrayList", "<init>", "(I)V"⟩ : MethodName)) P5 1 1 (.array (.object "java/lang/Object")) c14_13 rfl rfl (t107 hw) (Or.inl (t108 hw)) (t90 hw) (by decide) rfl rfl ?_
  intro h7 P8
  dsimp only [lupd] at P8
  refine go_goto c14_16 ?_
  exact go_ret rfl c14_60 (by decide) (by decide) ⟨rfl, _, P8⟩
set_option maxRecDepth 65536 in
set_option maxHeartbeats 4000000 in
theorem rm_ql (l : Launch) (Z : State) (a0 : Array Value) (hw : ∀ d ∈ tables_1, d.before a0 Z = true) (h0 : Heap) (n0 : Nat) (a : Addr) (ny : Addr) (SN : Sta Z Z.heap "com/example/velvet_rope/velvetrope/lock/QueueList" "NONE_YET" "[Ljava/lang/Object;" (.ref ny)) (M : List (Addr × Desc)) (P0 : Hp Z n0 h0 ((a, (.inl ("com/example/velvet_rope/velvetrope/lock/WaitingQueue", [(("java/util/AbstractList", "modCount", "I"), (.int 0)), (("com/example/velvet_rope/velvetrope/lock/QueueList", "elements", "[Ljava/lang/Object;"), .null), (("com/example/velvet_rope/velvetrope/lock/QueueList", "end", "I"), (.int 0)), (("com/example/velvet_rope/velvetrope/lock/QueueList", "start", "I"), (.int 0))]))) :: M)) :
    Con false l Z (⟨"com/example/velvet_rope/velvetrope/lock/QueueList", "<init>", "()V"⟩ : MethodName) prog_59_method_1_code 1 none ({ frames := 3, cells := 0, slots := 0, locals := 36 } : Room) #[(.ref a)] h0 n0 (R0 fun h' => Hp Z n0 h' ((a, (.inl ("com/example/velvet_rope/velvetrope/lock/WaitingQueue", [(("java/util/AbstractList", "modCount", "I"), (.int 0)), (("com/example/velvet_rope/velvetrope/lock/QueueList", "elements", "[Ljava/lang/Object;"), (.ref ny)), (("com/example/velvet_rope/velvetrope/lock/QueueList", "end", "I"), (.int 0)), (("com/example/velvet_rope/velvetrope/lock/QueueList", "start", "I"), (.int 0))]))) :: M)) := by
  refine con_of (ls := [.val (.ref a)]) (plainFor_of_name pn10) rfl ?_
  refine go_aload c17_0 rfl rfl ?_
  have P1 : Hp Z n0 h0 ((a, (.inl ("com/example/velvet_rope/velvetrope/lock/WaitingQueue", [(("java/util/AbstractList", "modCount", "I"), (.int 0)), (("com/example/velvet_rope/velvetrope/lock/QueueList", "elements", "[Ljava/lang/Object;"), .null), (("com/example/velvet_rope/velvetrope/lock/QueueList", "end", "I"), (.int 0)), (("com/example/velvet_rope/velvetrope/lock/QueueList", "start", "I"), (.int 0))]))) :: M) := (P0.front 0)
  refine go_callN0 (y := (⟨"com/example/velvet_rope/velvetrope/lock/QueueList", "<init>", "()V"⟩ : MethodName)) (W := 0) (argsL := []) (st := []) c17_1 rfl rfl (rm_alW l Z a0 hw h0 n0 a  _ P1) (t122 hw) (t96 hw) (t99 hw) (t100 hw) (by decide) (lenOf pd4 rfl) rfl rfl (by decide) (by decide) (by decide) (by decide) rfl ?_
  rintro h2 P3
  refine go_more (k' := 0) (n' := 0) (by decide) (by decide) ?_
  refine go_aload c17_4 rfl rfl ?_
  refine go_getS (y := (⟨"com/example/velvet_rope/velvetrope/lock/QueueList", "<init>", "()V"⟩ : MethodName)) (host := "") c17_5 (Or.inl (t125 hw)) Via.refl (SN.ext P3.1.2) ?_
  refine go_put (y := (⟨"com/example/velvet_rope/velvetrope/lock/QueueList", "<init>", "()V"⟩ : MethodName)) P3 0 1 (.array (.object "java/lang/Object")) c17_8 rfl rfl (t127 hw) (Or.inl (t128 hw)) (t112 hw) (by decide) rfl rfl ?_
  intro h4 P5
  dsimp only [lupd] at P5
  exact go_ret rfl c17_11 (by decide) (by decide) ⟨rfl, P5⟩
set_option maxRecDepth 65536 in
set_option maxHeartbeats 4000000 in
theorem rm_wq (l : Launch) (Z : State) (a0 : Array Value) (hw : ∀ d ∈ tables_1, d.before a0 Z = true) (h0 : Heap) (n0 : Nat) (a : Addr) (ny : Addr) (SN : Sta Z Z.heap "com/example/velvet_rope/velvetrope/lock/QueueList" "NONE_YET" "[Ljava/lang/Object;" (.ref ny)) (M : List (Addr × Desc)) (P0 : Hp Z n0 h0 ((a, (.inl ("com/example/velvet_rope/velvetrope/lock/WaitingQueue", [(("java/util/AbstractList", "modCount", "I"), (.int 0)), (("com/example/velvet_rope/velvetrope/lock/QueueList", "elements", "[Ljava/lang/Object;"), .null), (("com/example/velvet_rope/velvetrope/lock/QueueList", "end", "I"), (.int 0)), (("com/example/velvet_rope/velvetrope/lock/QueueList", "start", "I"), (.int 0))]))) :: M)) :
    Con false l Z (⟨"com/example/velvet_rope/velvetrope/lock/WaitingQueue", "<init>", "()V"⟩ : MethodName) prog_66_method_1_code 1 none ({ frames := 4, cells := 0, slots := 0, locals := 48 } : Room) #[(.ref a)] h0 n0 (R0 fun h' => Hp Z n0 h' ((a, (.inl ("com/example/velvet_rope/velvetrope/lock/WaitingQueue", [(("java/util/AbstractList", "modCount", "I"), (.int 0)), (("com/example/velvet_rope/velvetrope/lock/QueueList", "elements", "[Ljava/lang/Object;"), (.ref ny)), (("com/example/velvet_rope/velvetrope/lock/QueueList", "end", "I"), (.int 0)), (("com/example/velvet_rope/velvetrope/lock/QueueList", "start", "I"), (.int 0))]))) :: M)) := by
  refine con_of (ls := [.val (.ref a)]) (plainFor_of_name pn11) rfl ?_
  refine go_aload c16_0 rfl rfl ?_
  have P1 : Hp Z n0 h0 ((a, (.inl ("com/example/velvet_rope/velvetrope/lock/WaitingQueue", [(("java/util/AbstractList", "modCount", "I"), (.int 0)), (("com/example/velvet_rope/velvetrope/lock/QueueList", "elements", "[Ljava/lang/Object;"), .null), (("com/example/velvet_rope/velvetrope/lock/QueueList", "end", "I"), (.int 0)), (("com/example/velvet_rope/velvetrope/lock/QueueList", "start", "I"), (.int 0))]))) :: M) := (P0.front 0)
  refine go_callN0 (y := (⟨"com/example/velvet_rope/velvetrope/lock/WaitingQueue", "<init>", "()V"⟩ : MethodName)) (W := 0) (argsL := []) (st := []) c16_1 rfl rfl (rm_ql l Z a0 hw h0 n0 a ny SN _ P1) (t117 hw) (t118 hw) (t120 hw) (t121 hw) (by decide) (lenOf pd4 rfl) rfl rfl (by decide) (by decide) (by decide) (by decide) rfl ?_
  rintro h2 P3
  refine go_more (k' := 0) (n' := 0) (by decide) (by decide) ?_
  exact go_ret rfl c16_4 (by decide) (by decide) ⟨rfl, P3⟩
set_option maxRecDepth 65536 in
set_option maxHeartbeats 4000000 in
theorem rm_el (l : Launch) (Z : State) (a0 : Array Value) (hw : ∀ d ∈ tables_1, d.before a0 Z = true) (h0 : Heap) (n0 : Nat) (a : Addr) (ny : Addr) (SN : Sta Z Z.heap "com/example/velvet_rope/velvetrope/lock/QueueList" "NONE_YET" "[Ljava/lang/Object;" (.ref ny)) (M : List (Addr × Desc)) (P0 : Hp Z n0 h0 ((a, (.inl ("com/example/velvet_rope/velvetrope/lock/ElementLocks", [(("com/example/velvet_rope/velvetrope/lock/ElementLocks", "holders", "Ljava/util/List;"), .null), (("com/example/velvet_rope/velvetrope/lock/ElementLocks", "queue", "Lcom/example/velvet_rope/velvetrope/lock/WaitingQueue;"), .null), (("com/example/velvet_rope/velvetrope/lock/ElementLocks", "coming", "I"), (.int 0))]))) :: M)) :
    Con false l Z (⟨"com/example/velvet_rope/velvetrope/lock/ElementLocks", "<init>", "()V"⟩ : MethodName) prog_48_method_1_code 1 none ({ frames := 5, cells := 3, slots := 13, locals := 62 } : Room) #[(.ref a)] h0 n0 (R0 fun h' => ∃ q r lo, Hp Z n0 h' ((q, (.inl ("com/example/velvet_rope/velvetrope/lock/WaitingQueue", [(("java/util/AbstractList", "modCount", "I"), (.int 0)), (("com/example/velvet_rope/velvetrope/lock/QueueList", "elements", "[Ljava/lang/Object;"), (.ref ny)), (("com/example/velvet_rope/velvetrope/lock/QueueList", "end", "I"), (.int 0)), (("com/example/velvet_rope/velvetrope/lock/QueueList", "start", "I"), (.int 0))]))) :: (r, (.inr ((.object "java/lang/Object"), "[Ljava/lang/Object;", [.null, .null]))) :: (lo, (.inl ("java/util/ArrayList", [(("java/util/AbstractList", "modCount", "I"), (.int 0)), (("java/util/ArrayList", "elementData", "[Ljava/lang/Object;"), (.ref r)), (("java/util/ArrayList", "size", "I"), (.int 0))]))) :: (a, (.inl ("com/example/velvet_rope/velvetrope/lock/ElementLocks", [(("com/example/velvet_rope/velvetrope/lock/ElementLocks", "holders", "Ljava/util/List;"), (.ref lo)), (("com/example/velvet_rope/velvetrope/lock/ElementLocks", "queue", "Lcom/example/velvet_rope/velvetrope/lock/WaitingQueue;"), (.ref q)), (("com/example/velvet_rope/velvetrope/lock/ElementLocks", "coming", "I"), (.int 0))]))) :: M)) := by
  refine con_of (ls := [.val (.ref a)]) (plainFor_of_name pn12) rfl ?_
  refine go_aload c13_0 rfl rfl ?_
  refine go_initO (y := (⟨"com/example/velvet_rope/velvetrope/lock/ElementLocks", "<init>", "()V"⟩ : MethodName)) (W := 0) c13_1 (t88 hw) (t12 hw) (t13 hw) rfl (by decide) rfl (by decide) ?_
  refine go_aload c13_4 rfl rfl ?_
  refine go_new (y := (⟨"com/example/velvet_rope/velvetrope/lock/ElementLocks", "<init>", "()V"⟩ : MethodName)) P0 [(("java/util/AbstractList", "modCount", "I"), (.int 0)), (("java/util/ArrayList", "elementData", "[Ljava/lang/Object;"), .null), (("java/util/ArrayList", "size", "I"), (.int 0))] c13_5 (t89 hw) (t90 hw) (t91 hw) (⟨⟨Or.inl (t104 hw), .int, by decide, rfl⟩, ⟨⟨Or.inl (t108 hw), (.array (.object "java/lang/Object")), by decide, rfl⟩, ⟨⟨Or.inl (t162 hw), .int, by decide, rfl⟩, trivial⟩⟩⟩) (by decide) (by decide) (by decide) ?_
  intro h1 a3 P2
  refine go_more (k' := 1) (n' := 3) (by decide) (by decide) ?_
  refine go_dup c13_8 rfl ?_
  refine go_push c13_9 ?_
  have P4 : Hp Z n0 h1 ((a3, (.inl ("java/util/ArrayList", [(("java/util/AbstractList", "modCount", "I"), (.int 0)), (("java/util/ArrayList", "elementData", "[Ljava/lang/Object;"), .null), (("java/util/ArrayList", "size", "I"), (.int 0))]))) :: (a, (.inl ("com/example/velvet_rope/velvetrope/lock/ElementLocks", [(("com/example/velvet_rope/velvetrope/lock/ElementLocks", "holders", "Ljava/util/List;"), .null), (("com/example/velvet_rope/velvetrope/lock/ElementLocks", "queue", "Lcom/example/velvet_rope/velvetrope/lock/WaitingQueue;"), .null), (("com/example/velvet_rope/velvetrope/lock/ElementLocks", "coming", "I"), (.int 0))]))) :: M) := (P2.front 0)
  refine go_callN0 (y := (⟨"com/example/velvet_rope/velvetrope/lock/ElementLocks", "<init>", "()V"⟩ : MethodName)) (W := 2) (argsL := [(.int 2)]) (st := [(.ref a3), (.ref a)]) c13_10 rfl rfl (rm_ar l Z a0 hw h1 n0 a3  _ P4) (t92 hw) (t93 hw) (t91 hw) (t94 hw) (by decide) (lenOf pd5 rfl) rfl rfl (by decide) (by decide) (by decide) (by decide) rfl ?_
  rintro h5 ⟨e7, P6⟩
  refine go_more (k' := 2) (n' := 5) (by decide) (by decide) ?_
  refine go_put (y := (⟨"com/example/velvet_rope/velvetrope/lock/ElementLocks", "<init>", "()V"⟩ : MethodName)) P6 2 0 (.object "java/util/List") c13_13 rfl rfl (t109 hw) (Or.inr ⟨(t110 hw), rfl, rfl⟩) (t83 hw) (by decide) rfl rfl ?_
  intro h8 P9
  dsimp only [lupd] at P9
  refine go_aload c13_16 rfl rfl ?_
  refine go_new (y := (⟨"com/example/velvet_rope/velvetrope/lock/ElementLocks", "<init>", "()V"⟩ : MethodName)) P9 [(("java/util/AbstractList", "modCount", "I"), (.int 0)), (("com/example/velvet_rope/velvetrope/lock/QueueList", "elements", "[Ljava/lang/Object;"), .null), (("com/example/velvet_rope/velvetrope/lock/QueueList", "end", "I"), (.int 0)), (("com/example/velvet_rope/velvetrope/lock/QueueList", "start", "I"), (.int 0))] c13_17 (t111 hw) (t112 hw) (t113 hw) (⟨⟨Or.inl (t124 hw), .int, by decide, rfl⟩, ⟨⟨Or.inl (t128 hw), (.array (.object "java/lang/Object")), by decide, rfl⟩, ⟨⟨Or.inl (t175 hw), .int, by decide, rfl⟩, ⟨⟨Or.inl (t177 hw), .int, by decide, rfl⟩, trivial⟩⟩⟩⟩) (by decide) (by decide) (by decide) ?_
  intro h10 a12 P11
  refine go_more (k' := 3) (n' := 13) (by decide) (by decide) ?_
  refine go_dup c13_20 rfl ?_
  have P13 : Hp Z n0 h10 ((a12, (.inl ("com/example/velvet_rope/velvetrope/lock/WaitingQueue", [(("java/util/AbstractList", "modCount", "I"), (.int 0)), (("com/example/velvet_rope/velvetrope/lock/QueueList", "elements", "[Ljava/lang/Object;"), .null), (("com/example/velvet_rope/velvetrope/lock/QueueList", "end", "I"), (.int 0)), (("com/example/velvet_rope/velvetrope/lock/QueueList", "start", "I"), (.int 0))]))) :: (e7, (.inr ((.object "java/lang/Object"), "[Ljava/lang/Object;", [.null, .null]))) :: (a3, (.inl ("java/util/ArrayList", [(("java/util/AbstractList", "modCount", "I"), (.int 0)), (("java/util/ArrayList", "elementData", "[Ljava/lang/Object;"), (.ref e7)), (("java/util/ArrayList", "size", "I"), (.int 0))]))) :: (a, (.inl ("com/example/velvet_rope/velvetrope/lock/ElementLocks", [(("com/example/velvet_rope/velvetrope/lock/ElementLocks", "holders", "Ljava/util/List;"), (.ref a3)), (("com/example/velvet_rope/velvetrope/lock/ElementLocks", "queue", "Lcom/example/velvet_rope/velvetrope/lock/WaitingQueue;"), .null), (("com/example/velvet_rope/velvetrope/lock/ElementLocks", "coming", "I"), (.int 0))]))) :: M) := (P11.front 0)
  refine go_callN0 (y := (⟨"com/example/velvet_rope/velvetrope/lock/ElementLocks", "<init>", "()V"⟩ : MethodName)) (W := 2) (argsL := []) (st := [(.ref a12), (.ref a)]) c13_21 rfl rfl (rm_wq l Z a0 hw h10 n0 a12 ny SN _ P13) (t114 hw) (t115 hw) (t113 hw) (t116 hw) (by decide) (lenOf pd4 rfl) rfl rfl (by decide) (by decide) (by decide) (by decide) rfl ?_
  rintro h14 P15
  refine go_more (k' := 3) (n' := 13) (by decide) (by decide) ?_
  refine go_put (y := (⟨"com/example/velvet_rope/velvetrope/lock/ElementLocks", "<init>", "()V"⟩ : MethodName)) P15 3 1 (.object "com/example/velvet_rope/velvetrope/lock/WaitingQueue") c13_24 rfl rfl (t129 hw) (Or.inr ⟨(t130 hw), rfl, rfl⟩) (t83 hw) (by decide) rfl rfl ?_
  intro h16 P17
  dsimp only [lupd] at P17
  exact go_ret rfl c13_27 (by decide) (by decide) ⟨rfl, _, _, _, P17⟩
set_option maxRecDepth 65536 in
set_option maxHeartbeats 4000000 in
theorem rm_come (l : Launch) (Z : State) (a0 : Array Value) (hw : ∀ d ∈ tables_1, d.before a0 Z = true) (h0 : Heap) (n0 : Nat) (e t s lo q hs : Addr) (c : Int32) (b : Int64) (cv : Value) (M : List (Addr × Desc)) (P0 : Hp Z n0 h0 ((e, (.inl ("com/example/velvet_rope/velvetrope/lock/ElementLocks", [(("com/example/velvet_rope/velvetrope/lock/ElementLocks", "holders", "Ljava/util/List;"), (.ref lo)), (("com/example/velvet_rope/velvetrope/lock/ElementLocks", "queue", "Lcom/example/velvet_rope/velvetrope/lock/WaitingQueue;"), (.ref q)), (("com/example/velvet_rope/velvetrope/lock/ElementLocks", "coming", "I"), (.int c))]))) :: (t, (.inl ("com/example/velvet_rope/velvetrope/lock/TransactionLocks", [(("com/example/velvet_rope/velvetrope/lock/TransactionLocks", "held", "Ljava/util/Set;"), (.ref hs)), (("com/example/velvet_rope/velvetrope/lock/TransactionLocks", "began", "J"), (.long b)), (("com/example/velvet_rope/velvetrope/lock/TransactionLocks", "comingTo", "Ljava/lang/String;"), cv), (("com/example/velvet_rope/velvetrope/lock/TransactionLocks", "waiting", "Lcom/example/velvet_rope/velvetrope/lock/Request;"), .null)]))) :: M)) :
    Con false l Z (⟨"com/example/velvet_rope/velvetrope/lock/TableEntries", "come", "(Lcom/example/velvet_rope/velvetrope/lock/TransactionLocks;Ljava/lang/String;Lcom/example/velvet_rope/velvetrope/lock/ElementLocks;)V"⟩ : MethodName) prog_63_method_11_code 3 none ({ frames := 0, cells := 0, slots := 0, locals := 0 } : Room) #[(.ref t), (.ref s), (.ref e)] h0 n0 (R0 fun h' => Hp Z n0 h' ((e, (.inl ("com/example/velvet_rope/velvetrope/lock/ElementLocks", [(("com/example/velvet_rope/velvetrope/lock/ElementLocks", "holders", "Ljava/util/List;"), (.ref lo)), (("com/example/velvet_rope/velvetrope/lock/ElementLocks", "queue", "Lcom/example/velvet_rope/velvetrope/lock/WaitingQueue;"), (.ref q)), (("com/example/velvet_rope/velvetrope/lock/ElementLocks", "coming", "I"), (.int (c + 1)))]))) :: (t, (.inl ("com/example/velvet_rope/velvetrope/lock/TransactionLocks", [(("com/example/velvet_rope/velvetrope/lock/TransactionLocks", "held", "Ljava/util/Set;"), (.ref hs)), (("com/example/velvet_rope/velvetrope/lock/TransactionLocks", "began", "J"), (.long b)), (("com/example/velvet_rope/velvetrope/lock/TransactionLocks", "comingTo", "Ljava/lang/String;"), (.ref s)), (("com/example/velvet_rope/velvetrope/lock/TransactionLocks", "waiting", "Lcom/example/velvet_rope/velvetrope/lock/Request;"), .null)]))) :: M)) := by
  refine con_of (ls := [.val (.ref t), .val (.ref s), .val (.ref e)]) (plainFor_of_name pn13) rfl ?_
  refine go_aload c18_0 rfl rfl ?_
  refine go_dup c18_1 rfl ?_
  refine go_get (y := (⟨"com/example/velvet_rope/velvetrope/lock/TableEntries", "come", "(Lcom/example/velvet_rope/velvetrope/lock/TransactionLocks;Ljava/lang/String;Lcom/example/velvet_rope/velvetrope/lock/ElementLocks;)V"⟩ : MethodName)) P0 (0) 2 c18_2 rfl rfl (t137 hw) ?_
  refine go_push c18_5 ?_
  refine go_iadd c18_6 ?_
  refine go_put (y := (⟨"com/example/velvet_rope/velvetrope/lock/TableEntries", "come", "(Lcom/example/velvet_rope/velvetrope/lock/TransactionLocks;Ljava/lang/String;Lcom/example/velvet_rope/velvetrope/lock/ElementLocks;)V"⟩ : MethodName)) P0 0 2 .int c18_7 rfl rfl (t137 hw) (Or.inl (t132 hw)) (t83 hw) (by decide) rfl rfl ?_
  intro h1 P2
  dsimp only [lupd] at P2
  refine go_aload c18_10 rfl rfl ?_
  refine go_aload c18_11 rfl rfl ?_
  refine go_put (y := (⟨"com/example/velvet_rope/velvetrope/lock/TableEntries", "come", "(Lcom/example/velvet_rope/velvetrope/lock/TransactionLocks;Ljava/lang/String;Lcom/example/velvet_rope/velvetrope/lock/ElementLocks;)V"⟩ : MethodName)) P2 1 2 (.object "java/lang/String") c18_12 rfl rfl (t138 hw) (Or.inl (t81 hw)) (t31 hw) (by decide) rfl rfl ?_
  intro h3 P4
  dsimp only [lupd] at P4
  exact go_ret rfl c18_15 (by decide) (by decide) ⟨rfl, P4⟩
set_option maxRecDepth 65536 in
set_option maxHeartbeats 4000000 in
theorem rm_ie (l : Launch) (Z : State) (a0 : Array Value) (hw : ∀ d ∈ tables_1, d.before a0 Z = true) (h0 : Heap) (n0 : Nat) (a r : Addr) (M : List (Addr × Desc)) (P0 : Hp Z n0 h0 ((a, (.inl ("java/util/ArrayList", [(("java/util/AbstractList", "modCount", "I"), (.int 0)), (("java/util/ArrayList", "elementData", "[Ljava/lang/Object;"), (.ref r)), (("java/util/ArrayList", "size", "I"), (.int 0))]))) :: M)) :
    Con false l Z (⟨"java/util/ArrayList", "isEmpty", "()Z"⟩ : MethodName) jdk_38_method_9_code 1 (some .boolean) ({ frames := 0, cells := 0, slots := 0, locals := 0 } : Room) #[(.ref a)] h0 n0 (Ret (.int 1) h0) := by
  refine con_of (ls := [.val (.ref a)]) (plainFor_of_name pn9) rfl ?_
  refine go_aload c21_0 rfl rfl ?_
  refine go_get (y := (⟨"java/util/ArrayList", "isEmpty", "()Z"⟩ : MethodName)) P0 (0) 2 c21_1 rfl rfl (t161 hw) ?_
  refine go_if_ne c21_4 (fun q => absurd q (by decide)) (fun _ => ?_)
  refine go_push c21_7 ?_
  refine go_goto c21_8 ?_
  exact go_bret rfl c21_12 (by decide) (by decide) (by decide) ⟨_, rfl, rfl, rfl⟩
set_option maxRecDepth 65536 in
set_option maxHeartbeats 4000000 in
theorem rm_qs (l : Launch) (Z : State) (a0 : Array Value) (hw : ∀ d ∈ tables_1, d.before a0 Z = true) (h0 : Heap) (n0 : Nat) (a ny : Addr) (M : List (Addr × Desc)) (P0 : Hp Z n0 h0 ((a, (.inl ("com/example/velvet_rope/velvetrope/lock/WaitingQueue", [(("java/util/AbstractList", "modCount", "I"), (.int 0)), (("com/example/velvet_rope/velvetrope/lock/QueueList", "elements", "[Ljava/lang/Object;"), (.ref ny)), (("com/example/velvet_rope/velvetrope/lock/QueueList", "end", "I"), (.int 0)), (("com/example/velvet_rope/velvetrope/lock/QueueList", "start", "I"), (.int 0))]))) :: M)) :
    Con false l Z (⟨"com/example/velvet_rope/velvetrope/lock/QueueList", "size", "()I"⟩ : MethodName) prog_59_method_3_code 1 (some .int) ({ frames := 0, cells := 0, slots := 0, locals := 0 } : Room) #[(.ref a)] h0 n0 (Ret (.int 0) h0) := by
  refine con_of (ls := [.val (.ref a)]) (plainFor_of_name pn10) rfl ?_
  refine go_aload c23_0 rfl rfl ?_
  refine go_get (y := (⟨"com/example/velvet_rope/velvetrope/lock/QueueList", "size", "()I"⟩ : MethodName)) P0 (0) 2 c23_1 rfl rfl (t174 hw) ?_
  refine go_aload c23_4 rfl rfl ?_
  refine go_get (y := (⟨"com/example/velvet_rope/velvetrope/lock/QueueList", "size", "()I"⟩ : MethodName)) P0 (0) 3 c23_5 rfl rfl (t176 hw) ?_
  refine go_isub c23_8 ?_
  refine go_isI 0 (by decide) ?_
  exact go_iret rfl c23_9 (by decide) (by decide) ⟨_, rfl, rfl, rfl⟩
theorem own_nf {args : Array Value} {s : State} {C : String} {x z y : MethodName} (hc : y.cls = z.cls) (hsel : (Cond.selects C x z).before args s = true) : NotFace s y := fun r0 h0 => by
  obtain ⟨c2, r2, m2, q1, q2, q3, q4, kP, hkP, hkPi⟩ := Cond.selects_spec hsel
  have e1 := findClass_of_methodNamed h0
  have e2 := findClass_of_methodNamed q3
  rw [hc] at e1
  have e3 : r0.cls = m2.cls := Option.some.inj (e1.symm.trans e2)
  exact ⟨kP, by rw [e3]; exact hkP, hkPi⟩
set_option maxRecDepth 65536 in
set_option maxHeartbeats 4000000 in
theorem rm_ace (l : Launch) (Z : State) (a0 : Array Value) (hw : ∀ d ∈ tables_1, d.before a0 Z = true) (h0 : Heap) (n0 : Nat) (a ny : Addr) (M : List (Addr × Desc)) (P0 : Hp Z n0 h0 ((a, (.inl ("com/example/velvet_rope/velvetrope/lock/WaitingQueue", [(("java/util/AbstractList", "modCount", "I"), (.int 0)), (("com/example/velvet_rope/velvetrope/lock/QueueList", "elements", "[Ljava/lang/Object;"), (.ref ny)), (("com/example/velvet_rope/velvetrope/lock/QueueList", "end", "I"), (.int 0)), (("com/example/velvet_rope/velvetrope/lock/QueueList", "start", "I"), (.int 0))]))) :: M)) :
    Con false l Z (⟨"java/util/AbstractCollection", "isEmpty", "()Z"⟩ : MethodName) jdk_22_method_4_code 1 (some .boolean) ({ frames := 1, cells := 0, slots := 0, locals := 12 } : Room) #[(.ref a)] h0 n0 (Ret (.int 1) h0) := by
  refine con_of (ls := [.val (.ref a)]) (plainFor_of_name pn2) rfl ?_
  refine go_aload c22_0 rfl rfl ?_
  refine go_callV1 (y := (⟨"java/util/AbstractCollection", "isEmpty", "()Z"⟩ : MethodName)) (W := 0) (argsL := []) (st := []) c22_1 (rm_qs l Z a0 hw h0 n0 a ny _ P0) (P0.exa (i := 0) rfl) (t169 hw) (t170 hw) (fun _ q => own_nf (args := #[]) (z := (⟨"java/util/AbstractCollection", "isEmpty", "()Z"⟩ : MethodName)) rfl (mvT q (t167 hw))) (t171 hw) (t172 hw) (t120 hw) (t173 hw) (by decide) (lenOf pd6 rfl) rfl rfl (by decide) (by decide) (by decide) (by decide) rfl ?_
  rintro _ _ ⟨rfl, rfl⟩
  refine go_more (k' := 0) (n' := 0) (by decide) (by decide) ?_
  refine go_if_ne c22_4 (fun q => absurd q (by decide)) (fun _ => ?_)
  refine go_push c22_7 ?_
  refine go_goto c22_8 ?_
  exact go_bret rfl c22_12 (by decide) (by decide) (by decide) ⟨_, rfl, rfl, rfl⟩
def own_z (c : Int32) : Int32 := if c = 0 then 1 else 0
set_option maxRecDepth 65536 in
set_option maxHeartbeats 4000000 in
theorem rm_idle (l : Launch) (Z : State) (a0 : Array Value) (hw : ∀ d ∈ tables_1, d.before a0 Z = true) (h0 : Heap) (n0 : Nat) (a lo q r ny : Addr) (c : Int32) (M : List (Addr × Desc)) (P0 : Hp Z n0 h0 ((a, (.inl ("com/example/velvet_rope/velvetrope/lock/ElementLocks", [(("com/example/velvet_rope/velvetrope/lock/ElementLocks", "holders", "Ljava/util/List;"), (.ref lo)), (("com/example/velvet_rope/velvetrope/lock/ElementLocks", "queue", "Lcom/example/velvet_rope/velvetrope/lock/WaitingQueue;"), (.ref q)), (("com/example/velvet_rope/velvetrope/lock/ElementLocks", "coming", "I"), (.int c))]))) :: (lo, (.inl ("java/util/ArrayList", [(("java/util/AbstractList", "modCount", "I"), (.int 0)), (("java/util/ArrayList", "elementData", "[Ljava/lang/Object;"), (.ref r)), (("java/util/ArrayList", "size", "I"), (.int 0))]))) :: (q, (.inl ("com/example/velvet_rope/velvetrope/lock/WaitingQueue", [(("java/util/AbstractList", "modCount", "I"), (.int 0)), (("com/example/velvet_rope/velvetrope/lock/QueueList", "elements", "[Ljava/lang/Object;"), (.ref ny)), (("com/example/velvet_rope/velvetrope/lock/QueueList", "end", "I"), (.int 0)), (("com/example/velvet_rope/velvetrope/lock/QueueList", "start", "I"), (.int 0))]))) :: M)) :
    Con false l Z (⟨"com/example/velvet_rope/velvetrope/lock/ElementLocks", "idle", "()Z"⟩ : MethodName) prog_48_method_2_code 1 (some .boolean) ({ frames := 2, cells := 0, slots := 0, locals := 24 } : Room) #[(.ref a)] h0 n0 (Ret (.int (own_z c)) h0) := by
  refine con_of (ls := [.val (.ref a)]) (plainFor_of_name pn12) rfl ?_
  refine go_aload c20_0 rfl rfl ?_
  refine go_get (y := (⟨"com/example/velvet_rope/velvetrope/lock/ElementLocks", "idle", "()Z"⟩ : MethodName)) P0 (0) 0 c20_1 rfl rfl (t109 hw) ?_
  refine go_callI1 (y := (⟨"com/example/velvet_rope/velvetrope/lock/ElementLocks", "idle", "()Z"⟩ : MethodName)) (W := 0) (argsL := []) (st := []) c20_4 (rm_ie l Z a0 hw h0 n0 lo r _ (P0.front 1)) (P0.exa (i := 1) rfl) (t152 hw) (t153 hw) (t154 hw) (t155 hw) (t156 hw) (t157 hw) (t158 hw) (t159 hw) (by decide) (t91 hw) (t160 hw) (by decide) (lenOf pd7 rfl) rfl rfl (by decide) (by decide) (by decide) (by decide) rfl ?_
  rintro _ _ ⟨rfl, rfl⟩
  refine go_more (k' := 0) (n' := 0) (by decide) (by decide) ?_
  refine go_if_eq c20_9 (fun q => absurd q (by decide)) (fun _ => ?_)
  refine go_aload c20_12 rfl rfl ?_
  refine go_get (y := (⟨"com/example/velvet_rope/velvetrope/lock/ElementLocks", "idle", "()Z"⟩ : MethodName)) P0 (0) 1 c20_13 rfl rfl (t129 hw) ?_
  refine go_callU1 (y := (⟨"com/example/velvet_rope/velvetrope/lock/ElementLocks", "idle", "()Z"⟩ : MethodName)) (owner := "java/util/AbstractCollection") (W := 0) (argsL := []) (st := []) c20_16 (rm_ace l Z a0 hw h0 n0 q ny _ (P0.front 2)) (P0.exa (i := 2) rfl) (t163 hw) (t164 hw) (t165 hw) (t167 hw) (t166 hw) (t53 hw) (t168 hw) (by decide) (lenOf pd7 rfl) rfl rfl (by decide) (by decide) (by decide) (by decide) rfl ?_
  rintro _ _ ⟨rfl, rfl⟩
  refine go_more (k' := 0) (n' := 0) (by decide) (by decide) ?_
  refine go_if_eq c20_19 (fun q => absurd q (by decide)) (fun _ => ?_)
  refine go_aload c20_22 rfl rfl ?_
  refine go_get (y := (⟨"com/example/velvet_rope/velvetrope/lock/ElementLocks", "idle", "()Z"⟩ : MethodName)) P0 (0) 2 c20_23 rfl rfl (t178 hw) ?_
  refine go_if_ne c20_26 (fun b26 => ?_) (fun b26 => ?_)
  · refine go_push c20_33 ?_
    exact go_bret rfl c20_34 (by decide) (by decide) (by decide) ⟨_, rfl, (by simp [own_z, b26]), rfl⟩
  · refine go_push c20_29 ?_
    refine go_goto c20_30 ?_
    exact go_bret rfl c20_34 (by decide) (by decide) (by decide) ⟨_, rfl, (by simp [own_z, b26]), rfl⟩
set_option maxRecDepth 65536 in
set_option maxHeartbeats 4000000 in
theorem rm_eqs (l : Launch) (Z : State) (a0 : Array Value) (hw : ∀ d ∈ tables_1, d.before a0 Z = true) (h0 : Heap) (n0 : Nat) (s : Addr) :
    Con false l Z (⟨"java/lang/String", "equals", "(Ljava/lang/Object;)Z"⟩ : MethodName) jdk_42_method_66_code 3 (some .boolean) ({ frames := 0, cells := 0, slots := 0, locals := 0 } : Room) #[(.ref s), (.ref s)] h0 n0 (Ret (.int 1) h0) := by
  refine con_of (ls := [.val (.ref s), .val (.ref s), .unset]) (plainFor_of_name pn1) rfl ?_
  refine go_aload c19_0 rfl rfl ?_
  refine go_aload c19_1 rfl rfl ?_
  refine go_acmp_ne c19_2 rfl rfl (fun q => absurd rfl q) (fun _ => ?_)
  refine go_push c19_5 ?_
  exact go_bret rfl c19_6 (by decide) (by decide) (by decide) ⟨_, rfl, rfl, rfl⟩
theorem own_ch (x : Int32) : ¬ 255 < nar .char ((x &&& 255).toUInt32.toUInt16.toUInt32.toInt32) := by
  have h : (x &&& 255).toBitVec.toNat ≤ 255 := by rw [Int32.toBitVec_and, BitVec.toNat_and]; exact Nat.and_le_right
  have e : x &&& 255 = Int32.ofNat (x &&& 255).toBitVec.toNat := by
    apply Int32.toBitVec_inj.mp
    apply BitVec.eq_of_toNat_eq
    have e : ∀ n, n ≤ 255 → (Int32.ofNat n).toBitVec.toNat = n := by decide +kernel
    rw [e _ h]
  generalize (x &&& 255).toBitVec.toNat = n at h e
  rw [e]
  have : ∀ n, n ≤ 255 → ¬ 255 < nar .char ((Int32.ofNat n).toUInt32.toUInt16.toUInt32.toInt32) := by decide +kernel
  exact this n h
theorem own_p2 (x : Int32) : x + 1 + 1 = x + 2 := by rw [Int32.add_assoc]; rfl
set_option maxRecDepth 65536 in
set_option maxHeartbeats 4000000 in
theorem rm0 (l : Launch) (Z : State) (a0 : Array Value) (hw : ∀ d ∈ tables_1, d.before a0 Z = true) (h0 : Heap) (n0 : Nat) (P0 : Hp Z n0 h0 []) (cs : Int32) (hcs : cs ≠ 0) (SC : Sta Z Z.heap "java/lang/String" "COMPACT_STRINGS" "Z" (.int cs)) (ny : Addr) (SN : Sta Z Z.heap "com/example/velvet_rope/velvetrope/lock/QueueList" "NONE_YET" "[Ljava/lang/Object;" (.ref ny)) (sa : Int32) (bg : Int64) (x1 x2 fl : Int32) :
    Con false l Z x code maxLocals ret room_1 #[(.int sa), (.long bg), (.int x1), (.int x2), (.int fl)] h0 n0 (R1 fun w _ => w = .int 1) := by
  refine con_of (ls := [.val (.int sa), .val (.long bg), .second, .val (.int x1), .val (.int x2), .val (.int fl), .unset, .unset, .unset, .unset, .unset, .unset, .unset, .unset, .unset, .unset, .unset, .unset, .unset, .unset, .unset]) (plainFor_of_name pn14) rfl ?_
  refine go_push c0_0 ?_
  refine go_newarr (y := x) P0 "[C" [(.int 0), (.int 0)] 2 c0_1 (t0 hw) (by decide) (by decide) (by decide) (by decide) rfl rfl (by decide) (by decide) ?_
  intro h1 a3 P2
  refine go_more (k' := 1) (n' := 2) (by decide) (by decide) ?_
  refine go_dup c0_3 rfl ?_
  refine go_push c0_4 ?_
  refine go_iload c0_5 rfl ?_
  refine go_push c0_6 ?_
  refine go_iand c0_9 ?_
  refine go_i2c c0_10 ?_
  refine go_nameI fun ch1 e_ch1 => ?_
  have hch1 : ¬ 255 < nar .char ch1 := by rw [e_ch1]; exact own_ch _
  clear e_ch1
  refine go_castoreH P2 0 c0_11 rfl (by decide) (Nat.le_of_ble_eq_true rfl) ?_
  intro h4 P5
  dsimp only [lupd] at P5
  refine go_dup c0_12 rfl ?_
  refine go_push c0_13 ?_
  refine go_iload c0_14 rfl ?_
  refine go_push c0_15 ?_
  refine go_iushr c0_17 ?_
  refine go_push c0_18 ?_
  refine go_iand c0_21 ?_
  refine go_i2c c0_22 ?_
  refine go_nameI fun ch2 e_ch2 => ?_
  have hch2 : ¬ 255 < nar .char ch2 := by rw [e_ch2]; exact own_ch _
  clear e_ch2
  refine go_castoreH P5 0 c0_23 rfl (by decide) (Nat.le_of_ble_eq_true rfl) ?_
  intro h6 P7
  dsimp only [lupd] at P7
  refine go_astore c0_24 rfl rfl rfl ?_
  dsimp only [setl]
  refine go_new (y := x) P7 [(("java/lang/String", "coder", "B"), (.int 0)), (("java/lang/String", "value", "[B"), .null)] c0_26 (t1 hw) (t2 hw) (t3 hw) (⟨⟨Or.inr (t27 hw), .byte, by decide, rfl⟩, ⟨⟨Or.inr (t29 hw), (.array .byte), by decide, rfl⟩, trivial⟩⟩) (by decide) (by decide) (by decide) ?_
  intro h8 a10 P9
  refine go_more (k' := 2) (n' := 6) (by decide) (by decide) ?_
  refine go_dup c0_29 rfl ?_
  refine go_aload c0_30 rfl rfl ?_
  have P11 : Hp Z n0 h8 ([(a3, (.inr (.char, "[C", [(.int (nar .char ch1)), (.int (nar .char ch2))]))), (a10, (.inl ("java/lang/String", [(("java/lang/String", "coder", "B"), (.int 0)), (("java/lang/String", "value", "[B"), .null)])))]) := ((P9.front 0).front 1)
  refine go_callN0 (y := x) (W := 1) (argsL := [(.ref a3)]) (st := [(.ref a10)]) c0_32 rfl rfl (rm_si1_2 l Z a0 hw h8 n0 cs hcs SC _ a10 a3 (nar .char ch1) (nar .char ch2) hch1 hch2 P11) (t4 hw) (t5 hw) (t3 hw) (t6 hw) (by decide) (lenOf pd8 rfl) rfl rfl (by decide) (by decide) (by decide) (by decide) rfl ?_
  rintro h12 ⟨b14, P13⟩
  refine go_more (k' := 3) (n' := 8) (by decide) (by decide) ?_
  refine go_astore c0_35 rfl rfl rfl ?_
  dsimp only [setl]
  refine go_push c0_37 ?_
  refine go_newarr (y := x) P13 "[C" [(.int 0), (.int 0)] 2 c0_38 (t0 hw) (by decide) (by decide) (by decide) (by decide) rfl rfl (by decide) (by decide) ?_
  intro h15 a17 P16
  refine go_more (k' := 4) (n' := 10) (by decide) (by decide) ?_
  refine go_dup c0_40 rfl ?_
  refine go_push c0_41 ?_
  refine go_iload c0_42 rfl ?_
  refine go_push c0_44 ?_
  refine go_iand c0_47 ?_
  refine go_i2c c0_48 ?_
  refine go_nameI fun ch3 e_ch3 => ?_
  have hch3 : ¬ 255 < nar .char ch3 := by rw [e_ch3]; exact own_ch _
  clear e_ch3
  refine go_castoreH P16 0 c0_49 rfl (by decide) (Nat.le_of_ble_eq_true rfl) ?_
  intro h18 P19
  dsimp only [lupd] at P19
  refine go_dup c0_50 rfl ?_
  refine go_push c0_51 ?_
  refine go_iload c0_52 rfl ?_
  refine go_push c0_54 ?_
  refine go_iushr c0_56 ?_
  refine go_push c0_57 ?_
  refine go_iand c0_60 ?_
  refine go_i2c c0_61 ?_
  refine go_nameI fun ch4 e_ch4 => ?_
  have hch4 : ¬ 255 < nar .char ch4 := by rw [e_ch4]; exact own_ch _
  clear e_ch4
  refine go_castoreH P19 0 c0_62 rfl (by decide) (Nat.le_of_ble_eq_true rfl) ?_
  intro h20 P21
  dsimp only [lupd] at P21
  refine go_astore c0_63 rfl rfl rfl ?_
  dsimp only [setl]
  refine go_new (y := x) P21 [(("java/lang/String", "coder", "B"), (.int 0)), (("java/lang/String", "value", "[B"), .null)] c0_65 (t1 hw) (t2 hw) (t3 hw) (⟨⟨Or.inr (t27 hw), .byte, by decide, rfl⟩, ⟨⟨Or.inr (t29 hw), (.array .byte), by decide, rfl⟩, trivial⟩⟩) (by decide) (by decide) (by decide) ?_
  intro h22 a24 P23
  refine go_more (k' := 5) (n' := 14) (by decide) (by decide) ?_
  refine go_dup c0_68 rfl ?_
  refine go_aload c0_69 rfl rfl ?_
  have P25 : Hp Z n0 h22 ([(a17, (.inr (.char, "[C", [(.int (nar .char ch3)), (.int (nar .char ch4))]))), (a24, (.inl ("java/lang/String", [(("java/lang/String", "coder", "B"), (.int 0)), (("java/lang/String", "value", "[B"), .null)]))), (b14, (.inr (.byte, "[B", [(.int (nar .byte (nar .char ch1).toInt8.toInt32)), (.int (nar .byte (nar .char ch2).toInt8.toInt32))]))), (a3, (.inr (.char, "[C", [(.int (nar .char ch1)), (.int (nar .char ch2))]))), (a10, (.inl ("java/lang/String", [(("java/lang/String", "coder", "B"), (.int 0)), (("java/lang/String", "value", "[B"), (.ref b14))])))]) := ((P23.front 0).front 1)
  refine go_callN0 (y := x) (W := 1) (argsL := [(.ref a17)]) (st := [(.ref a24)]) c0_71 rfl rfl (rm_si1_2 l Z a0 hw h22 n0 cs hcs SC _ a24 a17 (nar .char ch3) (nar .char ch4) hch3 hch4 P25) (t4 hw) (t5 hw) (t3 hw) (t6 hw) (by decide) (lenOf pd8 rfl) rfl rfl (by decide) (by decide) (by decide) (by decide) rfl ?_
  rintro h26 ⟨b28, P27⟩
  refine go_more (k' := 6) (n' := 16) (by decide) (by decide) ?_
  refine go_astore c0_74 rfl rfl rfl ?_
  dsimp only [setl]
  refine go_push c0_76 ?_
  refine go_newarr (y := x) P27 "[C" [(.int 0)] 1 c0_77 (t0 hw) (by decide) (by decide) (by decide) (by decide) rfl rfl (by decide) (by decide) ?_
  intro h29 a31 P30
  refine go_more (k' := 7) (n' := 17) (by decide) (by decide) ?_
  refine go_dup c0_79 rfl ?_
  refine go_push c0_80 ?_
  refine go_iload c0_81 rfl ?_
  refine go_push c0_83 ?_
  refine go_iushr c0_85 ?_
  refine go_push c0_86 ?_
  refine go_iand c0_89 ?_
  refine go_i2c c0_90 ?_
  refine go_nameI fun ch5 e_ch5 => ?_
  have hch5 : ¬ 255 < nar .char ch5 := by rw [e_ch5]; exact own_ch _
  clear e_ch5
  refine go_castoreH P30 0 c0_91 rfl (by decide) (Nat.le_of_ble_eq_true rfl) ?_
  intro h32 P33
  dsimp only [lupd] at P33
  refine go_astore c0_92 rfl rfl rfl ?_
  dsimp only [setl]
  refine go_new (y := x) P33 [(("java/lang/String", "coder", "B"), (.int 0)), (("java/lang/String", "value", "[B"), .null)] c0_94 (t1 hw) (t2 hw) (t3 hw) (⟨⟨Or.inr (t27 hw), .byte, by decide, rfl⟩, ⟨⟨Or.inr (t29 hw), (.array .byte), by decide, rfl⟩, trivial⟩⟩) (by decide) (by decide) (by decide) ?_
  intro h34 a36 P35
  refine go_more (k' := 8) (n' := 21) (by decide) (by decide) ?_
  refine go_dup c0_97 rfl ?_
  refine go_aload c0_98 rfl rfl ?_
  have P37 : Hp Z n0 h34 ([(a31, (.inr (.char, "[C", [(.int (nar .char ch5))]))), (a36, (.inl ("java/lang/String", [(("java/lang/String", "coder", "B"), (.int 0)), (("java/lang/String", "value", "[B"), .null)]))), (b28, (.inr (.byte, "[B", [(.int (nar .byte (nar .char ch3).toInt8.toInt32)), (.int (nar .byte (nar .char ch4).toInt8.toInt32))]))), (a17, (.inr (.char, "[C", [(.int (nar .char ch3)), (.int (nar .char ch4))]))), (a24, (.inl ("java/lang/String", [(("java/lang/String", "coder", "B"), (.int 0)), (("java/lang/String", "value", "[B"), (.ref b28))]))), (b14, (.inr (.byte, "[B", [(.int (nar .byte (nar .char ch1).toInt8.toInt32)), (.int (nar .byte (nar .char ch2).toInt8.toInt32))]))), (a3, (.inr (.char, "[C", [(.int (nar .char ch1)), (.int (nar .char ch2))]))), (a10, (.inl ("java/lang/String", [(("java/lang/String", "coder", "B"), (.int 0)), (("java/lang/String", "value", "[B"), (.ref b14))])))]) := ((P35.front 0).front 1)
  refine go_callN0 (y := x) (W := 1) (argsL := [(.ref a31)]) (st := [(.ref a36)]) c0_100 rfl rfl (rm_si1_1 l Z a0 hw h34 n0 cs hcs SC _ a36 a31 (nar .char ch5) hch5 P37) (t4 hw) (t5 hw) (t3 hw) (t6 hw) (by decide) (lenOf pd8 rfl) rfl rfl (by decide) (by decide) (by decide) (by decide) rfl ?_
  rintro h38 ⟨b40, P39⟩
  refine go_more (k' := 9) (n' := 22) (by decide) (by decide) ?_
  refine go_astore c0_103 rfl rfl rfl ?_
  dsimp only [setl]
  refine go_new (y := x) P39 [(("com/example/velvet_rope/velvetrope/lock/TransactionLocks", "held", "Ljava/util/Set;"), .null), (("com/example/velvet_rope/velvetrope/lock/TransactionLocks", "began", "J"), (.long 0)), (("com/example/velvet_rope/velvetrope/lock/TransactionLocks", "comingTo", "Ljava/lang/String;"), .null), (("com/example/velvet_rope/velvetrope/lock/TransactionLocks", "waiting", "Lcom/example/velvet_rope/velvetrope/lock/Request;"), .null)] c0_105 (t30 hw) (t31 hw) (t32 hw) (⟨⟨Or.inr (t76 hw), (.object "java/util/Set"), by decide, rfl⟩, ⟨⟨Or.inr (t78 hw), .long, by decide, rfl⟩, ⟨⟨Or.inl (t81 hw), (.object "java/lang/String"), by decide, rfl⟩, ⟨⟨Or.inl (t146 hw), (.object "com/example/velvet_rope/velvetrope/lock/Request"), by decide, rfl⟩, trivial⟩⟩⟩⟩) (by decide) (by decide) (by decide) ?_
  intro h41 a43 P42
  refine go_more (k' := 10) (n' := 26) (by decide) (by decide) ?_
  refine go_dup c0_108 rfl ?_
  refine go_lload c0_109 rfl ?_
  have P44 : Hp Z n0 h41 ([(a43, (.inl ("com/example/velvet_rope/velvetrope/lock/TransactionLocks", [(("com/example/velvet_rope/velvetrope/lock/TransactionLocks", "held", "Ljava/util/Set;"), .null), (("com/example/velvet_rope/velvetrope/lock/TransactionLocks", "began", "J"), (.long 0)), (("com/example/velvet_rope/velvetrope/lock/TransactionLocks", "comingTo", "Ljava/lang/String;"), .null), (("com/example/velvet_rope/velvetrope/lock/TransactionLocks", "waiting", "Lcom/example/velvet_rope/velvetrope/lock/Request;"), .null)]))), (b40, (.inr (.byte, "[B", [(.int (nar .byte (nar .char ch5).toInt8.toInt32))]))), (a31, (.inr (.char, "[C", [(.int (nar .char ch5))]))), (a36, (.inl ("java/lang/String", [(("java/lang/String", "coder", "B"), (.int 0)), (("java/lang/String", "value", "[B"), (.ref b40))]))), (b28, (.inr (.byte, "[B", [(.int (nar .byte (nar .char ch3).toInt8.toInt32)), (.int (nar .byte (nar .char ch4).toInt8.toInt32))]))), (a17, (.inr (.char, "[C", [(.int (nar .char ch3)), (.int (nar .char ch4))]))), (a24, (.inl ("java/lang/String", [(("java/lang/String", "coder", "B"), (.int 0)), (("java/lang/String", "value", "[B"), (.ref b28))]))), (b14, (.inr (.byte, "[B", [(.int (nar .byte (nar .char ch1).toInt8.toInt32)), (.int (nar .byte (nar .char ch2).toInt8.toInt32))]))), (a3, (.inr (.char, "[C", [(.int (nar .char ch1)), (.int (nar .char ch2))]))), (a10, (.inl ("java/lang/String", [(("java/lang/String", "coder", "B"), (.int 0)), (("java/lang/String", "value", "[B"), (.ref b14))])))]) := (P42.front 0)
  refine go_callN0 (y := x) (W := 1) (argsL := [(.long bg)]) (st := [(.ref a43)]) c0_110 rfl rfl (rm_tl l Z a0 hw h41 n0 a43 bg _ P44) (t33 hw) (t34 hw) (t32 hw) (t35 hw) (by decide) (lenOf pd9 rfl) rfl rfl (by decide) (by decide) (by decide) (by decide) rfl ?_
  rintro h45 ⟨m47, s48, P46⟩
  refine go_more (k' := 12) (n' := 35) (by decide) (by decide) ?_
  refine go_astore c0_113 rfl rfl rfl ?_
  dsimp only [setl]
  refine go_new (y := x) P46 [(("com/example/velvet_rope/velvetrope/lock/TransactionLocks", "held", "Ljava/util/Set;"), .null), (("com/example/velvet_rope/velvetrope/lock/TransactionLocks", "began", "J"), (.long 0)), (("com/example/velvet_rope/velvetrope/lock/TransactionLocks", "comingTo", "Ljava/lang/String;"), .null), (("com/example/velvet_rope/velvetrope/lock/TransactionLocks", "waiting", "Lcom/example/velvet_rope/velvetrope/lock/Request;"), .null)] c0_115 (t30 hw) (t31 hw) (t32 hw) (⟨⟨Or.inr (t76 hw), (.object "java/util/Set"), by decide, rfl⟩, ⟨⟨Or.inr (t78 hw), .long, by decide, rfl⟩, ⟨⟨Or.inl (t81 hw), (.object "java/lang/String"), by decide, rfl⟩, ⟨⟨Or.inl (t146 hw), (.object "com/example/velvet_rope/velvetrope/lock/Request"), by decide, rfl⟩, trivial⟩⟩⟩⟩) (by decide) (by decide) (by decide) ?_
  intro h49 a51 P50
  refine go_more (k' := 13) (n' := 39) (by decide) (by decide) ?_
  refine go_dup c0_118 rfl ?_
  refine go_lload c0_119 rfl ?_
  refine go_ldcJ (y := x) c0_120 (t79 hw) ?_
  refine go_lxor c0_123 ?_
  have P52 : Hp Z n0 h49 ([(a51, (.inl ("com/example/velvet_rope/velvetrope/lock/TransactionLocks", [(("com/example/velvet_rope/velvetrope/lock/TransactionLocks", "held", "Ljava/util/Set;"), .null), (("com/example/velvet_rope/velvetrope/lock/TransactionLocks", "began", "J"), (.long 0)), (("com/example/velvet_rope/velvetrope/lock/TransactionLocks", "comingTo", "Ljava/lang/String;"), .null), (("com/example/velvet_rope/velvetrope/lock/TransactionLocks", "waiting", "Lcom/example/velvet_rope/velvetrope/lock/Request;"), .null)]))), (m47, (.inl ("java/util/HashMap", [(("java/util/HashMap", "loadFactor", "F"), (.float 1061158912))]))), (s48, (.inl ("java/util/HashSet", [(("java/util/HashSet", "map", "Ljava/util/HashMap;"), (.ref m47))]))), (a43, (.inl ("com/example/velvet_rope/velvetrope/lock/TransactionLocks", [(("com/example/velvet_rope/velvetrope/lock/TransactionLocks", "held", "Ljava/util/Set;"), (.ref s48)), (("com/example/velvet_rope/velvetrope/lock/TransactionLocks", "began", "J"), (.long bg)), (("com/example/velvet_rope/velvetrope/lock/TransactionLocks", "comingTo", "Ljava/lang/String;"), .null), (("com/example/velvet_rope/velvetrope/lock/TransactionLocks", "waiting", "Lcom/example/velvet_rope/velvetrope/lock/Request;"), .null)]))), (b40, (.inr (.byte, "[B", [(.int (nar .byte (nar .char ch5).toInt8.toInt32))]))), (a31, (.inr (.char, "[C", [(.int (nar .char ch5))]))), (a36, (.inl ("java/lang/String", [(("java/lang/String", "coder", "B"), (.int 0)), (("java/lang/String", "value", "[B"), (.ref b40))]))), (b28, (.inr (.byte, "[B", [(.int (nar .byte (nar .char ch3).toInt8.toInt32)), (.int (nar .byte (nar .char ch4).toInt8.toInt32))]))), (a17, (.inr (.char, "[C", [(.int (nar .char ch3)), (.int (nar .char ch4))]))), (a24, (.inl ("java/lang/String", [(("java/lang/String", "coder", "B"), (.int 0)), (("java/lang/String", "value", "[B"), (.ref b28))]))), (b14, (.inr (.byte, "[B", [(.int (nar .byte (nar .char ch1).toInt8.toInt32)), (.int (nar .byte (nar .char ch2).toInt8.toInt32))]))), (a3, (.inr (.char, "[C", [(.int (nar .char ch1)), (.int (nar .char ch2))]))), (a10, (.inl ("java/lang/String", [(("java/lang/String", "coder", "B"), (.int 0)), (("java/lang/String", "value", "[B"), (.ref b14))])))]) := (P50.front 0)
  refine go_callN0 (y := x) (W := 1) (argsL := [(.long (bg ^^^ (-1)))]) (st := [(.ref a51)]) c0_124 rfl rfl (rm_tl l Z a0 hw h49 n0 a51 (bg ^^^ (-1)) _ P52) (t33 hw) (t34 hw) (t32 hw) (t35 hw) (by decide) (lenOf pd9 rfl) rfl rfl (by decide) (by decide) (by decide) (by decide) rfl ?_
  rintro h53 ⟨m55, s56, P54⟩
  refine go_more (k' := 15) (n' := 48) (by decide) (by decide) ?_
  refine go_astore c0_127 rfl rfl rfl ?_
  dsimp only [setl]
  refine go_iload c0_129 rfl ?_
  refine go_push c0_131 ?_
  refine go_iand c0_132 ?_
  refine go_if_eq c0_133 (fun b133 => ?_) (fun b133 => ?_)
  · refine go_push c0_140 ?_
    refine go_istore c0_141 rfl rfl ?_
    dsimp only [setl]
    refine go_iload c0_143 rfl ?_
    refine go_if_eq c0_145 (fun _ => ?_) (fun q => absurd q (by decide))
    refine go_new (y := x) P54 [(("com/example/velvet_rope/velvetrope/lock/ElementLocks", "holders", "Ljava/util/List;"), .null), (("com/example/velvet_rope/velvetrope/lock/ElementLocks", "queue", "Lcom/example/velvet_rope/velvetrope/lock/WaitingQueue;"), .null), (("com/example/velvet_rope/velvetrope/lock/ElementLocks", "coming", "I"), (.int 0))] c0_162 (t82 hw) (t83 hw) (t84 hw) (⟨⟨Or.inr (t110 hw), (.object "java/util/List"), by decide, rfl⟩, ⟨⟨Or.inr (t130 hw), (.object "com/example/velvet_rope/velvetrope/lock/WaitingQueue"), by decide, rfl⟩, ⟨⟨Or.inl (t132 hw), .int, by decide, rfl⟩, trivial⟩⟩⟩) (by decide) (by decide) (by decide) ?_
    intro h57 a59 P58
    refine go_more (k' := 16) (n' := 52) (by decide) (by decide) ?_
    refine go_dup c0_165 rfl ?_
    have P60 : Hp Z n0 h57 ([(a59, (.inl ("com/example/velvet_rope/velvetrope/lock/ElementLocks", [(("com/example/velvet_rope/velvetrope/lock/ElementLocks", "holders", "Ljava/util/List;"), .null), (("com/example/velvet_rope/velvetrope/lock/ElementLocks", "queue", "Lcom/example/velvet_rope/velvetrope/lock/WaitingQueue;"), .null), (("com/example/velvet_rope/velvetrope/lock/ElementLocks", "coming", "I"), (.int 0))]))), (m55, (.inl ("java/util/HashMap", [(("java/util/HashMap", "loadFactor", "F"), (.float 1061158912))]))), (s56, (.inl ("java/util/HashSet", [(("java/util/HashSet", "map", "Ljava/util/HashMap;"), (.ref m55))]))), (a51, (.inl ("com/example/velvet_rope/velvetrope/lock/TransactionLocks", [(("com/example/velvet_rope/velvetrope/lock/TransactionLocks", "held", "Ljava/util/Set;"), (.ref s56)), (("com/example/velvet_rope/velvetrope/lock/TransactionLocks", "began", "J"), (.long (bg ^^^ (-1)))), (("com/example/velvet_rope/velvetrope/lock/TransactionLocks", "comingTo", "Ljava/lang/String;"), .null), (("com/example/velvet_rope/velvetrope/lock/TransactionLocks", "waiting", "Lcom/example/velvet_rope/velvetrope/lock/Request;"), .null)]))), (m47, (.inl ("java/util/HashMap", [(("java/util/HashMap", "loadFactor", "F"), (.float 1061158912))]))), (s48, (.inl ("java/util/HashSet", [(("java/util/HashSet", "map", "Ljava/util/HashMap;"), (.ref m47))]))), (a43, (.inl ("com/example/velvet_rope/velvetrope/lock/TransactionLocks", [(("com/example/velvet_rope/velvetrope/lock/TransactionLocks", "held", "Ljava/util/Set;"), (.ref s48)), (("com/example/velvet_rope/velvetrope/lock/TransactionLocks", "began", "J"), (.long bg)), (("com/example/velvet_rope/velvetrope/lock/TransactionLocks", "comingTo", "Ljava/lang/String;"), .null), (("com/example/velvet_rope/velvetrope/lock/TransactionLocks", "waiting", "Lcom/example/velvet_rope/velvetrope/lock/Request;"), .null)]))), (b40, (.inr (.byte, "[B", [(.int (nar .byte (nar .char ch5).toInt8.toInt32))]))), (a31, (.inr (.char, "[C", [(.int (nar .char ch5))]))), (a36, (.inl ("java/lang/String", [(("java/lang/String", "coder", "B"), (.int 0)), (("java/lang/String", "value", "[B"), (.ref b40))]))), (b28, (.inr (.byte, "[B", [(.int (nar .byte (nar .char ch3).toInt8.toInt32)), (.int (nar .byte (nar .char ch4).toInt8.toInt32))]))), (a17, (.inr (.char, "[C", [(.int (nar .char ch3)), (.int (nar .char ch4))]))), (a24, (.inl ("java/lang/String", [(("java/lang/String", "coder", "B"), (.int 0)), (("java/lang/String", "value", "[B"), (.ref b28))]))), (b14, (.inr (.byte, "[B", [(.int (nar .byte (nar .char ch1).toInt8.toInt32)), (.int (nar .byte (nar .char ch2).toInt8.toInt32))]))), (a3, (.inr (.char, "[C", [(.int (nar .char ch1)), (.int (nar .char ch2))]))), (a10, (.inl ("java/lang/String", [(("java/lang/String", "coder", "B"), (.int 0)), (("java/lang/String", "value", "[B"), (.ref b14))])))]) := (P58.front 0)
    refine go_callN0 (y := x) (W := 1) (argsL := []) (st := [(.ref a59)]) c0_166 rfl rfl (rm_el l Z a0 hw h57 n0 a59 ny SN _ P60) (t85 hw) (t86 hw) (t84 hw) (t87 hw) (by decide) (lenOf pd4 rfl) rfl rfl (by decide) (by decide) (by decide) (by decide) rfl ?_
    rintro h61 ⟨q63, r64, l65, P62⟩
    refine go_more (k' := 19) (n' := 65) (by decide) (by decide) ?_
    refine go_astore c0_169 rfl rfl rfl ?_
    dsimp only [setl]
    refine go_aload c0_171 rfl rfl ?_
    refine go_iload c0_173 rfl ?_
    refine go_put (y := x) P62 3 2 .int c0_174 rfl rfl (t131 hw) (Or.inl (t132 hw)) (t83 hw) (by decide) rfl rfl ?_
    intro h66 P67
    dsimp only [lupd] at P67
    refine go_iload c0_177 rfl ?_
    refine go_push c0_179 ?_
    refine go_iand c0_180 ?_
    refine go_if_eq c0_181 (fun b181 => ?_) (fun b181 => ?_)
    · refine go_push c0_188 ?_
      refine go_istore c0_189 rfl rfl ?_
      dsimp only [setl]
      refine go_iload c0_191 rfl ?_
      refine go_if_eq c0_193 (fun _ => ?_) (fun q => absurd q (by decide))
      refine go_aload c0_201 rfl rfl ?_
      refine go_astore c0_203 rfl rfl rfl ?_
      dsimp only [setl]
      refine go_aload c0_205 rfl rfl ?_
      refine go_get (y := x) P67 (6) 2 c0_207 rfl rfl (t80 hw) ?_
      refine go_astore c0_210 rfl rfl rfl ?_
      dsimp only [setl]
      refine go_aload c0_212 rfl rfl ?_
      refine go_aload c0_214 rfl rfl ?_
      refine go_aload c0_216 rfl rfl ?_
      have P68 : Hp Z n0 h66 ([(a59, (.inl ("com/example/velvet_rope/velvetrope/lock/ElementLocks", [(("com/example/velvet_rope/velvetrope/lock/ElementLocks", "holders", "Ljava/util/List;"), (.ref l65)), (("com/example/velvet_rope/velvetrope/lock/ElementLocks", "queue", "Lcom/example/velvet_rope/velvetrope/lock/WaitingQueue;"), (.ref q63)), (("com/example/velvet_rope/velvetrope/lock/ElementLocks", "coming", "I"), (.int sa))]))), (a43, (.inl ("com/example/velvet_rope/velvetrope/lock/TransactionLocks", [(("com/example/velvet_rope/velvetrope/lock/TransactionLocks", "held", "Ljava/util/Set;"), (.ref s48)), (("com/example/velvet_rope/velvetrope/lock/TransactionLocks", "began", "J"), (.long bg)), (("com/example/velvet_rope/velvetrope/lock/TransactionLocks", "comingTo", "Ljava/lang/String;"), .null), (("com/example/velvet_rope/velvetrope/lock/TransactionLocks", "waiting", "Lcom/example/velvet_rope/velvetrope/lock/Request;"), .null)]))), (q63, (.inl ("com/example/velvet_rope/velvetrope/lock/WaitingQueue", [(("java/util/AbstractList", "modCount", "I"), (.int 0)), (("com/example/velvet_rope/velvetrope/lock/QueueList", "elements", "[Ljava/lang/Object;"), (.ref ny)), (("com/example/velvet_rope/velvetrope/lock/QueueList", "end", "I"), (.int 0)), (("com/example/velvet_rope/velvetrope/lock/QueueList", "start", "I"), (.int 0))]))), (r64, (.inr ((.object "java/lang/Object"), "[Ljava/lang/Object;", [.null, .null]))), (l65, (.inl ("java/util/ArrayList", [(("java/util/AbstractList", "modCount", "I"), (.int 0)), (("java/util/ArrayList", "elementData", "[Ljava/lang/Object;"), (.ref r64)), (("java/util/ArrayList", "size", "I"), (.int 0))]))), (m55, (.inl ("java/util/HashMap", [(("java/util/HashMap", "loadFactor", "F"), (.float 1061158912))]))), (s56, (.inl ("java/util/HashSet", [(("java/util/HashSet", "map", "Ljava/util/HashMap;"), (.ref m55))]))), (a51, (.inl ("com/example/velvet_rope/velvetrope/lock/TransactionLocks", [(("com/example/velvet_rope/velvetrope/lock/TransactionLocks", "held", "Ljava/util/Set;"), (.ref s56)), (("com/example/velvet_rope/velvetrope/lock/TransactionLocks", "began", "J"), (.long (bg ^^^ (-1)))), (("com/example/velvet_rope/velvetrope/lock/TransactionLocks", "comingTo", "Ljava/lang/String;"), .null), (("com/example/velvet_rope/velvetrope/lock/TransactionLocks", "waiting", "Lcom/example/velvet_rope/velvetrope/lock/Request;"), .null)]))), (m47, (.inl ("java/util/HashMap", [(("java/util/HashMap", "loadFactor", "F"), (.float 1061158912))]))), (s48, (.inl ("java/util/HashSet", [(("java/util/HashSet", "map", "Ljava/util/HashMap;"), (.ref m47))]))), (b40, (.inr (.byte, "[B", [(.int (nar .byte (nar .char ch5).toInt8.toInt32))]))), (a31, (.inr (.char, "[C", [(.int (nar .char ch5))]))), (a36, (.inl ("java/lang/String", [(("java/lang/String", "coder", "B"), (.int 0)), (("java/lang/String", "value", "[B"), (.ref b40))]))), (b28, (.inr (.byte, "[B", [(.int (nar .byte (nar .char ch3).toInt8.toInt32)), (.int (nar .byte (nar .char ch4).toInt8.toInt32))]))), (a17, (.inr (.char, "[C", [(.int (nar .char ch3)), (.int (nar .char ch4))]))), (a24, (.inl ("java/lang/String", [(("java/lang/String", "coder", "B"), (.int 0)), (("java/lang/String", "value", "[B"), (.ref b28))]))), (b14, (.inr (.byte, "[B", [(.int (nar .byte (nar .char ch1).toInt8.toInt32)), (.int (nar .byte (nar .char ch2).toInt8.toInt32))]))), (a3, (.inr (.char, "[C", [(.int (nar .char ch1)), (.int (nar .char ch2))]))), (a10, (.inl ("java/lang/String", [(("java/lang/String", "coder", "B"), (.int 0)), (("java/lang/String", "value", "[B"), (.ref b14))])))]) := ((P67.front 9).front 4)
      refine go_callS0 (y := x) (W := 0) (argsL := [(.ref a43), (.ref a10), (.ref a59)]) (st := []) c0_218 (rm_come l Z a0 hw h66 n0 a59 a43 a10 l65 q63 s48 sa bg .null _ P68) (t133 hw) (t134 hw) (t135 hw) (t136 hw) (by decide) (lenOf pd10 rfl) rfl rfl (by decide) (by decide) (by decide) (by decide) rfl ?_
      intro h69 P70
      refine go_more (k' := 19) (n' := 65) (by decide) (by decide) ?_
      refine go_aload c0_221 rfl rfl ?_
      refine go_get (y := x) P70 (0) 2 c0_223 rfl rfl (t131 hw) ?_
      refine go_iload c0_226 rfl ?_
      refine go_push c0_227 ?_
      refine go_iadd c0_228 ?_
      refine go_icmp_ne c0_229 (fun q => absurd rfl q) (fun _ => ?_)
      refine go_aload c0_232 rfl rfl ?_
      refine go_aload c0_234 rfl rfl ?_
      refine go_get (y := x) P70 (1) 2 c0_236 rfl rfl (t80 hw) ?_
      refine go_callV1 (y := x) (W := 0) (argsL := [(.ref a10)]) (st := []) c0_239 (rm_eqs l Z a0 hw h69 n0 a10) (P70.exa (i := 18) rfl) (t139 hw) (t140 hw) (fun _ q => notFace_of_selects (args := #[]) (mvT q (t142 hw))) (t142 hw) (t141 hw) (t3 hw) (t143 hw) (by decide) (lenOf pd11 rfl) rfl rfl (by decide) (by decide) (by decide) (by decide) rfl ?_
      rintro _ _ ⟨rfl, rfl⟩
      refine go_more (k' := 19) (n' := 65) (by decide) (by decide) ?_
      refine go_if_eq c0_242 (fun q => absurd q (by decide)) (fun _ => ?_)
      refine go_aload c0_245 rfl rfl ?_
      refine go_get (y := x) P70 (1) 1 c0_247 rfl rfl (t144 hw) ?_
      refine go_lload c0_250 rfl ?_
      refine go_lcmp c0_251 ?_
      refine go_lc_ne c0_252 (fun q => absurd rfl q) (fun _ => ?_)
      refine go_aload c0_255 rfl rfl ?_
      refine go_get (y := x) P70 (1) 3 c0_257 rfl rfl (t145 hw) ?_
      refine go_nonnullF c0_260 ?_
      refine go_aload c0_263 rfl rfl ?_
      refine go_get (y := x) P70 (7) 2 c0_265 rfl rfl (t80 hw) ?_
      refine go_aload c0_268 rfl rfl ?_
      refine go_acmp_ne c0_270 rfl rfl (fun q => absurd rfl q) (fun _ => ?_)
      refine go_aload c0_273 rfl rfl ?_
      refine go_get (y := x) P70 (7) 1 c0_275 rfl rfl (t144 hw) ?_
      refine go_lload c0_278 rfl ?_
      refine go_ldcJ (y := x) c0_279 (t79 hw) ?_
      refine go_lxor c0_282 ?_
      refine go_lcmp c0_283 ?_
      refine go_lc_ne c0_284 (fun q => absurd rfl q) (fun _ => ?_)
      refine go_aload c0_287 rfl rfl ?_
      have P71 : Hp Z n0 h69 ([(a59, (.inl ("com/example/velvet_rope/velvetrope/lock/ElementLocks", [(("com/example/velvet_rope/velvetrope/lock/ElementLocks", "holders", "Ljava/util/List;"), (.ref l65)), (("com/example/velvet_rope/velvetrope/lock/ElementLocks", "queue", "Lcom/example/velvet_rope/velvetrope/lock/WaitingQueue;"), (.ref q63)), (("com/example/velvet_rope/velvetrope/lock/ElementLocks", "coming", "I"), (.int (sa + 1)))]))), (l65, (.inl ("java/util/ArrayList", [(("java/util/AbstractList", "modCount", "I"), (.int 0)), (("java/util/ArrayList", "elementData", "[Ljava/lang/Object;"), (.ref r64)), (("java/util/ArrayList", "size", "I"), (.int 0))]))), (q63, (.inl ("com/example/velvet_rope/velvetrope/lock/WaitingQueue", [(("java/util/AbstractList", "modCount", "I"), (.int 0)), (("com/example/velvet_rope/velvetrope/lock/QueueList", "elements", "[Ljava/lang/Object;"), (.ref ny)), (("com/example/velvet_rope/velvetrope/lock/QueueList", "end", "I"), (.int 0)), (("com/example/velvet_rope/velvetrope/lock/QueueList", "start", "I"), (.int 0))]))), (a43, (.inl ("com/example/velvet_rope/velvetrope/lock/TransactionLocks", [(("com/example/velvet_rope/velvetrope/lock/TransactionLocks", "held", "Ljava/util/Set;"), (.ref s48)), (("com/example/velvet_rope/velvetrope/lock/TransactionLocks", "began", "J"), (.long bg)), (("com/example/velvet_rope/velvetrope/lock/TransactionLocks", "comingTo", "Ljava/lang/String;"), (.ref a10)), (("com/example/velvet_rope/velvetrope/lock/TransactionLocks", "waiting", "Lcom/example/velvet_rope/velvetrope/lock/Request;"), .null)]))), (r64, (.inr ((.object "java/lang/Object"), "[Ljava/lang/Object;", [.null, .null]))), (m55, (.inl ("java/util/HashMap", [(("java/util/HashMap", "loadFactor", "F"), (.float 1061158912))]))), (s56, (.inl ("java/util/HashSet", [(("java/util/HashSet", "map", "Ljava/util/HashMap;"), (.ref m55))]))), (a51, (.inl ("com/example/velvet_rope/velvetrope/lock/TransactionLocks", [(("com/example/velvet_rope/velvetrope/lock/TransactionLocks", "held", "Ljava/util/Set;"), (.ref s56)), (("com/example/velvet_rope/velvetrope/lock/TransactionLocks", "began", "J"), (.long (bg ^^^ (-1)))), (("com/example/velvet_rope/velvetrope/lock/TransactionLocks", "comingTo", "Ljava/lang/String;"), .null), (("com/example/velvet_rope/velvetrope/lock/TransactionLocks", "waiting", "Lcom/example/velvet_rope/velvetrope/lock/Request;"), .null)]))), (m47, (.inl ("java/util/HashMap", [(("java/util/HashMap", "loadFactor", "F"), (.float 1061158912))]))), (s48, (.inl ("java/util/HashSet", [(("java/util/HashSet", "map", "Ljava/util/HashMap;"), (.ref m47))]))), (b40, (.inr (.byte, "[B", [(.int (nar .byte (nar .char ch5).toInt8.toInt32))]))), (a31, (.inr (.char, "[C", [(.int (nar .char ch5))]))), (a36, (.inl ("java/lang/String", [(("java/lang/String", "coder", "B"), (.int 0)), (("java/lang/String", "value", "[B"), (.ref b40))]))), (b28, (.inr (.byte, "[B", [(.int (nar .byte (nar .char ch3).toInt8.toInt32)), (.int (nar .byte (nar .char ch4).toInt8.toInt32))]))), (a17, (.inr (.char, "[C", [(.int (nar .char ch3)), (.int (nar .char ch4))]))), (a24, (.inl ("java/lang/String", [(("java/lang/String", "coder", "B"), (.int 0)), (("java/lang/String", "value", "[B"), (.ref b28))]))), (b14, (.inr (.byte, "[B", [(.int (nar .byte (nar .char ch1).toInt8.toInt32)), (.int (nar .byte (nar .char ch2).toInt8.toInt32))]))), (a3, (.inr (.char, "[C", [(.int (nar .char ch1)), (.int (nar .char ch2))]))), (a10, (.inl ("java/lang/String", [(("java/lang/String", "coder", "B"), (.int 0)), (("java/lang/String", "value", "[B"), (.ref b14))])))]) := (((P70.front 2).front 4).front 2)
      refine go_callV1 (y := x) (W := 0) (argsL := []) (st := []) c0_289 (rm_idle l Z a0 hw h69 n0 a59 l65 q63 r64 ny (sa + 1) _ P71) (P71.exa (i := 0) rfl) (t147 hw) (t148 hw) (fun _ q => notFace_of_selects (args := #[]) (mvT q (t150 hw))) (t150 hw) (t149 hw) (t84 hw) (t151 hw) (by decide) (lenOf pd7 rfl) rfl rfl (by decide) (by decide) (by decide) (by decide) rfl ?_
      rintro _ _ ⟨rfl, rfl⟩
      refine go_more (k' := 19) (n' := 65) (by decide) (by decide) ?_
      refine go_iload c0_292 rfl ?_
      refine go_push c0_293 ?_
      refine go_iadd c0_294 ?_
      refine go_if_ne c0_295 (fun b295 => ?_) (fun b295 => ?_)
      · refine go_push c0_302 ?_
        refine go_icmp_ne c0_303 (fun q => absurd (by simp [own_z, b295]) q) (fun _ => ?_)
        refine go_push c0_306 ?_
        refine go_goto c0_307 ?_
        refine go_istore c0_311 rfl rfl ?_
        dsimp only [setl]
        refine go_aload c0_313 rfl rfl ?_
        refine go_aload c0_315 rfl rfl ?_
        refine go_aload c0_317 rfl rfl ?_
        have P72 : Hp Z n0 h69 ([(a59, (.inl ("com/example/velvet_rope/velvetrope/lock/ElementLocks", [(("com/example/velvet_rope/velvetrope/lock/ElementLocks", "holders", "Ljava/util/List;"), (.ref l65)), (("com/example/velvet_rope/velvetrope/lock/ElementLocks", "queue", "Lcom/example/velvet_rope/velvetrope/lock/WaitingQueue;"), (.ref q63)), (("com/example/velvet_rope/velvetrope/lock/ElementLocks", "coming", "I"), (.int (sa + 1)))]))), (a51, (.inl ("com/example/velvet_rope/velvetrope/lock/TransactionLocks", [(("com/example/velvet_rope/velvetrope/lock/TransactionLocks", "held", "Ljava/util/Set;"), (.ref s56)), (("com/example/velvet_rope/velvetrope/lock/TransactionLocks", "began", "J"), (.long (bg ^^^ (-1)))), (("com/example/velvet_rope/velvetrope/lock/TransactionLocks", "comingTo", "Ljava/lang/String;"), .null), (("com/example/velvet_rope/velvetrope/lock/TransactionLocks", "waiting", "Lcom/example/velvet_rope/velvetrope/lock/Request;"), .null)]))), (l65, (.inl ("java/util/ArrayList", [(("java/util/AbstractList", "modCount", "I"), (.int 0)), (("java/util/ArrayList", "elementData", "[Ljava/lang/Object;"), (.ref r64)), (("java/util/ArrayList", "size", "I"), (.int 0))]))), (q63, (.inl ("com/example/velvet_rope/velvetrope/lock/WaitingQueue", [(("java/util/AbstractList", "modCount", "I"), (.int 0)), (("com/example/velvet_rope/velvetrope/lock/QueueList", "elements", "[Ljava/lang/Object;"), (.ref ny)), (("com/example/velvet_rope/velvetrope/lock/QueueList", "end", "I"), (.int 0)), (("com/example/velvet_rope/velvetrope/lock/QueueList", "start", "I"), (.int 0))]))), (a43, (.inl ("com/example/velvet_rope/velvetrope/lock/TransactionLocks", [(("com/example/velvet_rope/velvetrope/lock/TransactionLocks", "held", "Ljava/util/Set;"), (.ref s48)), (("com/example/velvet_rope/velvetrope/lock/TransactionLocks", "began", "J"), (.long bg)), (("com/example/velvet_rope/velvetrope/lock/TransactionLocks", "comingTo", "Ljava/lang/String;"), (.ref a10)), (("com/example/velvet_rope/velvetrope/lock/TransactionLocks", "waiting", "Lcom/example/velvet_rope/velvetrope/lock/Request;"), .null)]))), (r64, (.inr ((.object "java/lang/Object"), "[Ljava/lang/Object;", [.null, .null]))), (m55, (.inl ("java/util/HashMap", [(("java/util/HashMap", "loadFactor", "F"), (.float 1061158912))]))), (s56, (.inl ("java/util/HashSet", [(("java/util/HashSet", "map", "Ljava/util/HashMap;"), (.ref m55))]))), (m47, (.inl ("java/util/HashMap", [(("java/util/HashMap", "loadFactor", "F"), (.float 1061158912))]))), (s48, (.inl ("java/util/HashSet", [(("java/util/HashSet", "map", "Ljava/util/HashMap;"), (.ref m47))]))), (b40, (.inr (.byte, "[B", [(.int (nar .byte (nar .char ch5).toInt8.toInt32))]))), (a31, (.inr (.char, "[C", [(.int (nar .char ch5))]))), (a36, (.inl ("java/lang/String", [(("java/lang/String", "coder", "B"), (.int 0)), (("java/lang/String", "value", "[B"), (.ref b40))]))), (b28, (.inr (.byte, "[B", [(.int (nar .byte (nar .char ch3).toInt8.toInt32)), (.int (nar .byte (nar .char ch4).toInt8.toInt32))]))), (a17, (.inr (.char, "[C", [(.int (nar .char ch3)), (.int (nar .char ch4))]))), (a24, (.inl ("java/lang/String", [(("java/lang/String", "coder", "B"), (.int 0)), (("java/lang/String", "value", "[B"), (.ref b28))]))), (b14, (.inr (.byte, "[B", [(.int (nar .byte (nar .char ch1).toInt8.toInt32)), (.int (nar .byte (nar .char ch2).toInt8.toInt32))]))), (a3, (.inr (.char, "[C", [(.int (nar .char ch1)), (.int (nar .char ch2))]))), (a10, (.inl ("java/lang/String", [(("java/lang/String", "coder", "B"), (.int 0)), (("java/lang/String", "value", "[B"), (.ref b14))])))]) := ((P71.front 7).front 1)
        refine go_callS0 (y := x) (W := 0) (argsL := [(.ref a51), (.ref a24), (.ref a59)]) (st := []) c0_319 (rm_come l Z a0 hw h69 n0 a59 a51 a24 l65 q63 s56 (sa + 1) (bg ^^^ (-1)) .null _ P72) (t133 hw) (t134 hw) (t135 hw) (t136 hw) (by decide) (lenOf pd10 rfl) rfl rfl (by decide) (by decide) (by decide) (by decide) rfl ?_
        intro h73 P74
        refine go_more (k' := 19) (n' := 65) (by decide) (by decide) ?_
        rw [own_p2 sa] at P74
        refine go_aload c0_322 rfl rfl ?_
        refine go_get (y := x) P74 (0) 2 c0_324 rfl rfl (t131 hw) ?_
        refine go_iload c0_327 rfl ?_
        refine go_push c0_328 ?_
        refine go_iadd c0_329 ?_
        refine go_icmp_ne c0_330 (fun q => absurd rfl q) (fun _ => ?_)
        refine go_aload c0_333 rfl rfl ?_
        refine go_aload c0_335 rfl rfl ?_
        refine go_get (y := x) P74 (1) 2 c0_337 rfl rfl (t80 hw) ?_
        refine go_callV1 (y := x) (W := 0) (argsL := [(.ref a24)]) (st := []) c0_340 (rm_eqs l Z a0 hw h73 n0 a24) (P74.exa (i := 15) rfl) (t139 hw) (t140 hw) (fun _ q => notFace_of_selects (args := #[]) (mvT q (t142 hw))) (t142 hw) (t141 hw) (t3 hw) (t143 hw) (by decide) (lenOf pd11 rfl) rfl rfl (by decide) (by decide) (by decide) (by decide) rfl ?_
        rintro _ _ ⟨rfl, rfl⟩
        refine go_more (k' := 19) (n' := 65) (by decide) (by decide) ?_
        refine go_if_eq c0_343 (fun q => absurd q (by decide)) (fun _ => ?_)
        refine go_iload c0_346 rfl ?_
        refine go_if_ne c0_348 (fun q => absurd q (by decide)) (fun _ => ?_)
        refine go_aload c0_351 rfl rfl ?_
        refine go_aload c0_353 rfl rfl ?_
        refine go_get (y := x) P74 (4) 2 c0_355 rfl rfl (t80 hw) ?_
        refine go_callV1 (y := x) (W := 0) (argsL := [(.ref a10)]) (st := []) c0_358 (rm_eqs l Z a0 hw h73 n0 a10) (P74.exa (i := 18) rfl) (t139 hw) (t140 hw) (fun _ q => notFace_of_selects (args := #[]) (mvT q (t142 hw))) (t142 hw) (t141 hw) (t3 hw) (t143 hw) (by decide) (lenOf pd11 rfl) rfl rfl (by decide) (by decide) (by decide) (by decide) rfl ?_
        rintro _ _ ⟨rfl, rfl⟩
        refine go_more (k' := 19) (n' := 65) (by decide) (by decide) ?_
        refine go_if_eq c0_361 (fun q => absurd q (by decide)) (fun _ => ?_)
        refine go_aload c0_364 rfl rfl ?_
        refine go_get (y := x) P74 (1) 1 c0_366 rfl rfl (t144 hw) ?_
        refine go_iload c0_369 rfl ?_
        refine go_if_eq c0_371 (fun _ => ?_) (fun q => absurd q (by decide))
        refine go_lload c0_378 rfl ?_
        refine go_ldcJ (y := x) c0_379 (t79 hw) ?_
        refine go_lxor c0_382 ?_
        refine go_lcmp c0_383 ?_
        refine go_lc_ne c0_384 (fun q => absurd rfl q) (fun _ => ?_)
        refine go_aload c0_387 rfl rfl ?_
        refine go_get (y := x) P74 (1) 3 c0_389 rfl rfl (t145 hw) ?_
        refine go_nonnullF c0_392 ?_
        refine go_aload c0_395 rfl rfl ?_
        have P75 : Hp Z n0 h73 ([(a59, (.inl ("com/example/velvet_rope/velvetrope/lock/ElementLocks", [(("com/example/velvet_rope/velvetrope/lock/ElementLocks", "holders", "Ljava/util/List;"), (.ref l65)), (("com/example/velvet_rope/velvetrope/lock/ElementLocks", "queue", "Lcom/example/velvet_rope/velvetrope/lock/WaitingQueue;"), (.ref q63)), (("com/example/velvet_rope/velvetrope/lock/ElementLocks", "coming", "I"), (.int (sa + 2)))]))), (l65, (.inl ("java/util/ArrayList", [(("java/util/AbstractList", "modCount", "I"), (.int 0)), (("java/util/ArrayList", "elementData", "[Ljava/lang/Object;"), (.ref r64)), (("java/util/ArrayList", "size", "I"), (.int 0))]))), (q63, (.inl ("com/example/velvet_rope/velvetrope/lock/WaitingQueue", [(("java/util/AbstractList", "modCount", "I"), (.int 0)), (("com/example/velvet_rope/velvetrope/lock/QueueList", "elements", "[Ljava/lang/Object;"), (.ref ny)), (("com/example/velvet_rope/velvetrope/lock/QueueList", "end", "I"), (.int 0)), (("com/example/velvet_rope/velvetrope/lock/QueueList", "start", "I"), (.int 0))]))), (a51, (.inl ("com/example/velvet_rope/velvetrope/lock/TransactionLocks", [(("com/example/velvet_rope/velvetrope/lock/TransactionLocks", "held", "Ljava/util/Set;"), (.ref s56)), (("com/example/velvet_rope/velvetrope/lock/TransactionLocks", "began", "J"), (.long (bg ^^^ (-1)))), (("com/example/velvet_rope/velvetrope/lock/TransactionLocks", "comingTo", "Ljava/lang/String;"), (.ref a24)), (("com/example/velvet_rope/velvetrope/lock/TransactionLocks", "waiting", "Lcom/example/velvet_rope/velvetrope/lock/Request;"), .null)]))), (a43, (.inl ("com/example/velvet_rope/velvetrope/lock/TransactionLocks", [(("com/example/velvet_rope/velvetrope/lock/TransactionLocks", "held", "Ljava/util/Set;"), (.ref s48)), (("com/example/velvet_rope/velvetrope/lock/TransactionLocks", "began", "J"), (.long bg)), (("com/example/velvet_rope/velvetrope/lock/TransactionLocks", "comingTo", "Ljava/lang/String;"), (.ref a10)), (("com/example/velvet_rope/velvetrope/lock/TransactionLocks", "waiting", "Lcom/example/velvet_rope/velvetrope/lock/Request;"), .null)]))), (r64, (.inr ((.object "java/lang/Object"), "[Ljava/lang/Object;", [.null, .null]))), (m55, (.inl ("java/util/HashMap", [(("java/util/HashMap", "loadFactor", "F"), (.float 1061158912))]))), (s56, (.inl ("java/util/HashSet", [(("java/util/HashSet", "map", "Ljava/util/HashMap;"), (.ref m55))]))), (m47, (.inl ("java/util/HashMap", [(("java/util/HashMap", "loadFactor", "F"), (.float 1061158912))]))), (s48, (.inl ("java/util/HashSet", [(("java/util/HashSet", "map", "Ljava/util/HashMap;"), (.ref m47))]))), (b40, (.inr (.byte, "[B", [(.int (nar .byte (nar .char ch5).toInt8.toInt32))]))), (a31, (.inr (.char, "[C", [(.int (nar .char ch5))]))), (a36, (.inl ("java/lang/String", [(("java/lang/String", "coder", "B"), (.int 0)), (("java/lang/String", "value", "[B"), (.ref b40))]))), (b28, (.inr (.byte, "[B", [(.int (nar .byte (nar .char ch3).toInt8.toInt32)), (.int (nar .byte (nar .char ch4).toInt8.toInt32))]))), (a17, (.inr (.char, "[C", [(.int (nar .char ch3)), (.int (nar .char ch4))]))), (a24, (.inl ("java/lang/String", [(("java/lang/String", "coder", "B"), (.int 0)), (("java/lang/String", "value", "[B"), (.ref b28))]))), (b14, (.inr (.byte, "[B", [(.int (nar .byte (nar .char ch1).toInt8.toInt32)), (.int (nar .byte (nar .char ch2).toInt8.toInt32))]))), (a3, (.inr (.char, "[C", [(.int (nar .char ch1)), (.int (nar .char ch2))]))), (a10, (.inl ("java/lang/String", [(("java/lang/String", "coder", "B"), (.int 0)), (("java/lang/String", "value", "[B"), (.ref b14))])))]) := (((P74.front 3).front 3).front 2)
        refine go_callV1 (y := x) (W := 0) (argsL := []) (st := []) c0_397 (rm_idle l Z a0 hw h73 n0 a59 l65 q63 r64 ny (sa + 2) _ P75) (P75.exa (i := 0) rfl) (t147 hw) (t148 hw) (fun _ q => notFace_of_selects (args := #[]) (mvT q (t150 hw))) (t150 hw) (t149 hw) (t84 hw) (t151 hw) (by decide) (lenOf pd7 rfl) rfl rfl (by decide) (by decide) (by decide) (by decide) rfl ?_
        rintro _ _ ⟨rfl, rfl⟩
        refine go_more (k' := 19) (n' := 65) (by decide) (by decide) ?_
        refine go_iload c0_400 rfl ?_
        refine go_push c0_401 ?_
        refine go_iadd c0_402 ?_
        refine go_if_ne c0_403 (fun b403 => ?_) (fun b403 => ?_)
        · refine go_push c0_410 ?_
          refine go_icmp_ne c0_411 (fun q => absurd (by simp [own_z, b403]) q) (fun _ => ?_)
          refine go_push c0_414 ?_
          refine go_goto c0_415 ?_
          refine go_istore c0_419 rfl rfl ?_
          dsimp only [setl]
          refine go_iload c0_421 rfl ?_
          refine go_if_eq c0_423 (fun q => absurd q (by decide)) (fun _ => ?_)
          refine go_iload c0_426 rfl ?_
          refine go_if_eq c0_428 (fun q => absurd q (by decide)) (fun _ => ?_)
          refine go_push c0_431 ?_
          refine go_goto c0_432 ?_
          exact go_bret rfl c0_436 (by decide) (by decide) (by decide) ⟨_, rfl, rfl⟩
        · refine go_push c0_406 ?_
          refine go_goto c0_407 ?_
          refine go_icmp_ne c0_411 (fun q => absurd (by simp [own_z, b403]) q) (fun _ => ?_)
          refine go_push c0_414 ?_
          refine go_goto c0_415 ?_
          refine go_istore c0_419 rfl rfl ?_
          dsimp only [setl]
          refine go_iload c0_421 rfl ?_
          refine go_if_eq c0_423 (fun q => absurd q (by decide)) (fun _ => ?_)
          refine go_iload c0_426 rfl ?_
          refine go_if_eq c0_428 (fun q => absurd q (by decide)) (fun _ => ?_)
          refine go_push c0_431 ?_
          refine go_goto c0_432 ?_
          exact go_bret rfl c0_436 (by decide) (by decide) (by decide) ⟨_, rfl, rfl⟩
      · refine go_push c0_298 ?_
        refine go_goto c0_299 ?_
        refine go_icmp_ne c0_303 (fun q => absurd (by simp [own_z, b295]) q) (fun _ => ?_)
        refine go_push c0_306 ?_
        refine go_goto c0_307 ?_
        refine go_istore c0_311 rfl rfl ?_
        dsimp only [setl]
        refine go_aload c0_313 rfl rfl ?_
        refine go_aload c0_315 rfl rfl ?_
        refine go_aload c0_317 rfl rfl ?_
        have P76 : Hp Z n0 h69 ([(a59, (.inl ("com/example/velvet_rope/velvetrope/lock/ElementLocks", [(("com/example/velvet_rope/velvetrope/lock/ElementLocks", "holders", "Ljava/util/List;"), (.ref l65)), (("com/example/velvet_rope/velvetrope/lock/ElementLocks", "queue", "Lcom/example/velvet_rope/velvetrope/lock/WaitingQueue;"), (.ref q63)), (("com/example/velvet_rope/velvetrope/lock/ElementLocks", "coming", "I"), (.int (sa + 1)))]))), (a51, (.inl ("com/example/velvet_rope/velvetrope/lock/TransactionLocks", [(("com/example/velvet_rope/velvetrope/lock/TransactionLocks", "held", "Ljava/util/Set;"), (.ref s56)), (("com/example/velvet_rope/velvetrope/lock/TransactionLocks", "began", "J"), (.long (bg ^^^ (-1)))), (("com/example/velvet_rope/velvetrope/lock/TransactionLocks", "comingTo", "Ljava/lang/String;"), .null), (("com/example/velvet_rope/velvetrope/lock/TransactionLocks", "waiting", "Lcom/example/velvet_rope/velvetrope/lock/Request;"), .null)]))), (l65, (.inl ("java/util/ArrayList", [(("java/util/AbstractList", "modCount", "I"), (.int 0)), (("java/util/ArrayList", "elementData", "[Ljava/lang/Object;"), (.ref r64)), (("java/util/ArrayList", "size", "I"), (.int 0))]))), (q63, (.inl ("com/example/velvet_rope/velvetrope/lock/WaitingQueue", [(("java/util/AbstractList", "modCount", "I"), (.int 0)), (("com/example/velvet_rope/velvetrope/lock/QueueList", "elements", "[Ljava/lang/Object;"), (.ref ny)), (("com/example/velvet_rope/velvetrope/lock/QueueList", "end", "I"), (.int 0)), (("com/example/velvet_rope/velvetrope/lock/QueueList", "start", "I"), (.int 0))]))), (a43, (.inl ("com/example/velvet_rope/velvetrope/lock/TransactionLocks", [(("com/example/velvet_rope/velvetrope/lock/TransactionLocks", "held", "Ljava/util/Set;"), (.ref s48)), (("com/example/velvet_rope/velvetrope/lock/TransactionLocks", "began", "J"), (.long bg)), (("com/example/velvet_rope/velvetrope/lock/TransactionLocks", "comingTo", "Ljava/lang/String;"), (.ref a10)), (("com/example/velvet_rope/velvetrope/lock/TransactionLocks", "waiting", "Lcom/example/velvet_rope/velvetrope/lock/Request;"), .null)]))), (r64, (.inr ((.object "java/lang/Object"), "[Ljava/lang/Object;", [.null, .null]))), (m55, (.inl ("java/util/HashMap", [(("java/util/HashMap", "loadFactor", "F"), (.float 1061158912))]))), (s56, (.inl ("java/util/HashSet", [(("java/util/HashSet", "map", "Ljava/util/HashMap;"), (.ref m55))]))), (m47, (.inl ("java/util/HashMap", [(("java/util/HashMap", "loadFactor", "F"), (.float 1061158912))]))), (s48, (.inl ("java/util/HashSet", [(("java/util/HashSet", "map", "Ljava/util/HashMap;"), (.ref m47))]))), (b40, (.inr (.byte, "[B", [(.int (nar .byte (nar .char ch5).toInt8.toInt32))]))), (a31, (.inr (.char, "[C", [(.int (nar .char ch5))]))), (a36, (.inl ("java/lang/String", [(("java/lang/String", "coder", "B"), (.int 0)), (("java/lang/String", "value", "[B"), (.ref b40))]))), (b28, (.inr (.byte, "[B", [(.int (nar .byte (nar .char ch3).toInt8.toInt32)), (.int (nar .byte (nar .char ch4).toInt8.toInt32))]))), (a17, (.inr (.char, "[C", [(.int (nar .char ch3)), (.int (nar .char ch4))]))), (a24, (.inl ("java/lang/String", [(("java/lang/String", "coder", "B"), (.int 0)), (("java/lang/String", "value", "[B"), (.ref b28))]))), (b14, (.inr (.byte, "[B", [(.int (nar .byte (nar .char ch1).toInt8.toInt32)), (.int (nar .byte (nar .char ch2).toInt8.toInt32))]))), (a3, (.inr (.char, "[C", [(.int (nar .char ch1)), (.int (nar .char ch2))]))), (a10, (.inl ("java/lang/String", [(("java/lang/String", "coder", "B"), (.int 0)), (("java/lang/String", "value", "[B"), (.ref b14))])))]) := ((P71.front 7).front 1)
        refine go_callS0 (y := x) (W := 0) (argsL := [(.ref a51), (.ref a24), (.ref a59)]) (st := []) c0_319 (rm_come l Z a0 hw h69 n0 a59 a51 a24 l65 q63 s56 (sa + 1) (bg ^^^ (-1)) .null _ P76) (t133 hw) (t134 hw) (t135 hw) (t136 hw) (by decide) (lenOf pd10 rfl) rfl rfl (by decide) (by decide) (by decide) (by decide) rfl ?_
        intro h77 P78
        refine go_more (k' := 19) (n' := 65) (by decide) (by decide) ?_
        rw [own_p2 sa] at P78
        refine go_aload c0_322 rfl rfl ?_
        refine go_get (y := x) P78 (0) 2 c0_324 rfl rfl (t131 hw) ?_
        refine go_iload c0_327 rfl ?_
        refine go_push c0_328 ?_
        refine go_iadd c0_329 ?_
        refine go_icmp_ne c0_330 (fun q => absurd rfl q) (fun _ => ?_)
        refine go_aload c0_333 rfl rfl ?_
        refine go_aload c0_335 rfl rfl ?_
        refine go_get (y := x) P78 (1) 2 c0_337 rfl rfl (t80 hw) ?_
        refine go_callV1 (y := x) (W := 0) (argsL := [(.ref a24)]) (st := []) c0_340 (rm_eqs l Z a0 hw h77 n0 a24) (P78.exa (i := 15) rfl) (t139 hw) (t140 hw) (fun _ q => notFace_of_selects (args := #[]) (mvT q (t142 hw))) (t142 hw) (t141 hw) (t3 hw) (t143 hw) (by decide) (lenOf pd11 rfl) rfl rfl (by decide) (by decide) (by decide) (by decide) rfl ?_
        rintro _ _ ⟨rfl, rfl⟩
        refine go_more (k' := 19) (n' := 65) (by decide) (by decide) ?_
        refine go_if_eq c0_343 (fun q => absurd q (by decide)) (fun _ => ?_)
        refine go_iload c0_346 rfl ?_
        refine go_if_ne c0_348 (fun q => absurd q (by decide)) (fun _ => ?_)
        refine go_aload c0_351 rfl rfl ?_
        refine go_aload c0_353 rfl rfl ?_
        refine go_get (y := x) P78 (4) 2 c0_355 rfl rfl (t80 hw) ?_
        refine go_callV1 (y := x) (W := 0) (argsL := [(.ref a10)]) (st := []) c0_358 (rm_eqs l Z a0 hw h77 n0 a10) (P78.exa (i := 18) rfl) (t139 hw) (t140 hw) (fun _ q => notFace_of_selects (args := #[]) (mvT q (t142 hw))) (t142 hw) (t141 hw) (t3 hw) (t143 hw) (by decide) (lenOf pd11 rfl) rfl rfl (by decide) (by decide) (by decide) (by decide) rfl ?_
        rintro _ _ ⟨rfl, rfl⟩
        refine go_more (k' := 19) (n' := 65) (by decide) (by decide) ?_
        refine go_if_eq c0_361 (fun q => absurd q (by decide)) (fun _ => ?_)
        refine go_aload c0_364 rfl rfl ?_
        refine go_get (y := x) P78 (1) 1 c0_366 rfl rfl (t144 hw) ?_
        refine go_iload c0_369 rfl ?_
        refine go_if_eq c0_371 (fun _ => ?_) (fun q => absurd q (by decide))
        refine go_lload c0_378 rfl ?_
        refine go_ldcJ (y := x) c0_379 (t79 hw) ?_
        refine go_lxor c0_382 ?_
        refine go_lcmp c0_383 ?_
        refine go_lc_ne c0_384 (fun q => absurd rfl q) (fun _ => ?_)
        refine go_aload c0_387 rfl rfl ?_
        refine go_get (y := x) P78 (1) 3 c0_389 rfl rfl (t145 hw) ?_
        refine go_nonnullF c0_392 ?_
        refine go_aload c0_395 rfl rfl ?_
        have P79 : Hp Z n0 h77 ([(a59, (.inl ("com/example/velvet_rope/velvetrope/lock/ElementLocks", [(("com/example/velvet_rope/velvetrope/lock/ElementLocks", "holders", "Ljava/util/List;"), (.ref l65)), (("com/example/velvet_rope/velvetrope/lock/ElementLocks", "queue", "Lcom/example/velvet_rope/velvetrope/lock/WaitingQueue;"), (.ref q63)), (("com/example/velvet_rope/velvetrope/lock/ElementLocks", "coming", "I"), (.int (sa + 2)))]))), (l65, (.inl ("java/util/ArrayList", [(("java/util/AbstractList", "modCount", "I"), (.int 0)), (("java/util/ArrayList", "elementData", "[Ljava/lang/Object;"), (.ref r64)), (("java/util/ArrayList", "size", "I"), (.int 0))]))), (q63, (.inl ("com/example/velvet_rope/velvetrope/lock/WaitingQueue", [(("java/util/AbstractList", "modCount", "I"), (.int 0)), (("com/example/velvet_rope/velvetrope/lock/QueueList", "elements", "[Ljava/lang/Object;"), (.ref ny)), (("com/example/velvet_rope/velvetrope/lock/QueueList", "end", "I"), (.int 0)), (("com/example/velvet_rope/velvetrope/lock/QueueList", "start", "I"), (.int 0))]))), (a51, (.inl ("com/example/velvet_rope/velvetrope/lock/TransactionLocks", [(("com/example/velvet_rope/velvetrope/lock/TransactionLocks", "held", "Ljava/util/Set;"), (.ref s56)), (("com/example/velvet_rope/velvetrope/lock/TransactionLocks", "began", "J"), (.long (bg ^^^ (-1)))), (("com/example/velvet_rope/velvetrope/lock/TransactionLocks", "comingTo", "Ljava/lang/String;"), (.ref a24)), (("com/example/velvet_rope/velvetrope/lock/TransactionLocks", "waiting", "Lcom/example/velvet_rope/velvetrope/lock/Request;"), .null)]))), (a43, (.inl ("com/example/velvet_rope/velvetrope/lock/TransactionLocks", [(("com/example/velvet_rope/velvetrope/lock/TransactionLocks", "held", "Ljava/util/Set;"), (.ref s48)), (("com/example/velvet_rope/velvetrope/lock/TransactionLocks", "began", "J"), (.long bg)), (("com/example/velvet_rope/velvetrope/lock/TransactionLocks", "comingTo", "Ljava/lang/String;"), (.ref a10)), (("com/example/velvet_rope/velvetrope/lock/TransactionLocks", "waiting", "Lcom/example/velvet_rope/velvetrope/lock/Request;"), .null)]))), (r64, (.inr ((.object "java/lang/Object"), "[Ljava/lang/Object;", [.null, .null]))), (m55, (.inl ("java/util/HashMap", [(("java/util/HashMap", "loadFactor", "F"), (.float 1061158912))]))), (s56, (.inl ("java/util/HashSet", [(("java/util/HashSet", "map", "Ljava/util/HashMap;"), (.ref m55))]))), (m47, (.inl ("java/util/HashMap", [(("java/util/HashMap", "loadFactor", "F"), (.float 1061158912))]))), (s48, (.inl ("java/util/HashSet", [(("java/util/HashSet", "map", "Ljava/util/HashMap;"), (.ref m47))]))), (b40, (.inr (.byte, "[B", [(.int (nar .byte (nar .char ch5).toInt8.toInt32))]))), (a31, (.inr (.char, "[C", [(.int (nar .char ch5))]))), (a36, (.inl ("java/lang/String", [(("java/lang/String", "coder", "B"), (.int 0)), (("java/lang/String", "value", "[B"), (.ref b40))]))), (b28, (.inr (.byte, "[B", [(.int (nar .byte (nar .char ch3).toInt8.toInt32)), (.int (nar .byte (nar .char ch4).toInt8.toInt32))]))), (a17, (.inr (.char, "[C", [(.int (nar .char ch3)), (.int (nar .char ch4))]))), (a24, (.inl ("java/lang/String", [(("java/lang/String", "coder", "B"), (.int 0)), (("java/lang/String", "value", "[B"), (.ref b28))]))), (b14, (.inr (.byte, "[B", [(.int (nar .byte (nar .char ch1).toInt8.toInt32)), (.int (nar .byte (nar .char ch2).toInt8.toInt32))]))), (a3, (.inr (.char, "[C", [(.int (nar .char ch1)), (.int (nar .char ch2))]))), (a10, (.inl ("java/lang/String", [(("java/lang/String", "coder", "B"), (.int 0)), (("java/lang/String", "value", "[B"), (.ref b14))])))]) := (((P78.front 3).front 3).front 2)
        refine go_callV1 (y := x) (W := 0) (argsL := []) (st := []) c0_397 (rm_idle l Z a0 hw h77 n0 a59 l65 q63 r64 ny (sa + 2) _ P79) (P79.exa (i := 0) rfl) (t147 hw) (t148 hw) (fun _ q => notFace_of_selects (args := #[]) (mvT q (t150 hw))) (t150 hw) (t149 hw) (t84 hw) (t151 hw) (by decide) (lenOf pd7 rfl) rfl rfl (by decide) (by decide) (by decide) (by decide) rfl ?_
        rintro _ _ ⟨rfl, rfl⟩
        refine go_more (k' := 19) (n' := 65) (by decide) (by decide) ?_
        refine go_iload c0_400 rfl ?_
        refine go_push c0_401 ?_
        refine go_iadd c0_402 ?_
        refine go_if_ne c0_403 (fun b403 => ?_) (fun b403 => ?_)
        · refine go_push c0_410 ?_
          refine go_icmp_ne c0_411 (fun q => absurd (by simp [own_z, b403]) q) (fun _ => ?_)
          refine go_push c0_414 ?_
          refine go_goto c0_415 ?_
          refine go_istore c0_419 rfl rfl ?_
          dsimp only [setl]
          refine go_iload c0_421 rfl ?_
          refine go_if_eq c0_423 (fun q => absurd q (by decide)) (fun _ => ?_)
          refine go_iload c0_426 rfl ?_
          refine go_if_eq c0_428 (fun q => absurd q (by decide)) (fun _ => ?_)
          refine go_push c0_431 ?_
          refine go_goto c0_432 ?_
          exact go_bret rfl c0_436 (by decide) (by decide) (by decide) ⟨_, rfl, rfl⟩
        · refine go_push c0_406 ?_
          refine go_goto c0_407 ?_
          refine go_icmp_ne c0_411 (fun q => absurd (by simp [own_z, b403]) q) (fun _ => ?_)
          refine go_push c0_414 ?_
          refine go_goto c0_415 ?_
          refine go_istore c0_419 rfl rfl ?_
          dsimp only [setl]
          refine go_iload c0_421 rfl ?_
          refine go_if_eq c0_423 (fun q => absurd q (by decide)) (fun _ => ?_)
          refine go_iload c0_426 rfl ?_
          refine go_if_eq c0_428 (fun q => absurd q (by decide)) (fun _ => ?_)
          refine go_push c0_431 ?_
          refine go_goto c0_432 ?_
          exact go_bret rfl c0_436 (by decide) (by decide) (by decide) ⟨_, rfl, rfl⟩
    · refine go_push c0_184 ?_
      refine go_goto c0_185 ?_
      refine go_istore c0_189 rfl rfl ?_
      dsimp only [setl]
      refine go_iload c0_191 rfl ?_
      refine go_if_eq c0_193 (fun q => absurd q (by decide)) (fun _ => ?_)
      refine go_aload c0_196 rfl rfl ?_
      refine go_goto c0_198 ?_
      refine go_astore c0_203 rfl rfl rfl ?_
      dsimp only [setl]
      refine go_aload c0_205 rfl rfl ?_
      refine go_get (y := x) P67 (6) 2 c0_207 rfl rfl (t80 hw) ?_
      refine go_astore c0_210 rfl rfl rfl ?_
      dsimp only [setl]
      refine go_aload c0_212 rfl rfl ?_
      refine go_aload c0_214 rfl rfl ?_
      refine go_aload c0_216 rfl rfl ?_
      have P80 : Hp Z n0 h66 ([(a59, (.inl ("com/example/velvet_rope/velvetrope/lock/ElementLocks", [(("com/example/velvet_rope/velvetrope/lock/ElementLocks", "holders", "Ljava/util/List;"), (.ref l65)), (("com/example/velvet_rope/velvetrope/lock/ElementLocks", "queue", "Lcom/example/velvet_rope/velvetrope/lock/WaitingQueue;"), (.ref q63)), (("com/example/velvet_rope/velvetrope/lock/ElementLocks", "coming", "I"), (.int sa))]))), (a43, (.inl ("com/example/velvet_rope/velvetrope/lock/TransactionLocks", [(("com/example/velvet_rope/velvetrope/lock/TransactionLocks", "held", "Ljava/util/Set;"), (.ref s48)), (("com/example/velvet_rope/velvetrope/lock/TransactionLocks", "began", "J"), (.long bg)), (("com/example/velvet_rope/velvetrope/lock/TransactionLocks", "comingTo", "Ljava/lang/String;"), .null), (("com/example/velvet_rope/velvetrope/lock/TransactionLocks", "waiting", "Lcom/example/velvet_rope/velvetrope/lock/Request;"), .null)]))), (q63, (.inl ("com/example/velvet_rope/velvetrope/lock/WaitingQueue", [(("java/util/AbstractList", "modCount", "I"), (.int 0)), (("com/example/velvet_rope/velvetrope/lock/QueueList", "elements", "[Ljava/lang/Object;"), (.ref ny)), (("com/example/velvet_rope/velvetrope/lock/QueueList", "end", "I"), (.int 0)), (("com/example/velvet_rope/velvetrope/lock/QueueList", "start", "I"), (.int 0))]))), (r64, (.inr ((.object "java/lang/Object"), "[Ljava/lang/Object;", [.null, .null]))), (l65, (.inl ("java/util/ArrayList", [(("java/util/AbstractList", "modCount", "I"), (.int 0)), (("java/util/ArrayList", "elementData", "[Ljava/lang/Object;"), (.ref r64)), (("java/util/ArrayList", "size", "I"), (.int 0))]))), (m55, (.inl ("java/util/HashMap", [(("java/util/HashMap", "loadFactor", "F"), (.float 1061158912))]))), (s56, (.inl ("java/util/HashSet", [(("java/util/HashSet", "map", "Ljava/util/HashMap;"), (.ref m55))]))), (a51, (.inl ("com/example/velvet_rope/velvetrope/lock/TransactionLocks", [(("com/example/velvet_rope/velvetrope/lock/TransactionLocks", "held", "Ljava/util/Set;"), (.ref s56)), (("com/example/velvet_rope/velvetrope/lock/TransactionLocks", "began", "J"), (.long (bg ^^^ (-1)))), (("com/example/velvet_rope/velvetrope/lock/TransactionLocks", "comingTo", "Ljava/lang/String;"), .null), (("com/example/velvet_rope/velvetrope/lock/TransactionLocks", "waiting", "Lcom/example/velvet_rope/velvetrope/lock/Request;"), .null)]))), (m47, (.inl ("java/util/HashMap", [(("java/util/HashMap", "loadFactor", "F"), (.float 1061158912))]))), (s48, (.inl ("java/util/HashSet", [(("java/util/HashSet", "map", "Ljava/util/HashMap;"), (.ref m47))]))), (b40, (.inr (.byte, "[B", [(.int (nar .byte (nar .char ch5).toInt8.toInt32))]))), (a31, (.inr (.char, "[C", [(.int (nar .char ch5))]))), (a36, (.inl ("java/lang/String", [(("java/lang/String", "coder", "B"), (.int 0)), (("java/lang/String", "value", "[B"), (.ref b40))]))), (b28, (.inr (.byte, "[B", [(.int (nar .byte (nar .char ch3).toInt8.toInt32)), (.int (nar .byte (nar .char ch4).toInt8.toInt32))]))), (a17, (.inr (.char, "[C", [(.int (nar .char ch3)), (.int (nar .char ch4))]))), (a24, (.inl ("java/lang/String", [(("java/lang/String", "coder", "B"), (.int 0)), (("java/lang/String", "value", "[B"), (.ref b28))]))), (b14, (.inr (.byte, "[B", [(.int (nar .byte (nar .char ch1).toInt8.toInt32)), (.int (nar .byte (nar .char ch2).toInt8.toInt32))]))), (a3, (.inr (.char, "[C", [(.int (nar .char ch1)), (.int (nar .char ch2))]))), (a10, (.inl ("java/lang/String", [(("java/lang/String", "coder", "B"), (.int 0)), (("java/lang/String", "value", "[B"), (.ref b14))])))]) := ((P67.front 9).front 4)
      refine go_callS0 (y := x) (W := 0) (argsL := [(.ref a43), (.ref a10), (.ref a59)]) (st := []) c0_218 (rm_come l Z a0 hw h66 n0 a59 a43 a10 l65 q63 s48 sa bg .null _ P80) (t133 hw) (t134 hw) (t135 hw) (t136 hw) (by decide) (lenOf pd10 rfl) rfl rfl (by decide) (by decide) (by decide) (by decide) rfl ?_
      intro h81 P82
      refine go_more (k' := 19) (n' := 65) (by decide) (by decide) ?_
      refine go_aload c0_221 rfl rfl ?_
      refine go_get (y := x) P82 (0) 2 c0_223 rfl rfl (t131 hw) ?_
      refine go_iload c0_226 rfl ?_
      refine go_push c0_227 ?_
      refine go_iadd c0_228 ?_
      refine go_icmp_ne c0_229 (fun q => absurd rfl q) (fun _ => ?_)
      refine go_aload c0_232 rfl rfl ?_
      refine go_aload c0_234 rfl rfl ?_
      refine go_get (y := x) P82 (1) 2 c0_236 rfl rfl (t80 hw) ?_
      refine go_callV1 (y := x) (W := 0) (argsL := [(.ref a10)]) (st := []) c0_239 (rm_eqs l Z a0 hw h81 n0 a10) (P82.exa (i := 18) rfl) (t139 hw) (t140 hw) (fun _ q => notFace_of_selects (args := #[]) (mvT q (t142 hw))) (t142 hw) (t141 hw) (t3 hw) (t143 hw) (by decide) (lenOf pd11 rfl) rfl rfl (by decide) (by decide) (by decide) (by decide) rfl ?_
      rintro _ _ ⟨rfl, rfl⟩
      refine go_more (k' := 19) (n' := 65) (by decide) (by decide) ?_
      refine go_if_eq c0_242 (fun q => absurd q (by decide)) (fun _ => ?_)
      refine go_aload c0_245 rfl rfl ?_
      refine go_get (y := x) P82 (1) 1 c0_247 rfl rfl (t144 hw) ?_
      refine go_lload c0_250 rfl ?_
      refine go_lcmp c0_251 ?_
      refine go_lc_ne c0_252 (fun q => absurd rfl q) (fun _ => ?_)
      refine go_aload c0_255 rfl rfl ?_
      refine go_get (y := x) P82 (1) 3 c0_257 rfl rfl (t145 hw) ?_
      refine go_nonnullF c0_260 ?_
      refine go_aload c0_263 rfl rfl ?_
      refine go_get (y := x) P82 (7) 2 c0_265 rfl rfl (t80 hw) ?_
      refine go_aload c0_268 rfl rfl ?_
      refine go_acmp_ne c0_270 rfl rfl (fun q => absurd rfl q) (fun _ => ?_)
      refine go_aload c0_273 rfl rfl ?_
      refine go_get (y := x) P82 (7) 1 c0_275 rfl rfl (t144 hw) ?_
      refine go_lload c0_278 rfl ?_
      refine go_ldcJ (y := x) c0_279 (t79 hw) ?_
      refine go_lxor c0_282 ?_
      refine go_lcmp c0_283 ?_
      refine go_lc_ne c0_284 (fun q => absurd rfl q) (fun _ => ?_)
      refine go_aload c0_287 rfl rfl ?_
      have P83 : Hp Z n0 h81 ([(a59, (.inl ("com/example/velvet_rope/velvetrope/lock/ElementLocks", [(("com/example/velvet_rope/velvetrope/lock/ElementLocks", "holders", "Ljava/util/List;"), (.ref l65)), (("com/example/velvet_rope/velvetrope/lock/ElementLocks", "queue", "Lcom/example/velvet_rope/velvetrope/lock/WaitingQueue;"), (.ref q63)), (("com/example/velvet_rope/velvetrope/lock/ElementLocks", "coming", "I"), (.int (sa + 1)))]))), (l65, (.inl ("java/util/ArrayList", [(("java/util/AbstractList", "modCount", "I"), (.int 0)), (("java/util/ArrayList", "elementData", "[Ljava/lang/Object;"), (.ref r64)), (("java/util/ArrayList", "size", "I"), (.int 0))]))), (q63, (.inl ("com/example/velvet_rope/velvetrope/lock/WaitingQueue", [(("java/util/AbstractList", "modCount", "I"), (.int 0)), (("com/example/velvet_rope/velvetrope/lock/QueueList", "elements", "[Ljava/lang/Object;"), (.ref ny)), (("com/example/velvet_rope/velvetrope/lock/QueueList", "end", "I"), (.int 0)), (("com/example/velvet_rope/velvetrope/lock/QueueList", "start", "I"), (.int 0))]))), (a43, (.inl ("com/example/velvet_rope/velvetrope/lock/TransactionLocks", [(("com/example/velvet_rope/velvetrope/lock/TransactionLocks", "held", "Ljava/util/Set;"), (.ref s48)), (("com/example/velvet_rope/velvetrope/lock/TransactionLocks", "began", "J"), (.long bg)), (("com/example/velvet_rope/velvetrope/lock/TransactionLocks", "comingTo", "Ljava/lang/String;"), (.ref a10)), (("com/example/velvet_rope/velvetrope/lock/TransactionLocks", "waiting", "Lcom/example/velvet_rope/velvetrope/lock/Request;"), .null)]))), (r64, (.inr ((.object "java/lang/Object"), "[Ljava/lang/Object;", [.null, .null]))), (m55, (.inl ("java/util/HashMap", [(("java/util/HashMap", "loadFactor", "F"), (.float 1061158912))]))), (s56, (.inl ("java/util/HashSet", [(("java/util/HashSet", "map", "Ljava/util/HashMap;"), (.ref m55))]))), (a51, (.inl ("com/example/velvet_rope/velvetrope/lock/TransactionLocks", [(("com/example/velvet_rope/velvetrope/lock/TransactionLocks", "held", "Ljava/util/Set;"), (.ref s56)), (("com/example/velvet_rope/velvetrope/lock/TransactionLocks", "began", "J"), (.long (bg ^^^ (-1)))), (("com/example/velvet_rope/velvetrope/lock/TransactionLocks", "comingTo", "Ljava/lang/String;"), .null), (("com/example/velvet_rope/velvetrope/lock/TransactionLocks", "waiting", "Lcom/example/velvet_rope/velvetrope/lock/Request;"), .null)]))), (m47, (.inl ("java/util/HashMap", [(("java/util/HashMap", "loadFactor", "F"), (.float 1061158912))]))), (s48, (.inl ("java/util/HashSet", [(("java/util/HashSet", "map", "Ljava/util/HashMap;"), (.ref m47))]))), (b40, (.inr (.byte, "[B", [(.int (nar .byte (nar .char ch5).toInt8.toInt32))]))), (a31, (.inr (.char, "[C", [(.int (nar .char ch5))]))), (a36, (.inl ("java/lang/String", [(("java/lang/String", "coder", "B"), (.int 0)), (("java/lang/String", "value", "[B"), (.ref b40))]))), (b28, (.inr (.byte, "[B", [(.int (nar .byte (nar .char ch3).toInt8.toInt32)), (.int (nar .byte (nar .char ch4).toInt8.toInt32))]))), (a17, (.inr (.char, "[C", [(.int (nar .char ch3)), (.int (nar .char ch4))]))), (a24, (.inl ("java/lang/String", [(("java/lang/String", "coder", "B"), (.int 0)), (("java/lang/String", "value", "[B"), (.ref b28))]))), (b14, (.inr (.byte, "[B", [(.int (nar .byte (nar .char ch1).toInt8.toInt32)), (.int (nar .byte (nar .char ch2).toInt8.toInt32))]))), (a3, (.inr (.char, "[C", [(.int (nar .char ch1)), (.int (nar .char ch2))]))), (a10, (.inl ("java/lang/String", [(("java/lang/String", "coder", "B"), (.int 0)), (("java/lang/String", "value", "[B"), (.ref b14))])))]) := (((P82.front 2).front 4).front 2)
      refine go_callV1 (y := x) (W := 0) (argsL := []) (st := []) c0_289 (rm_idle l Z a0 hw h81 n0 a59 l65 q63 r64 ny (sa + 1) _ P83) (P83.exa (i := 0) rfl) (t147 hw) (t148 hw) (fun _ q => notFace_of_selects (args := #[]) (mvT q (t150 hw))) (t150 hw) (t149 hw) (t84 hw) (t151 hw) (by decide) (lenOf pd7 rfl) rfl rfl (by decide) (by decide) (by decide) (by decide) rfl ?_
      rintro _ _ ⟨rfl, rfl⟩
      refine go_more (k' := 19) (n' := 65) (by decide) (by decide) ?_
      refine go_iload c0_292 rfl ?_
      refine go_push c0_293 ?_
      refine go_iadd c0_294 ?_
      refine go_if_ne c0_295 (fun b295 => ?_) (fun b295 => ?_)
      · refine go_push c0_302 ?_
        refine go_icmp_ne c0_303 (fun q => absurd (by simp [own_z, b295]) q) (fun _ => ?_)
        refine go_push c0_306 ?_
        refine go_goto c0_307 ?_
        refine go_istore c0_311 rfl rfl ?_
        dsimp only [setl]
        refine go_aload c0_313 rfl rfl ?_
        refine go_aload c0_315 rfl rfl ?_
        refine go_aload c0_317 rfl rfl ?_
        have P84 : Hp Z n0 h81 ([(a59, (.inl ("com/example/velvet_rope/velvetrope/lock/ElementLocks", [(("com/example/velvet_rope/velvetrope/lock/ElementLocks", "holders", "Ljava/util/List;"), (.ref l65)), (("com/example/velvet_rope/velvetrope/lock/ElementLocks", "queue", "Lcom/example/velvet_rope/velvetrope/lock/WaitingQueue;"), (.ref q63)), (("com/example/velvet_rope/velvetrope/lock/ElementLocks", "coming", "I"), (.int (sa + 1)))]))), (a43, (.inl ("com/example/velvet_rope/velvetrope/lock/TransactionLocks", [(("com/example/velvet_rope/velvetrope/lock/TransactionLocks", "held", "Ljava/util/Set;"), (.ref s48)), (("com/example/velvet_rope/velvetrope/lock/TransactionLocks", "began", "J"), (.long bg)), (("com/example/velvet_rope/velvetrope/lock/TransactionLocks", "comingTo", "Ljava/lang/String;"), (.ref a10)), (("com/example/velvet_rope/velvetrope/lock/TransactionLocks", "waiting", "Lcom/example/velvet_rope/velvetrope/lock/Request;"), .null)]))), (l65, (.inl ("java/util/ArrayList", [(("java/util/AbstractList", "modCount", "I"), (.int 0)), (("java/util/ArrayList", "elementData", "[Ljava/lang/Object;"), (.ref r64)), (("java/util/ArrayList", "size", "I"), (.int 0))]))), (q63, (.inl ("com/example/velvet_rope/velvetrope/lock/WaitingQueue", [(("java/util/AbstractList", "modCount", "I"), (.int 0)), (("com/example/velvet_rope/velvetrope/lock/QueueList", "elements", "[Ljava/lang/Object;"), (.ref ny)), (("com/example/velvet_rope/velvetrope/lock/QueueList", "end", "I"), (.int 0)), (("com/example/velvet_rope/velvetrope/lock/QueueList", "start", "I"), (.int 0))]))), (r64, (.inr ((.object "java/lang/Object"), "[Ljava/lang/Object;", [.null, .null]))), (m55, (.inl ("java/util/HashMap", [(("java/util/HashMap", "loadFactor", "F"), (.float 1061158912))]))), (s56, (.inl ("java/util/HashSet", [(("java/util/HashSet", "map", "Ljava/util/HashMap;"), (.ref m55))]))), (a51, (.inl ("com/example/velvet_rope/velvetrope/lock/TransactionLocks", [(("com/example/velvet_rope/velvetrope/lock/TransactionLocks", "held", "Ljava/util/Set;"), (.ref s56)), (("com/example/velvet_rope/velvetrope/lock/TransactionLocks", "began", "J"), (.long (bg ^^^ (-1)))), (("com/example/velvet_rope/velvetrope/lock/TransactionLocks", "comingTo", "Ljava/lang/String;"), .null), (("com/example/velvet_rope/velvetrope/lock/TransactionLocks", "waiting", "Lcom/example/velvet_rope/velvetrope/lock/Request;"), .null)]))), (m47, (.inl ("java/util/HashMap", [(("java/util/HashMap", "loadFactor", "F"), (.float 1061158912))]))), (s48, (.inl ("java/util/HashSet", [(("java/util/HashSet", "map", "Ljava/util/HashMap;"), (.ref m47))]))), (b40, (.inr (.byte, "[B", [(.int (nar .byte (nar .char ch5).toInt8.toInt32))]))), (a31, (.inr (.char, "[C", [(.int (nar .char ch5))]))), (a36, (.inl ("java/lang/String", [(("java/lang/String", "coder", "B"), (.int 0)), (("java/lang/String", "value", "[B"), (.ref b40))]))), (b28, (.inr (.byte, "[B", [(.int (nar .byte (nar .char ch3).toInt8.toInt32)), (.int (nar .byte (nar .char ch4).toInt8.toInt32))]))), (a17, (.inr (.char, "[C", [(.int (nar .char ch3)), (.int (nar .char ch4))]))), (a24, (.inl ("java/lang/String", [(("java/lang/String", "coder", "B"), (.int 0)), (("java/lang/String", "value", "[B"), (.ref b28))]))), (b14, (.inr (.byte, "[B", [(.int (nar .byte (nar .char ch1).toInt8.toInt32)), (.int (nar .byte (nar .char ch2).toInt8.toInt32))]))), (a3, (.inr (.char, "[C", [(.int (nar .char ch1)), (.int (nar .char ch2))]))), (a10, (.inl ("java/lang/String", [(("java/lang/String", "coder", "B"), (.int 0)), (("java/lang/String", "value", "[B"), (.ref b14))])))]) := ((P83.front 3).front 1)
        refine go_callS0 (y := x) (W := 0) (argsL := [(.ref a43), (.ref a24), (.ref a59)]) (st := []) c0_319 (rm_come l Z a0 hw h81 n0 a59 a43 a24 l65 q63 s48 (sa + 1) bg (.ref a10) _ P84) (t133 hw) (t134 hw) (t135 hw) (t136 hw) (by decide) (lenOf pd10 rfl) rfl rfl (by decide) (by decide) (by decide) (by decide) rfl ?_
        intro h85 P86
        refine go_more (k' := 19) (n' := 65) (by decide) (by decide) ?_
        rw [own_p2 sa] at P86
        refine go_aload c0_322 rfl rfl ?_
        refine go_get (y := x) P86 (0) 2 c0_324 rfl rfl (t131 hw) ?_
        refine go_iload c0_327 rfl ?_
        refine go_push c0_328 ?_
        refine go_iadd c0_329 ?_
        refine go_icmp_ne c0_330 (fun q => absurd rfl q) (fun _ => ?_)
        refine go_aload c0_333 rfl rfl ?_
        refine go_aload c0_335 rfl rfl ?_
        refine go_get (y := x) P86 (1) 2 c0_337 rfl rfl (t80 hw) ?_
        refine go_callV1 (y := x) (W := 0) (argsL := [(.ref a24)]) (st := []) c0_340 (rm_eqs l Z a0 hw h85 n0 a24) (P86.exa (i := 15) rfl) (t139 hw) (t140 hw) (fun _ q => notFace_of_selects (args := #[]) (mvT q (t142 hw))) (t142 hw) (t141 hw) (t3 hw) (t143 hw) (by decide) (lenOf pd11 rfl) rfl rfl (by decide) (by decide) (by decide) (by decide) rfl ?_
        rintro _ _ ⟨rfl, rfl⟩
        refine go_more (k' := 19) (n' := 65) (by decide) (by decide) ?_
        refine go_if_eq c0_343 (fun q => absurd q (by decide)) (fun _ => ?_)
        refine go_iload c0_346 rfl ?_
        refine go_if_ne c0_348 (fun _ => ?_) (fun q => absurd q (by decide))
        refine go_aload c0_364 rfl rfl ?_
        refine go_get (y := x) P86 (1) 1 c0_366 rfl rfl (t144 hw) ?_
        refine go_iload c0_369 rfl ?_
        refine go_if_eq c0_371 (fun q => absurd q (by decide)) (fun _ => ?_)
        refine go_lload c0_374 rfl ?_
        refine go_goto c0_375 ?_
        refine go_lcmp c0_383 ?_
        refine go_lc_ne c0_384 (fun q => absurd rfl q) (fun _ => ?_)
        refine go_aload c0_387 rfl rfl ?_
        refine go_get (y := x) P86 (1) 3 c0_389 rfl rfl (t145 hw) ?_
        refine go_nonnullF c0_392 ?_
        refine go_aload c0_395 rfl rfl ?_
        have P87 : Hp Z n0 h85 ([(a59, (.inl ("com/example/velvet_rope/velvetrope/lock/ElementLocks", [(("com/example/velvet_rope/velvetrope/lock/ElementLocks", "holders", "Ljava/util/List;"), (.ref l65)), (("com/example/velvet_rope/velvetrope/lock/ElementLocks", "queue", "Lcom/example/velvet_rope/velvetrope/lock/WaitingQueue;"), (.ref q63)), (("com/example/velvet_rope/velvetrope/lock/ElementLocks", "coming", "I"), (.int (sa + 2)))]))), (l65, (.inl ("java/util/ArrayList", [(("java/util/AbstractList", "modCount", "I"), (.int 0)), (("java/util/ArrayList", "elementData", "[Ljava/lang/Object;"), (.ref r64)), (("java/util/ArrayList", "size", "I"), (.int 0))]))), (q63, (.inl ("com/example/velvet_rope/velvetrope/lock/WaitingQueue", [(("java/util/AbstractList", "modCount", "I"), (.int 0)), (("com/example/velvet_rope/velvetrope/lock/QueueList", "elements", "[Ljava/lang/Object;"), (.ref ny)), (("com/example/velvet_rope/velvetrope/lock/QueueList", "end", "I"), (.int 0)), (("com/example/velvet_rope/velvetrope/lock/QueueList", "start", "I"), (.int 0))]))), (a43, (.inl ("com/example/velvet_rope/velvetrope/lock/TransactionLocks", [(("com/example/velvet_rope/velvetrope/lock/TransactionLocks", "held", "Ljava/util/Set;"), (.ref s48)), (("com/example/velvet_rope/velvetrope/lock/TransactionLocks", "began", "J"), (.long bg)), (("com/example/velvet_rope/velvetrope/lock/TransactionLocks", "comingTo", "Ljava/lang/String;"), (.ref a24)), (("com/example/velvet_rope/velvetrope/lock/TransactionLocks", "waiting", "Lcom/example/velvet_rope/velvetrope/lock/Request;"), .null)]))), (r64, (.inr ((.object "java/lang/Object"), "[Ljava/lang/Object;", [.null, .null]))), (m55, (.inl ("java/util/HashMap", [(("java/util/HashMap", "loadFactor", "F"), (.float 1061158912))]))), (s56, (.inl ("java/util/HashSet", [(("java/util/HashSet", "map", "Ljava/util/HashMap;"), (.ref m55))]))), (a51, (.inl ("com/example/velvet_rope/velvetrope/lock/TransactionLocks", [(("com/example/velvet_rope/velvetrope/lock/TransactionLocks", "held", "Ljava/util/Set;"), (.ref s56)), (("com/example/velvet_rope/velvetrope/lock/TransactionLocks", "began", "J"), (.long (bg ^^^ (-1)))), (("com/example/velvet_rope/velvetrope/lock/TransactionLocks", "comingTo", "Ljava/lang/String;"), .null), (("com/example/velvet_rope/velvetrope/lock/TransactionLocks", "waiting", "Lcom/example/velvet_rope/velvetrope/lock/Request;"), .null)]))), (m47, (.inl ("java/util/HashMap", [(("java/util/HashMap", "loadFactor", "F"), (.float 1061158912))]))), (s48, (.inl ("java/util/HashSet", [(("java/util/HashSet", "map", "Ljava/util/HashMap;"), (.ref m47))]))), (b40, (.inr (.byte, "[B", [(.int (nar .byte (nar .char ch5).toInt8.toInt32))]))), (a31, (.inr (.char, "[C", [(.int (nar .char ch5))]))), (a36, (.inl ("java/lang/String", [(("java/lang/String", "coder", "B"), (.int 0)), (("java/lang/String", "value", "[B"), (.ref b40))]))), (b28, (.inr (.byte, "[B", [(.int (nar .byte (nar .char ch3).toInt8.toInt32)), (.int (nar .byte (nar .char ch4).toInt8.toInt32))]))), (a17, (.inr (.char, "[C", [(.int (nar .char ch3)), (.int (nar .char ch4))]))), (a24, (.inl ("java/lang/String", [(("java/lang/String", "coder", "B"), (.int 0)), (("java/lang/String", "value", "[B"), (.ref b28))]))), (b14, (.inr (.byte, "[B", [(.int (nar .byte (nar .char ch1).toInt8.toInt32)), (.int (nar .byte (nar .char ch2).toInt8.toInt32))]))), (a3, (.inr (.char, "[C", [(.int (nar .char ch1)), (.int (nar .char ch2))]))), (a10, (.inl ("java/lang/String", [(("java/lang/String", "coder", "B"), (.int 0)), (("java/lang/String", "value", "[B"), (.ref b14))])))]) := (((P86.front 3).front 3).front 2)
        refine go_callV1 (y := x) (W := 0) (argsL := []) (st := []) c0_397 (rm_idle l Z a0 hw h85 n0 a59 l65 q63 r64 ny (sa + 2) _ P87) (P87.exa (i := 0) rfl) (t147 hw) (t148 hw) (fun _ q => notFace_of_selects (args := #[]) (mvT q (t150 hw))) (t150 hw) (t149 hw) (t84 hw) (t151 hw) (by decide) (lenOf pd7 rfl) rfl rfl (by decide) (by decide) (by decide) (by decide) rfl ?_
        rintro _ _ ⟨rfl, rfl⟩
        refine go_more (k' := 19) (n' := 65) (by decide) (by decide) ?_
        refine go_iload c0_400 rfl ?_
        refine go_push c0_401 ?_
        refine go_iadd c0_402 ?_
        refine go_if_ne c0_403 (fun b403 => ?_) (fun b403 => ?_)
        · refine go_push c0_410 ?_
          refine go_icmp_ne c0_411 (fun q => absurd (by simp [own_z, b403]) q) (fun _ => ?_)
          refine go_push c0_414 ?_
          refine go_goto c0_415 ?_
          refine go_istore c0_419 rfl rfl ?_
          dsimp only [setl]
          refine go_iload c0_421 rfl ?_
          refine go_if_eq c0_423 (fun q => absurd q (by decide)) (fun _ => ?_)
          refine go_iload c0_426 rfl ?_
          refine go_if_eq c0_428 (fun q => absurd q (by decide)) (fun _ => ?_)
          refine go_push c0_431 ?_
          refine go_goto c0_432 ?_
          exact go_bret rfl c0_436 (by decide) (by decide) (by decide) ⟨_, rfl, rfl⟩
        · refine go_push c0_406 ?_
          refine go_goto c0_407 ?_
          refine go_icmp_ne c0_411 (fun q => absurd (by simp [own_z, b403]) q) (fun _ => ?_)
          refine go_push c0_414 ?_
          refine go_goto c0_415 ?_
          refine go_istore c0_419 rfl rfl ?_
          dsimp only [setl]
          refine go_iload c0_421 rfl ?_
          refine go_if_eq c0_423 (fun q => absurd q (by decide)) (fun _ => ?_)
          refine go_iload c0_426 rfl ?_
          refine go_if_eq c0_428 (fun q => absurd q (by decide)) (fun _ => ?_)
          refine go_push c0_431 ?_
          refine go_goto c0_432 ?_
          exact go_bret rfl c0_436 (by decide) (by decide) (by decide) ⟨_, rfl, rfl⟩
      · refine go_push c0_298 ?_
        refine go_goto c0_299 ?_
        refine go_icmp_ne c0_303 (fun q => absurd (by simp [own_z, b295]) q) (fun _ => ?_)
        refine go_push c0_306 ?_
        refine go_goto c0_307 ?_
        refine go_istore c0_311 rfl rfl ?_
        dsimp only [setl]
        refine go_aload c0_313 rfl rfl ?_
        refine go_aload c0_315 rfl rfl ?_
        refine go_aload c0_317 rfl rfl ?_
        have P88 : Hp Z n0 h81 ([(a59, (.inl ("com/example/velvet_rope/velvetrope/lock/ElementLocks", [(("com/example/velvet_rope/velvetrope/lock/ElementLocks", "holders", "Ljava/util/List;"), (.ref l65)), (("com/example/velvet_rope/velvetrope/lock/ElementLocks", "queue", "Lcom/example/velvet_rope/velvetrope/lock/WaitingQueue;"), (.ref q63)), (("com/example/velvet_rope/velvetrope/lock/ElementLocks", "coming", "I"), (.int (sa + 1)))]))), (a43, (.inl ("com/example/velvet_rope/velvetrope/lock/TransactionLocks", [(("com/example/velvet_rope/velvetrope/lock/TransactionLocks", "held", "Ljava/util/Set;"), (.ref s48)), (("com/example/velvet_rope/velvetrope/lock/TransactionLocks", "began", "J"), (.long bg)), (("com/example/velvet_rope/velvetrope/lock/TransactionLocks", "comingTo", "Ljava/lang/String;"), (.ref a10)), (("com/example/velvet_rope/velvetrope/lock/TransactionLocks", "waiting", "Lcom/example/velvet_rope/velvetrope/lock/Request;"), .null)]))), (l65, (.inl ("java/util/ArrayList", [(("java/util/AbstractList", "modCount", "I"), (.int 0)), (("java/util/ArrayList", "elementData", "[Ljava/lang/Object;"), (.ref r64)), (("java/util/ArrayList", "size", "I"), (.int 0))]))), (q63, (.inl ("com/example/velvet_rope/velvetrope/lock/WaitingQueue", [(("java/util/AbstractList", "modCount", "I"), (.int 0)), (("com/example/velvet_rope/velvetrope/lock/QueueList", "elements", "[Ljava/lang/Object;"), (.ref ny)), (("com/example/velvet_rope/velvetrope/lock/QueueList", "end", "I"), (.int 0)), (("com/example/velvet_rope/velvetrope/lock/QueueList", "start", "I"), (.int 0))]))), (r64, (.inr ((.object "java/lang/Object"), "[Ljava/lang/Object;", [.null, .null]))), (m55, (.inl ("java/util/HashMap", [(("java/util/HashMap", "loadFactor", "F"), (.float 1061158912))]))), (s56, (.inl ("java/util/HashSet", [(("java/util/HashSet", "map", "Ljava/util/HashMap;"), (.ref m55))]))), (a51, (.inl ("com/example/velvet_rope/velvetrope/lock/TransactionLocks", [(("com/example/velvet_rope/velvetrope/lock/TransactionLocks", "held", "Ljava/util/Set;"), (.ref s56)), (("com/example/velvet_rope/velvetrope/lock/TransactionLocks", "began", "J"), (.long (bg ^^^ (-1)))), (("com/example/velvet_rope/velvetrope/lock/TransactionLocks", "comingTo", "Ljava/lang/String;"), .null), (("com/example/velvet_rope/velvetrope/lock/TransactionLocks", "waiting", "Lcom/example/velvet_rope/velvetrope/lock/Request;"), .null)]))), (m47, (.inl ("java/util/HashMap", [(("java/util/HashMap", "loadFactor", "F"), (.float 1061158912))]))), (s48, (.inl ("java/util/HashSet", [(("java/util/HashSet", "map", "Ljava/util/HashMap;"), (.ref m47))]))), (b40, (.inr (.byte, "[B", [(.int (nar .byte (nar .char ch5).toInt8.toInt32))]))), (a31, (.inr (.char, "[C", [(.int (nar .char ch5))]))), (a36, (.inl ("java/lang/String", [(("java/lang/String", "coder", "B"), (.int 0)), (("java/lang/String", "value", "[B"), (.ref b40))]))), (b28, (.inr (.byte, "[B", [(.int (nar .byte (nar .char ch3).toInt8.toInt32)), (.int (nar .byte (nar .char ch4).toInt8.toInt32))]))), (a17, (.inr (.char, "[C", [(.int (nar .char ch3)), (.int (nar .char ch4))]))), (a24, (.inl ("java/lang/String", [(("java/lang/String", "coder", "B"), (.int 0)), (("java/lang/String", "value", "[B"), (.ref b28))]))), (b14, (.inr (.byte, "[B", [(.int (nar .byte (nar .char ch1).toInt8.toInt32)), (.int (nar .byte (nar .char ch2).toInt8.toInt32))]))), (a3, (.inr (.char, "[C", [(.int (nar .char ch1)), (.int (nar .char ch2))]))), (a10, (.inl ("java/lang/String", [(("java/lang/String", "coder", "B"), (.int 0)), (("java/lang/String", "value", "[B"), (.ref b14))])))]) := ((P83.front 3).front 1)
        refine go_callS0 (y := x) (W := 0) (argsL := [(.ref a43), (.ref a24), (.ref a59)]) (st := []) c0_319 (rm_come l Z a0 hw h81 n0 a59 a43 a24 l65 q63 s48 (sa + 1) bg (.ref a10) _ P88) (t133 hw) (t134 hw) (t135 hw) (t136 hw) (by decide) (lenOf pd10 rfl) rfl rfl (by decide) (by decide) (by decide) (by decide) rfl ?_
        intro h89 P90
        refine go_more (k' := 19) (n' := 65) (by decide) (by decide) ?_
        rw [own_p2 sa] at P90
        refine go_aload c0_322 rfl rfl ?_
        refine go_get (y := x) P90 (0) 2 c0_324 rfl rfl (t131 hw) ?_
        refine go_iload c0_327 rfl ?_
        refine go_push c0_328 ?_
        refine go_iadd c0_329 ?_
        refine go_icmp_ne c0_330 (fun q => absurd rfl q) (fun _ => ?_)
        refine go_aload c0_333 rfl rfl ?_
        refine go_aload c0_335 rfl rfl ?_
        refine go_get (y := x) P90 (1) 2 c0_337 rfl rfl (t80 hw) ?_
        refine go_callV1 (y := x) (W := 0) (argsL := [(.ref a24)]) (st := []) c0_340 (rm_eqs l Z a0 hw h89 n0 a24) (P90.exa (i := 15) rfl) (t139 hw) (t140 hw) (fun _ q => notFace_of_selects (args := #[]) (mvT q (t142 hw))) (t142 hw) (t141 hw) (t3 hw) (t143 hw) (by decide) (lenOf pd11 rfl) rfl rfl (by decide) (by decide) (by decide) (by decide) rfl ?_
        rintro _ _ ⟨rfl, rfl⟩
        refine go_more (k' := 19) (n' := 65) (by decide) (by decide) ?_
        refine go_if_eq c0_343 (fun q => absurd q (by decide)) (fun _ => ?_)
        refine go_iload c0_346 rfl ?_
        refine go_if_ne c0_348 (fun _ => ?_) (fun q => absurd q (by decide))
        refine go_aload c0_364 rfl rfl ?_
        refine go_get (y := x) P90 (1) 1 c0_366 rfl rfl (t144 hw) ?_
        refine go_iload c0_369 rfl ?_
        refine go_if_eq c0_371 (fun q => absurd q (by decide)) (fun _ => ?_)
        refine go_lload c0_374 rfl ?_
        refine go_goto c0_375 ?_
        refine go_lcmp c0_383 ?_
        refine go_lc_ne c0_384 (fun q => absurd rfl q) (fun _ => ?_)
        refine go_aload c0_387 rfl rfl ?_
        refine go_get (y := x) P90 (1) 3 c0_389 rfl rfl (t145 hw) ?_
        refine go_nonnullF c0_392 ?_
        refine go_aload c0_395 rfl rfl ?_
        have P91 : Hp Z n0 h89 ([(a59, (.inl ("com/example/velvet_rope/velvetrope/lock/ElementLocks", [(("com/example/velvet_rope/velvetrope/lock/ElementLocks", "holders", "Ljava/util/List;"), (.ref l65)), (("com/example/velvet_rope/velvetrope/lock/ElementLocks", "queue", "Lcom/example/velvet_rope/velvetrope/lock/WaitingQueue;"), (.ref q63)), (("com/example/velvet_rope/velvetrope/lock/ElementLocks", "coming", "I"), (.int (sa + 2)))]))), (l65, (.inl ("java/util/ArrayList", [(("java/util/AbstractList", "modCount", "I"), (.int 0)), (("java/util/ArrayList", "elementData", "[Ljava/lang/Object;"), (.ref r64)), (("java/util/ArrayList", "size", "I"), (.int 0))]))), (q63, (.inl ("com/example/velvet_rope/velvetrope/lock/WaitingQueue", [(("java/util/AbstractList", "modCount", "I"), (.int 0)), (("com/example/velvet_rope/velvetrope/lock/QueueList", "elements", "[Ljava/lang/Object;"), (.ref ny)), (("com/example/velvet_rope/velvetrope/lock/QueueList", "end", "I"), (.int 0)), (("com/example/velvet_rope/velvetrope/lock/QueueList", "start", "I"), (.int 0))]))), (a43, (.inl ("com/example/velvet_rope/velvetrope/lock/TransactionLocks", [(("com/example/velvet_rope/velvetrope/lock/TransactionLocks", "held", "Ljava/util/Set;"), (.ref s48)), (("com/example/velvet_rope/velvetrope/lock/TransactionLocks", "began", "J"), (.long bg)), (("com/example/velvet_rope/velvetrope/lock/TransactionLocks", "comingTo", "Ljava/lang/String;"), (.ref a24)), (("com/example/velvet_rope/velvetrope/lock/TransactionLocks", "waiting", "Lcom/example/velvet_rope/velvetrope/lock/Request;"), .null)]))), (r64, (.inr ((.object "java/lang/Object"), "[Ljava/lang/Object;", [.null, .null]))), (m55, (.inl ("java/util/HashMap", [(("java/util/HashMap", "loadFactor", "F"), (.float 1061158912))]))), (s56, (.inl ("java/util/HashSet", [(("java/util/HashSet", "map", "Ljava/util/HashMap;"), (.ref m55))]))), (a51, (.inl ("com/example/velvet_rope/velvetrope/lock/TransactionLocks", [(("com/example/velvet_rope/velvetrope/lock/TransactionLocks", "held", "Ljava/util/Set;"), (.ref s56)), (("com/example/velvet_rope/velvetrope/lock/TransactionLocks", "began", "J"), (.long (bg ^^^ (-1)))), (("com/example/velvet_rope/velvetrope/lock/TransactionLocks", "comingTo", "Ljava/lang/String;"), .null), (("com/example/velvet_rope/velvetrope/lock/TransactionLocks", "waiting", "Lcom/example/velvet_rope/velvetrope/lock/Request;"), .null)]))), (m47, (.inl ("java/util/HashMap", [(("java/util/HashMap", "loadFactor", "F"), (.float 1061158912))]))), (s48, (.inl ("java/util/HashSet", [(("java/util/HashSet", "map", "Ljava/util/HashMap;"), (.ref m47))]))), (b40, (.inr (.byte, "[B", [(.int (nar .byte (nar .char ch5).toInt8.toInt32))]))), (a31, (.inr (.char, "[C", [(.int (nar .char ch5))]))), (a36, (.inl ("java/lang/String", [(("java/lang/String", "coder", "B"), (.int 0)), (("java/lang/String", "value", "[B"), (.ref b40))]))), (b28, (.inr (.byte, "[B", [(.int (nar .byte (nar .char ch3).toInt8.toInt32)), (.int (nar .byte (nar .char ch4).toInt8.toInt32))]))), (a17, (.inr (.char, "[C", [(.int (nar .char ch3)), (.int (nar .char ch4))]))), (a24, (.inl ("java/lang/String", [(("java/lang/String", "coder", "B"), (.int 0)), (("java/lang/String", "value", "[B"), (.ref b28))]))), (b14, (.inr (.byte, "[B", [(.int (nar .byte (nar .char ch1).toInt8.toInt32)), (.int (nar .byte (nar .char ch2).toInt8.toInt32))]))), (a3, (.inr (.char, "[C", [(.int (nar .char ch1)), (.int (nar .char ch2))]))), (a10, (.inl ("java/lang/String", [(("java/lang/String", "coder", "B"), (.int 0)), (("java/lang/String", "value", "[B"), (.ref b14))])))]) := (((P90.front 3).front 3).front 2)
        refine go_callV1 (y := x) (W := 0) (argsL := []) (st := []) c0_397 (rm_idle l Z a0 hw h89 n0 a59 l65 q63 r64 ny (sa + 2) _ P91) (P91.exa (i := 0) rfl) (t147 hw) (t148 hw) (fun _ q => notFace_of_selects (args := #[]) (mvT q (t150 hw))) (t150 hw) (t149 hw) (t84 hw) (t151 hw) (by decide) (lenOf pd7 rfl) rfl rfl (by decide) (by decide) (by decide) (by decide) rfl ?_
        rintro _ _ ⟨rfl, rfl⟩
        refine go_more (k' := 19) (n' := 65) (by decide) (by decide) ?_
        refine go_iload c0_400 rfl ?_
        refine go_push c0_401 ?_
        refine go_iadd c0_402 ?_
        refine go_if_ne c0_403 (fun b403 => ?_) (fun b403 => ?_)
        · refine go_push c0_410 ?_
          refine go_icmp_ne c0_411 (fun q => absurd (by simp [own_z, b403]) q) (fun _ => ?_)
          refine go_push c0_414 ?_
          refine go_goto c0_415 ?_
          refine go_istore c0_419 rfl rfl ?_
          dsimp only [setl]
          refine go_iload c0_421 rfl ?_
          refine go_if_eq c0_423 (fun q => absurd q (by decide)) (fun _ => ?_)
          refine go_iload c0_426 rfl ?_
          refine go_if_eq c0_428 (fun q => absurd q (by decide)) (fun _ => ?_)
          refine go_push c0_431 ?_
          refine go_goto c0_432 ?_
          exact go_bret rfl c0_436 (by decide) (by decide) (by decide) ⟨_, rfl, rfl⟩
        · refine go_push c0_406 ?_
          refine go_goto c0_407 ?_
          refine go_icmp_ne c0_411 (fun q => absurd (by simp [own_z, b403]) q) (fun _ => ?_)
          refine go_push c0_414 ?_
          refine go_goto c0_415 ?_
          refine go_istore c0_419 rfl rfl ?_
          dsimp only [setl]
          refine go_iload c0_421 rfl ?_
          refine go_if_eq c0_423 (fun q => absurd q (by decide)) (fun _ => ?_)
          refine go_iload c0_426 rfl ?_
          refine go_if_eq c0_428 (fun q => absurd q (by decide)) (fun _ => ?_)
          refine go_push c0_431 ?_
          refine go_goto c0_432 ?_
          exact go_bret rfl c0_436 (by decide) (by decide) (by decide) ⟨_, rfl, rfl⟩
  · refine go_push c0_136 ?_
    refine go_goto c0_137 ?_
    refine go_istore c0_141 rfl rfl ?_
    dsimp only [setl]
    refine go_iload c0_143 rfl ?_
    refine go_if_eq c0_145 (fun q => absurd q (by decide)) (fun _ => ?_)
    refine go_aload c0_148 rfl rfl ?_
    refine go_aload c0_150 rfl rfl ?_
    refine go_put (y := x) P54 5 2 (.object "java/lang/String") c0_152 rfl rfl (t80 hw) (Or.inl (t81 hw)) (t31 hw) (by decide) rfl rfl ?_
    intro h92 P93
    dsimp only [lupd] at P93
    refine go_aload c0_155 rfl rfl ?_
    refine go_aload c0_157 rfl rfl ?_
    refine go_put (y := x) P93 2 2 (.object "java/lang/String") c0_159 rfl rfl (t80 hw) (Or.inl (t81 hw)) (t31 hw) (by decide) rfl rfl ?_
    intro h94 P95
    dsimp only [lupd] at P95
    refine go_new (y := x) P95 [(("com/example/velvet_rope/velvetrope/lock/ElementLocks", "holders", "Ljava/util/List;"), .null), (("com/example/velvet_rope/velvetrope/lock/ElementLocks", "queue", "Lcom/example/velvet_rope/velvetrope/lock/WaitingQueue;"), .null), (("com/example/velvet_rope/velvetrope/lock/ElementLocks", "coming", "I"), (.int 0))] c0_162 (t82 hw) (t83 hw) (t84 hw) (⟨⟨Or.inr (t110 hw), (.object "java/util/List"), by decide, rfl⟩, ⟨⟨Or.inr (t130 hw), (.object "com/example/velvet_rope/velvetrope/lock/WaitingQueue"), by decide, rfl⟩, ⟨⟨Or.inl (t132 hw), .int, by decide, rfl⟩, trivial⟩⟩⟩) (by decide) (by decide) (by decide) ?_
    intro h96 a98 P97
    refine go_more (k' := 16) (n' := 52) (by decide) (by decide) ?_
    refine go_dup c0_165 rfl ?_
    have P99 : Hp Z n0 h96 ([(a98, (.inl ("com/example/velvet_rope/velvetrope/lock/ElementLocks", [(("com/example/velvet_rope/velvetrope/lock/ElementLocks", "holders", "Ljava/util/List;"), .null), (("com/example/velvet_rope/velvetrope/lock/ElementLocks", "queue", "Lcom/example/velvet_rope/velvetrope/lock/WaitingQueue;"), .null), (("com/example/velvet_rope/velvetrope/lock/ElementLocks", "coming", "I"), (.int 0))]))), (m55, (.inl ("java/util/HashMap", [(("java/util/HashMap", "loadFactor", "F"), (.float 1061158912))]))), (s56, (.inl ("java/util/HashSet", [(("java/util/HashSet", "map", "Ljava/util/HashMap;"), (.ref m55))]))), (a51, (.inl ("com/example/velvet_rope/velvetrope/lock/TransactionLocks", [(("com/example/velvet_rope/velvetrope/lock/TransactionLocks", "held", "Ljava/util/Set;"), (.ref s56)), (("com/example/velvet_rope/velvetrope/lock/TransactionLocks", "began", "J"), (.long (bg ^^^ (-1)))), (("com/example/velvet_rope/velvetrope/lock/TransactionLocks", "comingTo", "Ljava/lang/String;"), (.ref a36)), (("com/example/velvet_rope/velvetrope/lock/TransactionLocks", "waiting", "Lcom/example/velvet_rope/velvetrope/lock/Request;"), .null)]))), (m47, (.inl ("java/util/HashMap", [(("java/util/HashMap", "loadFactor", "F"), (.float 1061158912))]))), (s48, (.inl ("java/util/HashSet", [(("java/util/HashSet", "map", "Ljava/util/HashMap;"), (.ref m47))]))), (a43, (.inl ("com/example/velvet_rope/velvetrope/lock/TransactionLocks", [(("com/example/velvet_rope/velvetrope/lock/TransactionLocks", "held", "Ljava/util/Set;"), (.ref s48)), (("com/example/velvet_rope/velvetrope/lock/TransactionLocks", "began", "J"), (.long bg)), (("com/example/velvet_rope/velvetrope/lock/TransactionLocks", "comingTo", "Ljava/lang/String;"), (.ref a36)), (("com/example/velvet_rope/velvetrope/lock/TransactionLocks", "waiting", "Lcom/example/velvet_rope/velvetrope/lock/Request;"), .null)]))), (b40, (.inr (.byte, "[B", [(.int (nar .byte (nar .char ch5).toInt8.toInt32))]))), (a31, (.inr (.char, "[C", [(.int (nar .char ch5))]))), (a36, (.inl ("java/lang/String", [(("java/lang/String", "coder", "B"), (.int 0)), (("java/lang/String", "value", "[B"), (.ref b40))]))), (b28, (.inr (.byte, "[B", [(.int (nar .byte (nar .char ch3).toInt8.toInt32)), (.int (nar .byte (nar .char ch4).toInt8.toInt32))]))), (a17, (.inr (.char, "[C", [(.int (nar .char ch3)), (.int (nar .char ch4))]))), (a24, (.inl ("java/lang/String", [(("java/lang/String", "coder", "B"), (.int 0)), (("java/lang/String", "value", "[B"), (.ref b28))]))), (b14, (.inr (.byte, "[B", [(.int (nar .byte (nar .char ch1).toInt8.toInt32)), (.int (nar .byte (nar .char ch2).toInt8.toInt32))]))), (a3, (.inr (.char, "[C", [(.int (nar .char ch1)), (.int (nar .char ch2))]))), (a10, (.inl ("java/lang/String", [(("java/lang/String", "coder", "B"), (.int 0)), (("java/lang/String", "value", "[B"), (.ref b14))])))]) := (P97.front 0)
    refine go_callN0 (y := x) (W := 1) (argsL := []) (st := [(.ref a98)]) c0_166 rfl rfl (rm_el l Z a0 hw h96 n0 a98 ny SN _ P99) (t85 hw) (t86 hw) (t84 hw) (t87 hw) (by decide) (lenOf pd4 rfl) rfl rfl (by decide) (by decide) (by decide) (by decide) rfl ?_
    rintro h100 ⟨q102, r103, l104, P101⟩
    refine go_more (k' := 19) (n' := 65) (by decide) (by decide) ?_
    refine go_astore c0_169 rfl rfl rfl ?_
    dsimp only [setl]
    refine go_aload c0_171 rfl rfl ?_
    refine go_iload c0_173 rfl ?_
    refine go_put (y := x) P101 3 2 .int c0_174 rfl rfl (t131 hw) (Or.inl (t132 hw)) (t83 hw) (by decide) rfl rfl ?_
    intro h105 P106
    dsimp only [lupd] at P106
    refine go_iload c0_177 rfl ?_
    refine go_push c0_179 ?_
    refine go_iand c0_180 ?_
    refine go_if_eq c0_181 (fun b181 => ?_) (fun b181 => ?_)
    · refine go_push c0_188 ?_
      refine go_istore c0_189 rfl rfl ?_
      dsimp only [setl]
      refine go_iload c0_191 rfl ?_
      refine go_if_eq c0_193 (fun _ => ?_) (fun q => absurd q (by decide))
      refine go_aload c0_201 rfl rfl ?_
      refine go_astore c0_203 rfl rfl rfl ?_
      dsimp only [setl]
      refine go_aload c0_205 rfl rfl ?_
      refine go_get (y := x) P106 (6) 2 c0_207 rfl rfl (t80 hw) ?_
      refine go_astore c0_210 rfl rfl rfl ?_
      dsimp only [setl]
      refine go_aload c0_212 rfl rfl ?_
      refine go_aload c0_214 rfl rfl ?_
      refine go_aload c0_216 rfl rfl ?_
      have P107 : Hp Z n0 h105 ([(a98, (.inl ("com/example/velvet_rope/velvetrope/lock/ElementLocks", [(("com/example/velvet_rope/velvetrope/lock/ElementLocks", "holders", "Ljava/util/List;"), (.ref l104)), (("com/example/velvet_rope/velvetrope/lock/ElementLocks", "queue", "Lcom/example/velvet_rope/velvetrope/lock/WaitingQueue;"), (.ref q102)), (("com/example/velvet_rope/velvetrope/lock/ElementLocks", "coming", "I"), (.int sa))]))), (a43, (.inl ("com/example/velvet_rope/velvetrope/lock/TransactionLocks", [(("com/example/velvet_rope/velvetrope/lock/TransactionLocks", "held", "Ljava/util/Set;"), (.ref s48)), (("com/example/velvet_rope/velvetrope/lock/TransactionLocks", "began", "J"), (.long bg)), (("com/example/velvet_rope/velvetrope/lock/TransactionLocks", "comingTo", "Ljava/lang/String;"), (.ref a36)), (("com/example/velvet_rope/velvetrope/lock/TransactionLocks", "waiting", "Lcom/example/velvet_rope/velvetrope/lock/Request;"), .null)]))), (q102, (.inl ("com/example/velvet_rope/velvetrope/lock/WaitingQueue", [(("java/util/AbstractList", "modCount", "I"), (.int 0)), (("com/example/velvet_rope/velvetrope/lock/QueueList", "elements", "[Ljava/lang/Object;"), (.ref ny)), (("com/example/velvet_rope/velvetrope/lock/QueueList", "end", "I"), (.int 0)), (("com/example/velvet_rope/velvetrope/lock/QueueList", "start", "I"), (.int 0))]))), (r103, (.inr ((.object "java/lang/Object"), "[Ljava/lang/Object;", [.null, .null]))), (l104, (.inl ("java/util/ArrayList", [(("java/util/AbstractList", "modCount", "I"), (.int 0)), (("java/util/ArrayList", "elementData", "[Ljava/lang/Object;"), (.ref r103)), (("java/util/ArrayList", "size", "I"), (.int 0))]))), (m55, (.inl ("java/util/HashMap", [(("java/util/HashMap", "loadFactor", "F"), (.float 1061158912))]))), (s56, (.inl ("java/util/HashSet", [(("java/util/HashSet", "map", "Ljava/util/HashMap;"), (.ref m55))]))), (a51, (.inl ("com/example/velvet_rope/velvetrope/lock/TransactionLocks", [(("com/example/velvet_rope/velvetrope/lock/TransactionLocks", "held", "Ljava/util/Set;"), (.ref s56)), (("com/example/velvet_rope/velvetrope/lock/TransactionLocks", "began", "J"), (.long (bg ^^^ (-1)))), (("com/example/velvet_rope/velvetrope/lock/TransactionLocks", "comingTo", "Ljava/lang/String;"), (.ref a36)), (("com/example/velvet_rope/velvetrope/lock/TransactionLocks", "waiting", "Lcom/example/velvet_rope/velvetrope/lock/Request;"), .null)]))), (m47, (.inl ("java/util/HashMap", [(("java/util/HashMap", "loadFactor", "F"), (.float 1061158912))]))), (s48, (.inl ("java/util/HashSet", [(("java/util/HashSet", "map", "Ljava/util/HashMap;"), (.ref m47))]))), (b40, (.inr (.byte, "[B", [(.int (nar .byte (nar .char ch5).toInt8.toInt32))]))), (a31, (.inr (.char, "[C", [(.int (nar .char ch5))]))), (a36, (.inl ("java/lang/String", [(("java/lang/String", "coder", "B"), (.int 0)), (("java/lang/String", "value", "[B"), (.ref b40))]))), (b28, (.inr (.byte, "[B", [(.int (nar .byte (nar .char ch3).toInt8.toInt32)), (.int (nar .byte (nar .char ch4).toInt8.toInt32))]))), (a17, (.inr (.char, "[C", [(.int (nar .char ch3)), (.int (nar .char ch4))]))), (a24, (.inl ("java/lang/String", [(("java/lang/String", "coder", "B"), (.int 0)), (("java/lang/String", "value", "[B"), (.ref b28))]))), (b14, (.inr (.byte, "[B", [(.int (nar .byte (nar .char ch1).toInt8.toInt32)), (.int (nar .byte (nar .char ch2).toInt8.toInt32))]))), (a3, (.inr (.char, "[C", [(.int (nar .char ch1)), (.int (nar .char ch2))]))), (a10, (.inl ("java/lang/String", [(("java/lang/String", "coder", "B"), (.int 0)), (("java/lang/String", "value", "[B"), (.ref b14))])))]) := ((P106.front 9).front 4)
      refine go_callS0 (y := x) (W := 0) (argsL := [(.ref a43), (.ref a10), (.ref a98)]) (st := []) c0_218 (rm_come l Z a0 hw h105 n0 a98 a43 a10 l104 q102 s48 sa bg (.ref a36) _ P107) (t133 hw) (t134 hw) (t135 hw) (t136 hw) (by decide) (lenOf pd10 rfl) rfl rfl (by decide) (by decide) (by decide) (by decide) rfl ?_
      intro h108 P109
      refine go_more (k' := 19) (n' := 65) (by decide) (by decide) ?_
      refine go_aload c0_221 rfl rfl ?_
      refine go_get (y := x) P109 (0) 2 c0_223 rfl rfl (t131 hw) ?_
      refine go_iload c0_226 rfl ?_
      refine go_push c0_227 ?_
      refine go_iadd c0_228 ?_
      refine go_icmp_ne c0_229 (fun q => absurd rfl q) (fun _ => ?_)
      refine go_aload c0_232 rfl rfl ?_
      refine go_aload c0_234 rfl rfl ?_
      refine go_get (y := x) P109 (1) 2 c0_236 rfl rfl (t80 hw) ?_
      refine go_callV1 (y := x) (W := 0) (argsL := [(.ref a10)]) (st := []) c0_239 (rm_eqs l Z a0 hw h108 n0 a10) (P109.exa (i := 18) rfl) (t139 hw) (t140 hw) (fun _ q => notFace_of_selects (args := #[]) (mvT q (t142 hw))) (t142 hw) (t141 hw) (t3 hw) (t143 hw) (by decide) (lenOf pd11 rfl) rfl rfl (by decide) (by decide) (by decide) (by decide) rfl ?_
      rintro _ _ ⟨rfl, rfl⟩
      refine go_more (k' := 19) (n' := 65) (by decide) (by decide) ?_
      refine go_if_eq c0_242 (fun q => absurd q (by decide)) (fun _ => ?_)
      refine go_aload c0_245 rfl rfl ?_
      refine go_get (y := x) P109 (1) 1 c0_247 rfl rfl (t144 hw) ?_
      refine go_lload c0_250 rfl ?_
      refine go_lcmp c0_251 ?_
      refine go_lc_ne c0_252 (fun q => absurd rfl q) (fun _ => ?_)
      refine go_aload c0_255 rfl rfl ?_
      refine go_get (y := x) P109 (1) 3 c0_257 rfl rfl (t145 hw) ?_
      refine go_nonnullF c0_260 ?_
      refine go_aload c0_263 rfl rfl ?_
      refine go_get (y := x) P109 (7) 2 c0_265 rfl rfl (t80 hw) ?_
      refine go_aload c0_268 rfl rfl ?_
      refine go_acmp_ne c0_270 rfl rfl (fun q => absurd rfl q) (fun _ => ?_)
      refine go_aload c0_273 rfl rfl ?_
      refine go_get (y := x) P109 (7) 1 c0_275 rfl rfl (t144 hw) ?_
      refine go_lload c0_278 rfl ?_
      refine go_ldcJ (y := x) c0_279 (t79 hw) ?_
      refine go_lxor c0_282 ?_
      refine go_lcmp c0_283 ?_
      refine go_lc_ne c0_284 (fun q => absurd rfl q) (fun _ => ?_)
      refine go_aload c0_287 rfl rfl ?_
      have P110 : Hp Z n0 h108 ([(a98, (.inl ("com/example/velvet_rope/velvetrope/lock/ElementLocks", [(("com/example/velvet_rope/velvetrope/lock/ElementLocks", "holders", "Ljava/util/List;"), (.ref l104)), (("com/example/velvet_rope/velvetrope/lock/ElementLocks", "queue", "Lcom/example/velvet_rope/velvetrope/lock/WaitingQueue;"), (.ref q102)), (("com/example/velvet_rope/velvetrope/lock/ElementLocks", "coming", "I"), (.int (sa + 1)))]))), (l104, (.inl ("java/util/ArrayList", [(("java/util/AbstractList", "modCount", "I"), (.int 0)), (("java/util/ArrayList", "elementData", "[Ljava/lang/Object;"), (.ref r103)), (("java/util/ArrayList", "size", "I"), (.int 0))]))), (q102, (.inl ("com/example/velvet_rope/velvetrope/lock/WaitingQueue", [(("java/util/AbstractList", "modCount", "I"), (.int 0)), (("com/example/velvet_rope/velvetrope/lock/QueueList", "elements", "[Ljava/lang/Object;"), (.ref ny)), (("com/example/velvet_rope/velvetrope/lock/QueueList", "end", "I"), (.int 0)), (("com/example/velvet_rope/velvetrope/lock/QueueList", "start", "I"), (.int 0))]))), (a43, (.inl ("com/example/velvet_rope/velvetrope/lock/TransactionLocks", [(("com/example/velvet_rope/velvetrope/lock/TransactionLocks", "held", "Ljava/util/Set;"), (.ref s48)), (("com/example/velvet_rope/velvetrope/lock/TransactionLocks", "began", "J"), (.long bg)), (("com/example/velvet_rope/velvetrope/lock/TransactionLocks", "comingTo", "Ljava/lang/String;"), (.ref a10)), (("com/example/velvet_rope/velvetrope/lock/TransactionLocks", "waiting", "Lcom/example/velvet_rope/velvetrope/lock/Request;"), .null)]))), (r103, (.inr ((.object "java/lang/Object"), "[Ljava/lang/Object;", [.null, .null]))), (m55, (.inl ("java/util/HashMap", [(("java/util/HashMap", "loadFactor", "F"), (.float 1061158912))]))), (s56, (.inl ("java/util/HashSet", [(("java/util/HashSet", "map", "Ljava/util/HashMap;"), (.ref m55))]))), (a51, (.inl ("com/example/velvet_rope/velvetrope/lock/TransactionLocks", [(("com/example/velvet_rope/velvetrope/lock/TransactionLocks", "held", "Ljava/util/Set;"), (.ref s56)), (("com/example/velvet_rope/velvetrope/lock/TransactionLocks", "began", "J"), (.long (bg ^^^ (-1)))), (("com/example/velvet_rope/velvetrope/lock/TransactionLocks", "comingTo", "Ljava/lang/String;"), (.ref a36)), (("com/example/velvet_rope/velvetrope/lock/TransactionLocks", "waiting", "Lcom/example/velvet_rope/velvetrope/lock/Request;"), .null)]))), (m47, (.inl ("java/util/HashMap", [(("java/util/HashMap", "loadFactor", "F"), (.float 1061158912))]))), (s48, (.inl ("java/util/HashSet", [(("java/util/HashSet", "map", "Ljava/util/HashMap;"), (.ref m47))]))), (b40, (.inr (.byte, "[B", [(.int (nar .byte (nar .char ch5).toInt8.toInt32))]))), (a31, (.inr (.char, "[C", [(.int (nar .char ch5))]))), (a36, (.inl ("java/lang/String", [(("java/lang/String", "coder", "B"), (.int 0)), (("java/lang/String", "value", "[B"), (.ref b40))]))), (b28, (.inr (.byte, "[B", [(.int (nar .byte (nar .char ch3).toInt8.toInt32)), (.int (nar .byte (nar .char ch4).toInt8.toInt32))]))), (a17, (.inr (.char, "[C", [(.int (nar .char ch3)), (.int (nar .char ch4))]))), (a24, (.inl ("java/lang/String", [(("java/lang/String", "coder", "B"), (.int 0)), (("java/lang/String", "value", "[B"), (.ref b28))]))), (b14, (.inr (.byte, "[B", [(.int (nar .byte (nar .char ch1).toInt8.toInt32)), (.int (nar .byte (nar .char ch2).toInt8.toInt32))]))), (a3, (.inr (.char, "[C", [(.int (nar .char ch1)), (.int (nar .char ch2))]))), (a10, (.inl ("java/lang/String", [(("java/lang/String", "coder", "B"), (.int 0)), (("java/lang/String", "value", "[B"), (.ref b14))])))]) := (((P109.front 2).front 4).front 2)
      refine go_callV1 (y := x) (W := 0) (argsL := []) (st := []) c0_289 (rm_idle l Z a0 hw h108 n0 a98 l104 q102 r103 ny (sa + 1) _ P110) (P110.exa (i := 0) rfl) (t147 hw) (t148 hw) (fun _ q => notFace_of_selects (args := #[]) (mvT q (t150 hw))) (t150 hw) (t149 hw) (t84 hw) (t151 hw) (by decide) (lenOf pd7 rfl) rfl rfl (by decide) (by decide) (by decide) (by decide) rfl ?_
      rintro _ _ ⟨rfl, rfl⟩
      refine go_more (k' := 19) (n' := 65) (by decide) (by decide) ?_
      refine go_iload c0_292 rfl ?_
      refine go_push c0_293 ?_
      refine go_iadd c0_294 ?_
      refine go_if_ne c0_295 (fun b295 => ?_) (fun b295 => ?_)
      · refine go_push c0_302 ?_
        refine go_icmp_ne c0_303 (fun q => absurd (by simp [own_z, b295]) q) (fun _ => ?_)
        refine go_push c0_306 ?_
        refine go_goto c0_307 ?_
        refine go_istore c0_311 rfl rfl ?_
        dsimp only [setl]
        refine go_aload c0_313 rfl rfl ?_
        refine go_aload c0_315 rfl rfl ?_
        refine go_aload c0_317 rfl rfl ?_
        have P111 : Hp Z n0 h108 ([(a98, (.inl ("com/example/velvet_rope/velvetrope/lock/ElementLocks", [(("com/example/velvet_rope/velvetrope/lock/ElementLocks", "holders", "Ljava/util/List;"), (.ref l104)), (("com/example/velvet_rope/velvetrope/lock/ElementLocks", "queue", "Lcom/example/velvet_rope/velvetrope/lock/WaitingQueue;"), (.ref q102)), (("com/example/velvet_rope/velvetrope/lock/ElementLocks", "coming", "I"), (.int (sa + 1)))]))), (a51, (.inl ("com/example/velvet_rope/velvetrope/lock/TransactionLocks", [(("com/example/velvet_rope/velvetrope/lock/TransactionLocks", "held", "Ljava/util/Set;"), (.ref s56)), (("com/example/velvet_rope/velvetrope/lock/TransactionLocks", "began", "J"), (.long (bg ^^^ (-1)))), (("com/example/velvet_rope/velvetrope/lock/TransactionLocks", "comingTo", "Ljava/lang/String;"), (.ref a36)), (("com/example/velvet_rope/velvetrope/lock/TransactionLocks", "waiting", "Lcom/example/velvet_rope/velvetrope/lock/Request;"), .null)]))), (l104, (.inl ("java/util/ArrayList", [(("java/util/AbstractList", "modCount", "I"), (.int 0)), (("java/util/ArrayList", "elementData", "[Ljava/lang/Object;"), (.ref r103)), (("java/util/ArrayList", "size", "I"), (.int 0))]))), (q102, (.inl ("com/example/velvet_rope/velvetrope/lock/WaitingQueue", [(("java/util/AbstractList", "modCount", "I"), (.int 0)), (("com/example/velvet_rope/velvetrope/lock/QueueList", "elements", "[Ljava/lang/Object;"), (.ref ny)), (("com/example/velvet_rope/velvetrope/lock/QueueList", "end", "I"), (.int 0)), (("com/example/velvet_rope/velvetrope/lock/QueueList", "start", "I"), (.int 0))]))), (a43, (.inl ("com/example/velvet_rope/velvetrope/lock/TransactionLocks", [(("com/example/velvet_rope/velvetrope/lock/TransactionLocks", "held", "Ljava/util/Set;"), (.ref s48)), (("com/example/velvet_rope/velvetrope/lock/TransactionLocks", "began", "J"), (.long bg)), (("com/example/velvet_rope/velvetrope/lock/TransactionLocks", "comingTo", "Ljava/lang/String;"), (.ref a10)), (("com/example/velvet_rope/velvetrope/lock/TransactionLocks", "waiting", "Lcom/example/velvet_rope/velvetrope/lock/Request;"), .null)]))), (r103, (.inr ((.object "java/lang/Object"), "[Ljava/lang/Object;", [.null, .null]))), (m55, (.inl ("java/util/HashMap", [(("java/util/HashMap", "loadFactor", "F"), (.float 1061158912))]))), (s56, (.inl ("java/util/HashSet", [(("java/util/HashSet", "map", "Ljava/util/HashMap;"), (.ref m55))]))), (m47, (.inl ("java/util/HashMap", [(("java/util/HashMap", "loadFactor", "F"), (.float 1061158912))]))), (s48, (.inl ("java/util/HashSet", [(("java/util/HashSet", "map", "Ljava/util/HashMap;"), (.ref m47))]))), (b40, (.inr (.byte, "[B", [(.int (nar .byte (nar .char ch5).toInt8.toInt32))]))), (a31, (.inr (.char, "[C", [(.int (nar .char ch5))]))), (a36, (.inl ("java/lang/String", [(("java/lang/String", "coder", "B"), (.int 0)), (("java/lang/String", "value", "[B"), (.ref b40))]))), (b28, (.inr (.byte, "[B", [(.int (nar .byte (nar .char ch3).toInt8.toInt32)), (.int (nar .byte (nar .char ch4).toInt8.toInt32))]))), (a17, (.inr (.char, "[C", [(.int (nar .char ch3)), (.int (nar .char ch4))]))), (a24, (.inl ("java/lang/String", [(("java/lang/String", "coder", "B"), (.int 0)), (("java/lang/String", "value", "[B"), (.ref b28))]))), (b14, (.inr (.byte, "[B", [(.int (nar .byte (nar .char ch1).toInt8.toInt32)), (.int (nar .byte (nar .char ch2).toInt8.toInt32))]))), (a3, (.inr (.char, "[C", [(.int (nar .char ch1)), (.int (nar .char ch2))]))), (a10, (.inl ("java/lang/String", [(("java/lang/String", "coder", "B"), (.int 0)), (("java/lang/String", "value", "[B"), (.ref b14))])))]) := ((P110.front 7).front 1)
        refine go_callS0 (y := x) (W := 0) (argsL := [(.ref a51), (.ref a24), (.ref a98)]) (st := []) c0_319 (rm_come l Z a0 hw h108 n0 a98 a51 a24 l104 q102 s56 (sa + 1) (bg ^^^ (-1)) (.ref a36) _ P111) (t133 hw) (t134 hw) (t135 hw) (t136 hw) (by decide) (lenOf pd10 rfl) rfl rfl (by decide) (by decide) (by decide) (by decide) rfl ?_
        intro h112 P113
        refine go_more (k' := 19) (n' := 65) (by decide) (by decide) ?_
        rw [own_p2 sa] at P113
        refine go_aload c0_322 rfl rfl ?_
        refine go_get (y := x) P113 (0) 2 c0_324 rfl rfl (t131 hw) ?_
        refine go_iload c0_327 rfl ?_
        refine go_push c0_328 ?_
        refine go_iadd c0_329 ?_
        refine go_icmp_ne c0_330 (fun q => absurd rfl q) (fun _ => ?_)
        refine go_aload c0_333 rfl rfl ?_
        refine go_aload c0_335 rfl rfl ?_
        refine go_get (y := x) P113 (1) 2 c0_337 rfl rfl (t80 hw) ?_
        refine go_callV1 (y := x) (W := 0) (argsL := [(.ref a24)]) (st := []) c0_340 (rm_eqs l Z a0 hw h112 n0 a24) (P113.exa (i := 15) rfl) (t139 hw) (t140 hw) (fun _ q => notFace_of_selects (args := #[]) (mvT q (t142 hw))) (t142 hw) (t141 hw) (t3 hw) (t143 hw) (by decide) (lenOf pd11 rfl) rfl rfl (by decide) (by decide) (by decide) (by decide) rfl ?_
        rintro _ _ ⟨rfl, rfl⟩
        refine go_more (k' := 19) (n' := 65) (by decide) (by decide) ?_
        refine go_if_eq c0_343 (fun q => absurd q (by decide)) (fun _ => ?_)
        refine go_iload c0_346 rfl ?_
        refine go_if_ne c0_348 (fun q => absurd q (by decide)) (fun _ => ?_)
        refine go_aload c0_351 rfl rfl ?_
        refine go_aload c0_353 rfl rfl ?_
        refine go_get (y := x) P113 (4) 2 c0_355 rfl rfl (t80 hw) ?_
        refine go_callV1 (y := x) (W := 0) (argsL := [(.ref a10)]) (st := []) c0_358 (rm_eqs l Z a0 hw h112 n0 a10) (P113.exa (i := 18) rfl) (t139 hw) (t140 hw) (fun _ q => notFace_of_selects (args := #[]) (mvT q (t142 hw))) (t142 hw) (t141 hw) (t3 hw) (t143 hw) (by decide) (lenOf pd11 rfl) rfl rfl (by decide) (by decide) (by decide) (by decide) rfl ?_
        rintro _ _ ⟨rfl, rfl⟩
        refine go_more (k' := 19) (n' := 65) (by decide) (by decide) ?_
        refine go_if_eq c0_361 (fun q => absurd q (by decide)) (fun _ => ?_)
        refine go_aload c0_364 rfl rfl ?_
        refine go_get (y := x) P113 (1) 1 c0_366 rfl rfl (t144 hw) ?_
        refine go_iload c0_369 rfl ?_
        refine go_if_eq c0_371 (fun _ => ?_) (fun q => absurd q (by decide))
        refine go_lload c0_378 rfl ?_
        refine go_ldcJ (y := x) c0_379 (t79 hw) ?_
        refine go_lxor c0_382 ?_
        refine go_lcmp c0_383 ?_
        refine go_lc_ne c0_384 (fun q => absurd rfl q) (fun _ => ?_)
        refine go_aload c0_387 rfl rfl ?_
        refine go_get (y := x) P113 (1) 3 c0_389 rfl rfl (t145 hw) ?_
        refine go_nonnullF c0_392 ?_
        refine go_aload c0_395 rfl rfl ?_
        have P114 : Hp Z n0 h112 ([(a98, (.inl ("com/example/velvet_rope/velvetrope/lock/ElementLocks", [(("com/example/velvet_rope/velvetrope/lock/ElementLocks", "holders", "Ljava/util/List;"), (.ref l104)), (("com/example/velvet_rope/velvetrope/lock/ElementLocks", "queue", "Lcom/example/velvet_rope/velvetrope/lock/WaitingQueue;"), (.ref q102)), (("com/example/velvet_rope/velvetrope/lock/ElementLocks", "coming", "I"), (.int (sa + 2)))]))), (l104, (.inl ("java/util/ArrayList", [(("java/util/AbstractList", "modCount", "I"), (.int 0)), (("java/util/ArrayList", "elementData", "[Ljava/lang/Object;"), (.ref r103)), (("java/util/ArrayList", "size", "I"), (.int 0))]))), (q102, (.inl ("com/example/velvet_rope/velvetrope/lock/WaitingQueue", [(("java/util/AbstractList", "modCount", "I"), (.int 0)), (("com/example/velvet_rope/velvetrope/lock/QueueList", "elements", "[Ljava/lang/Object;"), (.ref ny)), (("com/example/velvet_rope/velvetrope/lock/QueueList", "end", "I"), (.int 0)), (("com/example/velvet_rope/velvetrope/lock/QueueList", "start", "I"), (.int 0))]))), (a51, (.inl ("com/example/velvet_rope/velvetrope/lock/TransactionLocks", [(("com/example/velvet_rope/velvetrope/lock/TransactionLocks", "held", "Ljava/util/Set;"), (.ref s56)), (("com/example/velvet_rope/velvetrope/lock/TransactionLocks", "began", "J"), (.long (bg ^^^ (-1)))), (("com/example/velvet_rope/velvetrope/lock/TransactionLocks", "comingTo", "Ljava/lang/String;"), (.ref a24)), (("com/example/velvet_rope/velvetrope/lock/TransactionLocks", "waiting", "Lcom/example/velvet_rope/velvetrope/lock/Request;"), .null)]))), (a43, (.inl ("com/example/velvet_rope/velvetrope/lock/TransactionLocks", [(("com/example/velvet_rope/velvetrope/lock/TransactionLocks", "held", "Ljava/util/Set;"), (.ref s48)), (("com/example/velvet_rope/velvetrope/lock/TransactionLocks", "began", "J"), (.long bg)), (("com/example/velvet_rope/velvetrope/lock/TransactionLocks", "comingTo", "Ljava/lang/String;"), (.ref a10)), (("com/example/velvet_rope/velvetrope/lock/TransactionLocks", "waiting", "Lcom/example/velvet_rope/velvetrope/lock/Request;"), .null)]))), (r103, (.inr ((.object "java/lang/Object"), "[Ljava/lang/Object;", [.null, .null]))), (m55, (.inl ("java/util/HashMap", [(("java/util/HashMap", "loadFactor", "F"), (.float 1061158912))]))), (s56, (.inl ("java/util/HashSet", [(("java/util/HashSet", "map", "Ljava/util/HashMap;"), (.ref m55))]))), (m47, (.inl ("java/util/HashMap", [(("java/util/HashMap", "loadFactor", "F"), (.float 1061158912))]))), (s48, (.inl ("java/util/HashSet", [(("java/util/HashSet", "map", "Ljava/util/HashMap;"), (.ref m47))]))), (b40, (.inr (.byte, "[B", [(.int (nar .byte (nar .char ch5).toInt8.toInt32))]))), (a31, (.inr (.char, "[C", [(.int (nar .char ch5))]))), (a36, (.inl ("java/lang/String", [(("java/lang/String", "coder", "B"), (.int 0)), (("java/lang/String", "value", "[B"), (.ref b40))]))), (b28, (.inr (.byte, "[B", [(.int (nar .byte (nar .char ch3).toInt8.toInt32)), (.int (nar .byte (nar .char ch4).toInt8.toInt32))]))), (a17, (.inr (.char, "[C", [(.int (nar .char ch3)), (.int (nar .char ch4))]))), (a24, (.inl ("java/lang/String", [(("java/lang/String", "coder", "B"), (.int 0)), (("java/lang/String", "value", "[B"), (.ref b28))]))), (b14, (.inr (.byte, "[B", [(.int (nar .byte (nar .char ch1).toInt8.toInt32)), (.int (nar .byte (nar .char ch2).toInt8.toInt32))]))), (a3, (.inr (.char, "[C", [(.int (nar .char ch1)), (.int (nar .char ch2))]))), (a10, (.inl ("java/lang/String", [(("java/lang/String", "coder", "B"), (.int 0)), (("java/lang/String", "value", "[B"), (.ref b14))])))]) := (((P113.front 3).front 3).front 2)
        refine go_callV1 (y := x) (W := 0) (argsL := []) (st := []) c0_397 (rm_idle l Z a0 hw h112 n0 a98 l104 q102 r103 ny (sa + 2) _ P114) (P114.exa (i := 0) rfl) (t147 hw) (t148 hw) (fun _ q => notFace_of_selects (args := #[]) (mvT q (t150 hw))) (t150 hw) (t149 hw) (t84 hw) (t151 hw) (by decide) (lenOf pd7 rfl) rfl rfl (by decide) (by decide) (by decide) (by decide) rfl ?_
        rintro _ _ ⟨rfl, rfl⟩
        refine go_more (k' := 19) (n' := 65) (by decide) (by decide) ?_
        refine go_iload c0_400 rfl ?_
        refine go_push c0_401 ?_
        refine go_iadd c0_402 ?_
        refine go_if_ne c0_403 (fun b403 => ?_) (fun b403 => ?_)
        · refine go_push c0_410 ?_
          refine go_icmp_ne c0_411 (fun q => absurd (by simp [own_z, b403]) q) (fun _ => ?_)
          refine go_push c0_414 ?_
          refine go_goto c0_415 ?_
          refine go_istore c0_419 rfl rfl ?_
          dsimp only [setl]
          refine go_iload c0_421 rfl ?_
          refine go_if_eq c0_423 (fun q => absurd q (by decide)) (fun _ => ?_)
          refine go_iload c0_426 rfl ?_
          refine go_if_eq c0_428 (fun q => absurd q (by decide)) (fun _ => ?_)
          refine go_push c0_431 ?_
          refine go_goto c0_432 ?_
          exact go_bret rfl c0_436 (by decide) (by decide) (by decide) ⟨_, rfl, rfl⟩
        · refine go_push c0_406 ?_
          refine go_goto c0_407 ?_
          refine go_icmp_ne c0_411 (fun q => absurd (by simp [own_z, b403]) q) (fun _ => ?_)
          refine go_push c0_414 ?_
          refine go_goto c0_415 ?_
          refine go_istore c0_419 rfl rfl ?_
          dsimp only [setl]
          refine go_iload c0_421 rfl ?_
          refine go_if_eq c0_423 (fun q => absurd q (by decide)) (fun _ => ?_)
          refine go_iload c0_426 rfl ?_
          refine go_if_eq c0_428 (fun q => absurd q (by decide)) (fun _ => ?_)
          refine go_push c0_431 ?_
          refine go_goto c0_432 ?_
          exact go_bret rfl c0_436 (by decide) (by decide) (by decide) ⟨_, rfl, rfl⟩
      · refine go_push c0_298 ?_
        refine go_goto c0_299 ?_
        refine go_icmp_ne c0_303 (fun q => absurd (by simp [own_z, b295]) q) (fun _ => ?_)
        refine go_push c0_306 ?_
        refine go_goto c0_307 ?_
        refine go_istore c0_311 rfl rfl ?_
        dsimp only [setl]
        refine go_aload c0_313 rfl rfl ?_
        refine go_aload c0_315 rfl rfl ?_
        refine go_aload c0_317 rfl rfl ?_
        have P115 : Hp Z n0 h108 ([(a98, (.inl ("com/example/velvet_rope/velvetrope/lock/ElementLocks", [(("com/example/velvet_rope/velvetrope/lock/ElementLocks", "holders", "Ljava/util/List;"), (.ref l104)), (("com/example/velvet_rope/velvetrope/lock/ElementLocks", "queue", "Lcom/example/velvet_rope/velvetrope/lock/WaitingQueue;"), (.ref q102)), (("com/example/velvet_rope/velvetrope/lock/ElementLocks", "coming", "I"), (.int (sa + 1)))]))), (a51, (.inl ("com/example/velvet_rope/velvetrope/lock/TransactionLocks", [(("com/example/velvet_rope/velvetrope/lock/TransactionLocks", "held", "Ljava/util/Set;"), (.ref s56)), (("com/example/velvet_rope/velvetrope/lock/TransactionLocks", "began", "J"), (.long (bg ^^^ (-1)))), (("com/example/velvet_rope/velvetrope/lock/TransactionLocks", "comingTo", "Ljava/lang/String;"), (.ref a36)), (("com/example/velvet_rope/velvetrope/lock/TransactionLocks", "waiting", "Lcom/example/velvet_rope/velvetrope/lock/Request;"), .null)]))), (l104, (.inl ("java/util/ArrayList", [(("java/util/AbstractList", "modCount", "I"), (.int 0)), (("java/util/ArrayList", "elementData", "[Ljava/lang/Object;"), (.ref r103)), (("java/util/ArrayList", "size", "I"), (.int 0))]))), (q102, (.inl ("com/example/velvet_rope/velvetrope/lock/WaitingQueue", [(("java/util/AbstractList", "modCount", "I"), (.int 0)), (("com/example/velvet_rope/velvetrope/lock/QueueList", "elements", "[Ljava/lang/Object;"), (.ref ny)), (("com/example/velvet_rope/velvetrope/lock/QueueList", "end", "I"), (.int 0)), (("com/example/velvet_rope/velvetrope/lock/QueueList", "start", "I"), (.int 0))]))), (a43, (.inl ("com/example/velvet_rope/velvetrope/lock/TransactionLocks", [(("com/example/velvet_rope/velvetrope/lock/TransactionLocks", "held", "Ljava/util/Set;"), (.ref s48)), (("com/example/velvet_rope/velvetrope/lock/TransactionLocks", "began", "J"), (.long bg)), (("com/example/velvet_rope/velvetrope/lock/TransactionLocks", "comingTo", "Ljava/lang/String;"), (.ref a10)), (("com/example/velvet_rope/velvetrope/lock/TransactionLocks", "waiting", "Lcom/example/velvet_rope/velvetrope/lock/Request;"), .null)]))), (r103, (.inr ((.object "java/lang/Object"), "[Ljava/lang/Object;", [.null, .null]))), (m55, (.inl ("java/util/HashMap", [(("java/util/HashMap", "loadFactor", "F"), (.float 1061158912))]))), (s56, (.inl ("java/util/HashSet", [(("java/util/HashSet", "map", "Ljava/util/HashMap;"), (.ref m55))]))), (m47, (.inl ("java/util/HashMap", [(("java/util/HashMap", "loadFactor", "F"), (.float 1061158912))]))), (s48, (.inl ("java/util/HashSet", [(("java/util/HashSet", "map", "Ljava/util/HashMap;"), (.ref m47))]))), (b40, (.inr (.byte, "[B", [(.int (nar .byte (nar .char ch5).toInt8.toInt32))]))), (a31, (.inr (.char, "[C", [(.int (nar .char ch5))]))), (a36, (.inl ("java/lang/String", [(("java/lang/String", "coder", "B"), (.int 0)), (("java/lang/String", "value", "[B"), (.ref b40))]))), (b28, (.inr (.byte, "[B", [(.int (nar .byte (nar .char ch3).toInt8.toInt32)), (.int (nar .byte (nar .char ch4).toInt8.toInt32))]))), (a17, (.inr (.char, "[C", [(.int (nar .char ch3)), (.int (nar .char ch4))]))), (a24, (.inl ("java/lang/String", [(("java/lang/String", "coder", "B"), (.int 0)), (("java/lang/String", "value", "[B"), (.ref b28))]))), (b14, (.inr (.byte, "[B", [(.int (nar .byte (nar .char ch1).toInt8.toInt32)), (.int (nar .byte (nar .char ch2).toInt8.toInt32))]))), (a3, (.inr (.char, "[C", [(.int (nar .char ch1)), (.int (nar .char ch2))]))), (a10, (.inl ("java/lang/String", [(("java/lang/String", "coder", "B"), (.int 0)), (("java/lang/String", "value", "[B"), (.ref b14))])))]) := ((P110.front 7).front 1)
        refine go_callS0 (y := x) (W := 0) (argsL := [(.ref a51), (.ref a24), (.ref a98)]) (st := []) c0_319 (rm_come l Z a0 hw h108 n0 a98 a51 a24 l104 q102 s56 (sa + 1) (bg ^^^ (-1)) (.ref a36) _ P115) (t133 hw) (t134 hw) (t135 hw) (t136 hw) (by decide) (lenOf pd10 rfl) rfl rfl (by decide) (by decide) (by decide) (by decide) rfl ?_
        intro h116 P117
        refine go_more (k' := 19) (n' := 65) (by decide) (by decide) ?_
        rw [own_p2 sa] at P117
        refine go_aload c0_322 rfl rfl ?_
        refine go_get (y := x) P117 (0) 2 c0_324 rfl rfl (t131 hw) ?_
        refine go_iload c0_327 rfl ?_
        refine go_push c0_328 ?_
        refine go_iadd c0_329 ?_
        refine go_icmp_ne c0_330 (fun q => absurd rfl q) (fun _ => ?_)
        refine go_aload c0_333 rfl rfl ?_
        refine go_aload c0_335 rfl rfl ?_
        refine go_get (y := x) P117 (1) 2 c0_337 rfl rfl (t80 hw) ?_
        refine go_callV1 (y := x) (W := 0) (argsL := [(.ref a24)]) (st := []) c0_340 (rm_eqs l Z a0 hw h116 n0 a24) (P117.exa (i := 15) rfl) (t139 hw) (t140 hw) (fun _ q => notFace_of_selects (args := #[]) (mvT q (t142 hw))) (t142 hw) (t141 hw) (t3 hw) (t143 hw) (by decide) (lenOf pd11 rfl) rfl rfl (by decide) (by decide) (by decide) (by decide) rfl ?_
        rintro _ _ ⟨rfl, rfl⟩
        refine go_more (k' := 19) (n' := 65) (by decide) (by decide) ?_
        refine go_if_eq c0_343 (fun q => absurd q (by decide)) (fun _ => ?_)
        refine go_iload c0_346 rfl ?_
        refine go_if_ne c0_348 (fun q => absurd q (by decide)) (fun _ => ?_)
        refine go_aload c0_351 rfl rfl ?_
        refine go_aload c0_353 rfl rfl ?_
        refine go_get (y := x) P117 (4) 2 c0_355 rfl rfl (t80 hw) ?_
        refine go_callV1 (y := x) (W := 0) (argsL := [(.ref a10)]) (st := []) c0_358 (rm_eqs l Z a0 hw h116 n0 a10) (P117.exa (i := 18) rfl) (t139 hw) (t140 hw) (fun _ q => notFace_of_selects (args := #[]) (mvT q (t142 hw))) (t142 hw) (t141 hw) (t3 hw) (t143 hw) (by decide) (lenOf pd11 rfl) rfl rfl (by decide) (by decide) (by decide) (by decide) rfl ?_
        rintro _ _ ⟨rfl, rfl⟩
        refine go_more (k' := 19) (n' := 65) (by decide) (by decide) ?_
        refine go_if_eq c0_361 (fun q => absurd q (by decide)) (fun _ => ?_)
        refine go_aload c0_364 rfl rfl ?_
        refine go_get (y := x) P117 (1) 1 c0_366 rfl rfl (t144 hw) ?_
        refine go_iload c0_369 rfl ?_
        refine go_if_eq c0_371 (fun _ => ?_) (fun q => absurd q (by decide))
        refine go_lload c0_378 rfl ?_
        refine go_ldcJ (y := x) c0_379 (t79 hw) ?_
        refine go_lxor c0_382 ?_
        refine go_lcmp c0_383 ?_
        refine go_lc_ne c0_384 (fun q => absurd rfl q) (fun _ => ?_)
        refine go_aload c0_387 rfl rfl ?_
        refine go_get (y := x) P117 (1) 3 c0_389 rfl rfl (t145 hw) ?_
        refine go_nonnullF c0_392 ?_
        refine go_aload c0_395 rfl rfl ?_
        have P118 : Hp Z n0 h116 ([(a98, (.inl ("com/example/velvet_rope/velvetrope/lock/ElementLocks", [(("com/example/velvet_rope/velvetrope/lock/ElementLocks", "holders", "Ljava/util/List;"), (.ref l104)), (("com/example/velvet_rope/velvetrope/lock/ElementLocks", "queue", "Lcom/example/velvet_rope/velvetrope/lock/WaitingQueue;"), (.ref q102)), (("com/example/velvet_rope/velvetrope/lock/ElementLocks", "coming", "I"), (.int (sa + 2)))]))), (l104, (.inl ("java/util/ArrayList", [(("java/util/AbstractList", "modCount", "I"), (.int 0)), (("java/util/ArrayList", "elementData", "[Ljava/lang/Object;"), (.ref r103)), (("java/util/ArrayList", "size", "I"), (.int 0))]))), (q102, (.inl ("com/example/velvet_rope/velvetrope/lock/WaitingQueue", [(("java/util/AbstractList", "modCount", "I"), (.int 0)), (("com/example/velvet_rope/velvetrope/lock/QueueList", "elements", "[Ljava/lang/Object;"), (.ref ny)), (("com/example/velvet_rope/velvetrope/lock/QueueList", "end", "I"), (.int 0)), (("com/example/velvet_rope/velvetrope/lock/QueueList", "start", "I"), (.int 0))]))), (a51, (.inl ("com/example/velvet_rope/velvetrope/lock/TransactionLocks", [(("com/example/velvet_rope/velvetrope/lock/TransactionLocks", "held", "Ljava/util/Set;"), (.ref s56)), (("com/example/velvet_rope/velvetrope/lock/TransactionLocks", "began", "J"), (.long (bg ^^^ (-1)))), (("com/example/velvet_rope/velvetrope/lock/TransactionLocks", "comingTo", "Ljava/lang/String;"), (.ref a24)), (("com/example/velvet_rope/velvetrope/lock/TransactionLocks", "waiting", "Lcom/example/velvet_rope/velvetrope/lock/Request;"), .null)]))), (a43, (.inl ("com/example/velvet_rope/velvetrope/lock/TransactionLocks", [(("com/example/velvet_rope/velvetrope/lock/TransactionLocks", "held", "Ljava/util/Set;"), (.ref s48)), (("com/example/velvet_rope/velvetrope/lock/TransactionLocks", "began", "J"), (.long bg)), (("com/example/velvet_rope/velvetrope/lock/TransactionLocks", "comingTo", "Ljava/lang/String;"), (.ref a10)), (("com/example/velvet_rope/velvetrope/lock/TransactionLocks", "waiting", "Lcom/example/velvet_rope/velvetrope/lock/Request;"), .null)]))), (r103, (.inr ((.object "java/lang/Object"), "[Ljava/lang/Object;", [.null, .null]))), (m55, (.inl ("java/util/HashMap", [(("java/util/HashMap", "loadFactor", "F"), (.float 1061158912))]))), (s56, (.inl ("java/util/HashSet", [(("java/util/HashSet", "map", "Ljava/util/HashMap;"), (.ref m55))]))), (m47, (.inl ("java/util/HashMap", [(("java/util/HashMap", "loadFactor", "F"), (.float 1061158912))]))), (s48, (.inl ("java/util/HashSet", [(("java/util/HashSet", "map", "Ljava/util/HashMap;"), (.ref m47))]))), (b40, (.inr (.byte, "[B", [(.int (nar .byte (nar .char ch5).toInt8.toInt32))]))), (a31, (.inr (.char, "[C", [(.int (nar .char ch5))]))), (a36, (.inl ("java/lang/String", [(("java/lang/String", "coder", "B"), (.int 0)), (("java/lang/String", "value", "[B"), (.ref b40))]))), (b28, (.inr (.byte, "[B", [(.int (nar .byte (nar .char ch3).toInt8.toInt32)), (.int (nar .byte (nar .char ch4).toInt8.toInt32))]))), (a17, (.inr (.char, "[C", [(.int (nar .char ch3)), (.int (nar .char ch4))]))), (a24, (.inl ("java/lang/String", [(("java/lang/String", "coder", "B"), (.int 0)), (("java/lang/String", "value", "[B"), (.ref b28))]))), (b14, (.inr (.byte, "[B", [(.int (nar .byte (nar .char ch1).toInt8.toInt32)), (.int (nar .byte (nar .char ch2).toInt8.toInt32))]))), (a3, (.inr (.char, "[C", [(.int (nar .char ch1)), (.int (nar .char ch2))]))), (a10, (.inl ("java/lang/String", [(("java/lang/String", "coder", "B"), (.int 0)), (("java/lang/String", "value", "[B"), (.ref b14))])))]) := (((P117.front 3).front 3).front 2)
        refine go_callV1 (y := x) (W := 0) (argsL := []) (st := []) c0_397 (rm_idle l Z a0 hw h116 n0 a98 l104 q102 r103 ny (sa + 2) _ P118) (P118.exa (i := 0) rfl) (t147 hw) (t148 hw) (fun _ q => notFace_of_selects (args := #[]) (mvT q (t150 hw))) (t150 hw) (t149 hw) (t84 hw) (t151 hw) (by decide) (lenOf pd7 rfl) rfl rfl (by decide) (by decide) (by decide) (by decide) rfl ?_
        rintro _ _ ⟨rfl, rfl⟩
        refine go_more (k' := 19) (n' := 65) (by decide) (by decide) ?_
        refine go_iload c0_400 rfl ?_
        refine go_push c0_401 ?_
        refine go_iadd c0_402 ?_
        refine go_if_ne c0_403 (fun b403 => ?_) (fun b403 => ?_)
        · refine go_push c0_410 ?_
          refine go_icmp_ne c0_411 (fun q => absurd (by simp [own_z, b403]) q) (fun _ => ?_)
          refine go_push c0_414 ?_
          refine go_goto c0_415 ?_
          refine go_istore c0_419 rfl rfl ?_
          dsimp only [setl]
          refine go_iload c0_421 rfl ?_
          refine go_if_eq c0_423 (fun q => absurd q (by decide)) (fun _ => ?_)
          refine go_iload c0_426 rfl ?_
          refine go_if_eq c0_428 (fun q => absurd q (by decide)) (fun _ => ?_)
          refine go_push c0_431 ?_
          refine go_goto c0_432 ?_
          exact go_bret rfl c0_436 (by decide) (by decide) (by decide) ⟨_, rfl, rfl⟩
        · refine go_push c0_406 ?_
          refine go_goto c0_407 ?_
          refine go_icmp_ne c0_411 (fun q => absurd (by simp [own_z, b403]) q) (fun _ => ?_)
          refine go_push c0_414 ?_
          refine go_goto c0_415 ?_
          refine go_istore c0_419 rfl rfl ?_
          dsimp only [setl]
          refine go_iload c0_421 rfl ?_
          refine go_if_eq c0_423 (fun q => absurd q (by decide)) (fun _ => ?_)
          refine go_iload c0_426 rfl ?_
          refine go_if_eq c0_428 (fun q => absurd q (by decide)) (fun _ => ?_)
          refine go_push c0_431 ?_
          refine go_goto c0_432 ?_
          exact go_bret rfl c0_436 (by decide) (by decide) (by decide) ⟨_, rfl, rfl⟩
    · refine go_push c0_184 ?_
      refine go_goto c0_185 ?_
      refine go_istore c0_189 rfl rfl ?_
      dsimp only [setl]
      refine go_iload c0_191 rfl ?_
      refine go_if_eq c0_193 (fun q => absurd q (by decide)) (fun _ => ?_)
      refine go_aload c0_196 rfl rfl ?_
      refine go_goto c0_198 ?_
      refine go_astore c0_203 rfl rfl rfl ?_
      dsimp only [setl]
      refine go_aload c0_205 rfl rfl ?_
      refine go_get (y := x) P106 (6) 2 c0_207 rfl rfl (t80 hw) ?_
      refine go_astore c0_210 rfl rfl rfl ?_
      dsimp only [setl]
      refine go_aload c0_212 rfl rfl ?_
      refine go_aload c0_214 rfl rfl ?_
      refine go_aload c0_216 rfl rfl ?_
      have P119 : Hp Z n0 h105 ([(a98, (.inl ("com/example/velvet_rope/velvetrope/lock/ElementLocks", [(("com/example/velvet_rope/velvetrope/lock/ElementLocks", "holders", "Ljava/util/List;"), (.ref l104)), (("com/example/velvet_rope/velvetrope/lock/ElementLocks", "queue", "Lcom/example/velvet_rope/velvetrope/lock/WaitingQueue;"), (.ref q102)), (("com/example/velvet_rope/velvetrope/lock/ElementLocks", "coming", "I"), (.int sa))]))), (a43, (.inl ("com/example/velvet_rope/velvetrope/lock/TransactionLocks", [(("com/example/velvet_rope/velvetrope/lock/TransactionLocks", "held", "Ljava/util/Set;"), (.ref s48)), (("com/example/velvet_rope/velvetrope/lock/TransactionLocks", "began", "J"), (.long bg)), (("com/example/velvet_rope/velvetrope/lock/TransactionLocks", "comingTo", "Ljava/lang/String;"), (.ref a36)), (("com/example/velvet_rope/velvetrope/lock/TransactionLocks", "waiting", "Lcom/example/velvet_rope/velvetrope/lock/Request;"), .null)]))), (q102, (.inl ("com/example/velvet_rope/velvetrope/lock/WaitingQueue", [(("java/util/AbstractList", "modCount", "I"), (.int 0)), (("com/example/velvet_rope/velvetrope/lock/QueueList", "elements", "[Ljava/lang/Object;"), (.ref ny)), (("com/example/velvet_rope/velvetrope/lock/QueueList", "end", "I"), (.int 0)), (("com/example/velvet_rope/velvetrope/lock/QueueList", "start", "I"), (.int 0))]))), (r103, (.inr ((.object "java/lang/Object"), "[Ljava/lang/Object;", [.null, .null]))), (l104, (.inl ("java/util/ArrayList", [(("java/util/AbstractList", "modCount", "I"), (.int 0)), (("java/util/ArrayList", "elementData", "[Ljava/lang/Object;"), (.ref r103)), (("java/util/ArrayList", "size", "I"), (.int 0))]))), (m55, (.inl ("java/util/HashMap", [(("java/util/HashMap", "loadFactor", "F"), (.float 1061158912))]))), (s56, (.inl ("java/util/HashSet", [(("java/util/HashSet", "map", "Ljava/util/HashMap;"), (.ref m55))]))), (a51, (.inl ("com/example/velvet_rope/velvetrope/lock/TransactionLocks", [(("com/example/velvet_rope/velvetrope/lock/TransactionLocks", "held", "Ljava/util/Set;"), (.ref s56)), (("com/example/velvet_rope/velvetrope/lock/TransactionLocks", "began", "J"), (.long (bg ^^^ (-1)))), (("com/example/velvet_rope/velvetrope/lock/TransactionLocks", "comingTo", "Ljava/lang/String;"), (.ref a36)), (("com/example/velvet_rope/velvetrope/lock/TransactionLocks", "waiting", "Lcom/example/velvet_rope/velvetrope/lock/Request;"), .null)]))), (m47, (.inl ("java/util/HashMap", [(("java/util/HashMap", "loadFactor", "F"), (.float 1061158912))]))), (s48, (.inl ("java/util/HashSet", [(("java/util/HashSet", "map", "Ljava/util/HashMap;"), (.ref m47))]))), (b40, (.inr (.byte, "[B", [(.int (nar .byte (nar .char ch5).toInt8.toInt32))]))), (a31, (.inr (.char, "[C", [(.int (nar .char ch5))]))), (a36, (.inl ("java/lang/String", [(("java/lang/String", "coder", "B"), (.int 0)), (("java/lang/String", "value", "[B"), (.ref b40))]))), (b28, (.inr (.byte, "[B", [(.int (nar .byte (nar .char ch3).toInt8.toInt32)), (.int (nar .byte (nar .char ch4).toInt8.toInt32))]))), (a17, (.inr (.char, "[C", [(.int (nar .char ch3)), (.int (nar .char ch4))]))), (a24, (.inl ("java/lang/String", [(("java/lang/String", "coder", "B"), (.int 0)), (("java/lang/String", "value", "[B"), (.ref b28))]))), (b14, (.inr (.byte, "[B", [(.int (nar .byte (nar .char ch1).toInt8.toInt32)), (.int (nar .byte (nar .char ch2).toInt8.toInt32))]))), (a3, (.inr (.char, "[C", [(.int (nar .char ch1)), (.int (nar .char ch2))]))), (a10, (.inl ("java/lang/String", [(("java/lang/String", "coder", "B"), (.int 0)), (("java/lang/String", "value", "[B"), (.ref b14))])))]) := ((P106.front 9).front 4)
      refine go_callS0 (y := x) (W := 0) (argsL := [(.ref a43), (.ref a10), (.ref a98)]) (st := []) c0_218 (rm_come l Z a0 hw h105 n0 a98 a43 a10 l104 q102 s48 sa bg (.ref a36) _ P119) (t133 hw) (t134 hw) (t135 hw) (t136 hw) (by decide) (lenOf pd10 rfl) rfl rfl (by decide) (by decide) (by decide) (by decide) rfl ?_
      intro h120 P121
      refine go_more (k' := 19) (n' := 65) (by decide) (by decide) ?_
      refine go_aload c0_221 rfl rfl ?_
      refine go_get (y := x) P121 (0) 2 c0_223 rfl rfl (t131 hw) ?_
      refine go_iload c0_226 rfl ?_
      refine go_push c0_227 ?_
      refine go_iadd c0_228 ?_
      refine go_icmp_ne c0_229 (fun q => absurd rfl q) (fun _ => ?_)
      refine go_aload c0_232 rfl rfl ?_
      refine go_aload c0_234 rfl rfl ?_
      refine go_get (y := x) P121 (1) 2 c0_236 rfl rfl (t80 hw) ?_
      refine go_callV1 (y := x) (W := 0) (argsL := [(.ref a10)]) (st := []) c0_239 (rm_eqs l Z a0 hw h120 n0 a10) (P121.exa (i := 18) rfl) (t139 hw) (t140 hw) (fun _ q => notFace_of_selects (args := #[]) (mvT q (t142 hw))) (t142 hw) (t141 hw) (t3 hw) (t143 hw) (by decide) (lenOf pd11 rfl) rfl rfl (by decide) (by decide) (by decide) (by decide) rfl ?_
      rintro _ _ ⟨rfl, rfl⟩
      refine go_more (k' := 19) (n' := 65) (by decide) (by decide) ?_
      refine go_if_eq c0_242 (fun q => absurd q (by decide)) (fun _ => ?_)
      refine go_aload c0_245 rfl rfl ?_
      refine go_get (y := x) P121 (1) 1 c0_247 rfl rfl (t144 hw) ?_
      refine go_lload c0_250 rfl ?_
      refine go_lcmp c0_251 ?_
      refine go_lc_ne c0_252 (fun q => absurd rfl q) (fun _ => ?_)
      refine go_aload c0_255 rfl rfl ?_
      refine go_get (y := x) P121 (1) 3 c0_257 rfl rfl (t145 hw) ?_
      refine go_nonnullF c0_260 ?_
      refine go_aload c0_263 rfl rfl ?_
      refine go_get (y := x) P121 (7) 2 c0_265 rfl rfl (t80 hw) ?_
      refine go_aload c0_268 rfl rfl ?_
      refine go_acmp_ne c0_270 rfl rfl (fun q => absurd rfl q) (fun _ => ?_)
      refine go_aload c0_273 rfl rfl ?_
      refine go_get (y := x) P121 (7) 1 c0_275 rfl rfl (t144 hw) ?_
      refine go_lload c0_278 rfl ?_
      refine go_ldcJ (y := x) c0_279 (t79 hw) ?_
      refine go_lxor c0_282 ?_
      refine go_lcmp c0_283 ?_
      refine go_lc_ne c0_284 (fun q => absurd rfl q) (fun _ => ?_)
      refine go_aload c0_287 rfl rfl ?_
      have P122 : Hp Z n0 h120 ([(a98, (.inl ("com/example/velvet_rope/velvetrope/lock/ElementLocks", [(("com/example/velvet_rope/velvetrope/lock/ElementLocks", "holders", "Ljava/util/List;"), (.ref l104)), (("com/example/velvet_rope/velvetrope/lock/ElementLocks", "queue", "Lcom/example/velvet_rope/velvetrope/lock/WaitingQueue;"), (.ref q102)), (("com/example/velvet_rope/velvetrope/lock/ElementLocks", "coming", "I"), (.int (sa + 1)))]))), (l104, (.inl ("java/util/ArrayList", [(("java/util/AbstractList", "modCount", "I"), (.int 0)), (("java/util/ArrayList", "elementData", "[Ljava/lang/Object;"), (.ref r103)), (("java/util/ArrayList", "size", "I"), (.int 0))]))), (q102, (.inl ("com/example/velvet_rope/velvetrope/lock/WaitingQueue", [(("java/util/AbstractList", "modCount", "I"), (.int 0)), (("com/example/velvet_rope/velvetrope/lock/QueueList", "elements", "[Ljava/lang/Object;"), (.ref ny)), (("com/example/velvet_rope/velvetrope/lock/QueueList", "end", "I"), (.int 0)), (("com/example/velvet_rope/velvetrope/lock/QueueList", "start", "I"), (.int 0))]))), (a43, (.inl ("com/example/velvet_rope/velvetrope/lock/TransactionLocks", [(("com/example/velvet_rope/velvetrope/lock/TransactionLocks", "held", "Ljava/util/Set;"), (.ref s48)), (("com/example/velvet_rope/velvetrope/lock/TransactionLocks", "began", "J"), (.long bg)), (("com/example/velvet_rope/velvetrope/lock/TransactionLocks", "comingTo", "Ljava/lang/String;"), (.ref a10)), (("com/example/velvet_rope/velvetrope/lock/TransactionLocks", "waiting", "Lcom/example/velvet_rope/velvetrope/lock/Request;"), .null)]))), (r103, (.inr ((.object "java/lang/Object"), "[Ljava/lang/Object;", [.null, .null]))), (m55, (.inl ("java/util/HashMap", [(("java/util/HashMap", "loadFactor", "F"), (.float 1061158912))]))), (s56, (.inl ("java/util/HashSet", [(("java/util/HashSet", "map", "Ljava/util/HashMap;"), (.ref m55))]))), (a51, (.inl ("com/example/velvet_rope/velvetrope/lock/TransactionLocks", [(("com/example/velvet_rope/velvetrope/lock/TransactionLocks", "held", "Ljava/util/Set;"), (.ref s56)), (("com/example/velvet_rope/velvetrope/lock/TransactionLocks", "began", "J"), (.long (bg ^^^ (-1)))), (("com/example/velvet_rope/velvetrope/lock/TransactionLocks", "comingTo", "Ljava/lang/String;"), (.ref a36)), (("com/example/velvet_rope/velvetrope/lock/TransactionLocks", "waiting", "Lcom/example/velvet_rope/velvetrope/lock/Request;"), .null)]))), (m47, (.inl ("java/util/HashMap", [(("java/util/HashMap", "loadFactor", "F"), (.float 1061158912))]))), (s48, (.inl ("java/util/HashSet", [(("java/util/HashSet", "map", "Ljava/util/HashMap;"), (.ref m47))]))), (b40, (.inr (.byte, "[B", [(.int (nar .byte (nar .char ch5).toInt8.toInt32))]))), (a31, (.inr (.char, "[C", [(.int (nar .char ch5))]))), (a36, (.inl ("java/lang/String", [(("java/lang/String", "coder", "B"), (.int 0)), (("java/lang/String", "value", "[B"), (.ref b40))]))), (b28, (.inr (.byte, "[B", [(.int (nar .byte (nar .char ch3).toInt8.toInt32)), (.int (nar .byte (nar .char ch4).toInt8.toInt32))]))), (a17, (.inr (.char, "[C", [(.int (nar .char ch3)), (.int (nar .char ch4))]))), (a24, (.inl ("java/lang/String", [(("java/lang/String", "coder", "B"), (.int 0)), (("java/lang/String", "value", "[B"), (.ref b28))]))), (b14, (.inr (.byte, "[B", [(.int (nar .byte (nar .char ch1).toInt8.toInt32)), (.int (nar .byte (nar .char ch2).toInt8.toInt32))]))), (a3, (.inr (.char, "[C", [(.int (nar .char ch1)), (.int (nar .char ch2))]))), (a10, (.inl ("java/lang/String", [(("java/lang/String", "coder", "B"), (.int 0)), (("java/lang/String", "value", "[B"), (.ref b14))])))]) := (((P121.front 2).front 4).front 2)
      refine go_callV1 (y := x) (W := 0) (argsL := []) (st := []) c0_289 (rm_idle l Z a0 hw h120 n0 a98 l104 q102 r103 ny (sa + 1) _ P122) (P122.exa (i := 0) rfl) (t147 hw) (t148 hw) (fun _ q => notFace_of_selects (args := #[]) (mvT q (t150 hw))) (t150 hw) (t149 hw) (t84 hw) (t151 hw) (by decide) (lenOf pd7 rfl) rfl rfl (by decide) (by decide) (by decide) (by decide) rfl ?_
      rintro _ _ ⟨rfl, rfl⟩
      refine go_more (k' := 19) (n' := 65) (by decide) (by decide) ?_
      refine go_iload c0_292 rfl ?_
      refine go_push c0_293 ?_
      refine go_iadd c0_294 ?_
      refine go_if_ne c0_295 (fun b295 => ?_) (fun b295 => ?_)
      · refine go_push c0_302 ?_
        refine go_icmp_ne c0_303 (fun q => absurd (by simp [own_z, b295]) q) (fun _ => ?_)
        refine go_push c0_306 ?_
        refine go_goto c0_307 ?_
        refine go_istore c0_311 rfl rfl ?_
        dsimp only [setl]
        refine go_aload c0_313 rfl rfl ?_
        refine go_aload c0_315 rfl rfl ?_
        refine go_aload c0_317 rfl rfl ?_
        have P123 : Hp Z n0 h120 ([(a98, (.inl ("com/example/velvet_rope/velvetrope/lock/ElementLocks", [(("com/example/velvet_rope/velvetrope/lock/ElementLocks", "holders", "Ljava/util/List;"), (.ref l104)), (("com/example/velvet_rope/velvetrope/lock/ElementLocks", "queue", "Lcom/example/velvet_rope/velvetrope/lock/WaitingQueue;"), (.ref q102)), (("com/example/velvet_rope/velvetrope/lock/ElementLocks", "coming", "I"), (.int (sa + 1)))]))), (a43, (.inl ("com/example/velvet_rope/velvetrope/lock/TransactionLocks", [(("com/example/velvet_rope/velvetrope/lock/TransactionLocks", "held", "Ljava/util/Set;"), (.ref s48)), (("com/example/velvet_rope/velvetrope/lock/TransactionLocks", "began", "J"), (.long bg)), (("com/example/velvet_rope/velvetrope/lock/TransactionLocks", "comingTo", "Ljava/lang/String;"), (.ref a10)), (("com/example/velvet_rope/velvetrope/lock/TransactionLocks", "waiting", "Lcom/example/velvet_rope/velvetrope/lock/Request;"), .null)]))), (l104, (.inl ("java/util/ArrayList", [(("java/util/AbstractList", "modCount", "I"), (.int 0)), (("java/util/ArrayList", "elementData", "[Ljava/lang/Object;"), (.ref r103)), (("java/util/ArrayList", "size", "I"), (.int 0))]))), (q102, (.inl ("com/example/velvet_rope/velvetrope/lock/WaitingQueue", [(("java/util/AbstractList", "modCount", "I"), (.int 0)), (("com/example/velvet_rope/velvetrope/lock/QueueList", "elements", "[Ljava/lang/Object;"), (.ref ny)), (("com/example/velvet_rope/velvetrope/lock/QueueList", "end", "I"), (.int 0)), (("com/example/velvet_rope/velvetrope/lock/QueueList", "start", "I"), (.int 0))]))), (r103, (.inr ((.object "java/lang/Object"), "[Ljava/lang/Object;", [.null, .null]))), (m55, (.inl ("java/util/HashMap", [(("java/util/HashMap", "loadFactor", "F"), (.float 1061158912))]))), (s56, (.inl ("java/util/HashSet", [(("java/util/HashSet", "map", "Ljava/util/HashMap;"), (.ref m55))]))), (a51, (.inl ("com/example/velvet_rope/velvetrope/lock/TransactionLocks", [(("com/example/velvet_rope/velvetrope/lock/TransactionLocks", "held", "Ljava/util/Set;"), (.ref s56)), (("com/example/velvet_rope/velvetrope/lock/TransactionLocks", "began", "J"), (.long (bg ^^^ (-1)))), (("com/example/velvet_rope/velvetrope/lock/TransactionLocks", "comingTo", "Ljava/lang/String;"), (.ref a36)), (("com/example/velvet_rope/velvetrope/lock/TransactionLocks", "waiting", "Lcom/example/velvet_rope/velvetrope/lock/Request;"), .null)]))), (m47, (.inl ("java/util/HashMap", [(("java/util/HashMap", "loadFactor", "F"), (.float 1061158912))]))), (s48, (.inl ("java/util/HashSet", [(("java/util/HashSet", "map", "Ljava/util/HashMap;"), (.ref m47))]))), (b40, (.inr (.byte, "[B", [(.int (nar .byte (nar .char ch5).toInt8.toInt32))]))), (a31, (.inr (.char, "[C", [(.int (nar .char ch5))]))), (a36, (.inl ("java/lang/String", [(("java/lang/String", "coder", "B"), (.int 0)), (("java/lang/String", "value", "[B"), (.ref b40))]))), (b28, (.inr (.byte, "[B", [(.int (nar .byte (nar .char ch3).toInt8.toInt32)), (.int (nar .byte (nar .char ch4).toInt8.toInt32))]))), (a17, (.inr (.char, "[C", [(.int (nar .char ch3)), (.int (nar .char ch4))]))), (a24, (.inl ("java/lang/String", [(("java/lang/String", "coder", "B"), (.int 0)), (("java/lang/String", "value", "[B"), (.ref b28))]))), (b14, (.inr (.byte, "[B", [(.int (nar .byte (nar .char ch1).toInt8.toInt32)), (.int (nar .byte (nar .char ch2).toInt8.toInt32))]))), (a3, (.inr (.char, "[C", [(.int (nar .char ch1)), (.int (nar .char ch2))]))), (a10, (.inl ("java/lang/String", [(("java/lang/String", "coder", "B"), (.int 0)), (("java/lang/String", "value", "[B"), (.ref b14))])))]) := ((P122.front 3).front 1)
        refine go_callS0 (y := x) (W := 0) (argsL := [(.ref a43), (.ref a24), (.ref a98)]) (st := []) c0_319 (rm_come l Z a0 hw h120 n0 a98 a43 a24 l104 q102 s48 (sa + 1) bg (.ref a10) _ P123) (t133 hw) (t134 hw) (t135 hw) (t136 hw) (by decide) (lenOf pd10 rfl) rfl rfl (by decide) (by decide) (by decide) (by decide) rfl ?_
        intro h124 P125
        refine go_more (k' := 19) (n' := 65) (by decide) (by decide) ?_
        rw [own_p2 sa] at P125
        refine go_aload c0_322 rfl rfl ?_
        refine go_get (y := x) P125 (0) 2 c0_324 rfl rfl (t131 hw) ?_
        refine go_iload c0_327 rfl ?_
        refine go_push c0_328 ?_
        refine go_iadd c0_329 ?_
        refine go_icmp_ne c0_330 (fun q => absurd rfl q) (fun _ => ?_)
        refine go_aload c0_333 rfl rfl ?_
        refine go_aload c0_335 rfl rfl ?_
        refine go_get (y := x) P125 (1) 2 c0_337 rfl rfl (t80 hw) ?_
        refine go_callV1 (y := x) (W := 0) (argsL := [(.ref a24)]) (st := []) c0_340 (rm_eqs l Z a0 hw h124 n0 a24) (P125.exa (i := 15) rfl) (t139 hw) (t140 hw) (fun _ q => notFace_of_selects (args := #[]) (mvT q (t142 hw))) (t142 hw) (t141 hw) (t3 hw) (t143 hw) (by decide) (lenOf pd11 rfl) rfl rfl (by decide) (by decide) (by decide) (by decide) rfl ?_
        rintro _ _ ⟨rfl, rfl⟩
        refine go_more (k' := 19) (n' := 65) (by decide) (by decide) ?_
        refine go_if_eq c0_343 (fun q => absurd q (by decide)) (fun _ => ?_)
        refine go_iload c0_346 rfl ?_
        refine go_if_ne c0_348 (fun _ => ?_) (fun q => absurd q (by decide))
        refine go_aload c0_364 rfl rfl ?_
        refine go_get (y := x) P125 (1) 1 c0_366 rfl rfl (t144 hw) ?_
        refine go_iload c0_369 rfl ?_
        refine go_if_eq c0_371 (fun q => absurd q (by decide)) (fun _ => ?_)
        refine go_lload c0_374 rfl ?_
        refine go_goto c0_375 ?_
        refine go_lcmp c0_383 ?_
        refine go_lc_ne c0_384 (fun q => absurd rfl q) (fun _ => ?_)
        refine go_aload c0_387 rfl rfl ?_
        refine go_get (y := x) P125 (1) 3 c0_389 rfl rfl (t145 hw) ?_
        refine go_nonnullF c0_392 ?_
        refine go_aload c0_395 rfl rfl ?_
        have P126 : Hp Z n0 h124 ([(a98, (.inl ("com/example/velvet_rope/velvetrope/lock/ElementLocks", [(("com/example/velvet_rope/velvetrope/lock/ElementLocks", "holders", "Ljava/util/List;"), (.ref l104)), (("com/example/velvet_rope/velvetrope/lock/ElementLocks", "queue", "Lcom/example/velvet_rope/velvetrope/lock/WaitingQueue;"), (.ref q102)), (("com/example/velvet_rope/velvetrope/lock/ElementLocks", "coming", "I"), (.int (sa + 2)))]))), (l104, (.inl ("java/util/ArrayList", [(("java/util/AbstractList", "modCount", "I"), (.int 0)), (("java/util/ArrayList", "elementData", "[Ljava/lang/Object;"), (.ref r103)), (("java/util/ArrayList", "size", "I"), (.int 0))]))), (q102, (.inl ("com/example/velvet_rope/velvetrope/lock/WaitingQueue", [(("java/util/AbstractList", "modCount", "I"), (.int 0)), (("com/example/velvet_rope/velvetrope/lock/QueueList", "elements", "[Ljava/lang/Object;"), (.ref ny)), (("com/example/velvet_rope/velvetrope/lock/QueueList", "end", "I"), (.int 0)), (("com/example/velvet_rope/velvetrope/lock/QueueList", "start", "I"), (.int 0))]))), (a43, (.inl ("com/example/velvet_rope/velvetrope/lock/TransactionLocks", [(("com/example/velvet_rope/velvetrope/lock/TransactionLocks", "held", "Ljava/util/Set;"), (.ref s48)), (("com/example/velvet_rope/velvetrope/lock/TransactionLocks", "began", "J"), (.long bg)), (("com/example/velvet_rope/velvetrope/lock/TransactionLocks", "comingTo", "Ljava/lang/String;"), (.ref a24)), (("com/example/velvet_rope/velvetrope/lock/TransactionLocks", "waiting", "Lcom/example/velvet_rope/velvetrope/lock/Request;"), .null)]))), (r103, (.inr ((.object "java/lang/Object"), "[Ljava/lang/Object;", [.null, .null]))), (m55, (.inl ("java/util/HashMap", [(("java/util/HashMap", "loadFactor", "F"), (.float 1061158912))]))), (s56, (.inl ("java/util/HashSet", [(("java/util/HashSet", "map", "Ljava/util/HashMap;"), (.ref m55))]))), (a51, (.inl ("com/example/velvet_rope/velvetrope/lock/TransactionLocks", [(("com/example/velvet_rope/velvetrope/lock/TransactionLocks", "held", "Ljava/util/Set;"), (.ref s56)), (("com/example/velvet_rope/velvetrope/lock/TransactionLocks", "began", "J"), (.long (bg ^^^ (-1)))), (("com/example/velvet_rope/velvetrope/lock/TransactionLocks", "comingTo", "Ljava/lang/String;"), (.ref a36)), (("com/example/velvet_rope/velvetrope/lock/TransactionLocks", "waiting", "Lcom/example/velvet_rope/velvetrope/lock/Request;"), .null)]))), (m47, (.inl ("java/util/HashMap", [(("java/util/HashMap", "loadFactor", "F"), (.float 1061158912))]))), (s48, (.inl ("java/util/HashSet", [(("java/util/HashSet", "map", "Ljava/util/HashMap;"), (.ref m47))]))), (b40, (.inr (.byte, "[B", [(.int (nar .byte (nar .char ch5).toInt8.toInt32))]))), (a31, (.inr (.char, "[C", [(.int (nar .char ch5))]))), (a36, (.inl ("java/lang/String", [(("java/lang/String", "coder", "B"), (.int 0)), (("java/lang/String", "value", "[B"), (.ref b40))]))), (b28, (.inr (.byte, "[B", [(.int (nar .byte (nar .char ch3).toInt8.toInt32)), (.int (nar .byte (nar .char ch4).toInt8.toInt32))]))), (a17, (.inr (.char, "[C", [(.int (nar .char ch3)), (.int (nar .char ch4))]))), (a24, (.inl ("java/lang/String", [(("java/lang/String", "coder", "B"), (.int 0)), (("java/lang/String", "value", "[B"), (.ref b28))]))), (b14, (.inr (.byte, "[B", [(.int (nar .byte (nar .char ch1).toInt8.toInt32)), (.int (nar .byte (nar .char ch2).toInt8.toInt32))]))), (a3, (.inr (.char, "[C", [(.int (nar .char ch1)), (.int (nar .char ch2))]))), (a10, (.inl ("java/lang/String", [(("java/lang/String", "coder", "B"), (.int 0)), (("java/lang/String", "value", "[B"), (.ref b14))])))]) := (((P125.front 3).front 3).front 2)
        refine go_callV1 (y := x) (W := 0) (argsL := []) (st := []) c0_397 (rm_idle l Z a0 hw h124 n0 a98 l104 q102 r103 ny (sa + 2) _ P126) (P126.exa (i := 0) rfl) (t147 hw) (t148 hw) (fun _ q => notFace_of_selects (args := #[]) (mvT q (t150 hw))) (t150 hw) (t149 hw) (t84 hw) (t151 hw) (by decide) (lenOf pd7 rfl) rfl rfl (by decide) (by decide) (by decide) (by decide) rfl ?_
        rintro _ _ ⟨rfl, rfl⟩
        refine go_more (k' := 19) (n' := 65) (by decide) (by decide) ?_
        refine go_iload c0_400 rfl ?_
        refine go_push c0_401 ?_
        refine go_iadd c0_402 ?_
        refine go_if_ne c0_403 (fun b403 => ?_) (fun b403 => ?_)
        · refine go_push c0_410 ?_
          refine go_icmp_ne c0_411 (fun q => absurd (by simp [own_z, b403]) q) (fun _ => ?_)
          refine go_push c0_414 ?_
          refine go_goto c0_415 ?_
          refine go_istore c0_419 rfl rfl ?_
          dsimp only [setl]
          refine go_iload c0_421 rfl ?_
          refine go_if_eq c0_423 (fun q => absurd q (by decide)) (fun _ => ?_)
          refine go_iload c0_426 rfl ?_
          refine go_if_eq c0_428 (fun q => absurd q (by decide)) (fun _ => ?_)
          refine go_push c0_431 ?_
          refine go_goto c0_432 ?_
          exact go_bret rfl c0_436 (by decide) (by decide) (by decide) ⟨_, rfl, rfl⟩
        · refine go_push c0_406 ?_
          refine go_goto c0_407 ?_
          refine go_icmp_ne c0_411 (fun q => absurd (by simp [own_z, b403]) q) (fun _ => ?_)
          refine go_push c0_414 ?_
          refine go_goto c0_415 ?_
          refine go_istore c0_419 rfl rfl ?_
          dsimp only [setl]
          refine go_iload c0_421 rfl ?_
          refine go_if_eq c0_423 (fun q => absurd q (by decide)) (fun _ => ?_)
          refine go_iload c0_426 rfl ?_
          refine go_if_eq c0_428 (fun q => absurd q (by decide)) (fun _ => ?_)
          refine go_push c0_431 ?_
          refine go_goto c0_432 ?_
          exact go_bret rfl c0_436 (by decide) (by decide) (by decide) ⟨_, rfl, rfl⟩
      · refine go_push c0_298 ?_
        refine go_goto c0_299 ?_
        refine go_icmp_ne c0_303 (fun q => absurd (by simp [own_z, b295]) q) (fun _ => ?_)
        refine go_push c0_306 ?_
        refine go_goto c0_307 ?_
        refine go_istore c0_311 rfl rfl ?_
        dsimp only [setl]
        refine go_aload c0_313 rfl rfl ?_
        refine go_aload c0_315 rfl rfl ?_
        refine go_aload c0_317 rfl rfl ?_
        have P127 : Hp Z n0 h120 ([(a98, (.inl ("com/example/velvet_rope/velvetrope/lock/ElementLocks", [(("com/example/velvet_rope/velvetrope/lock/ElementLocks", "holders", "Ljava/util/List;"), (.ref l104)), (("com/example/velvet_rope/velvetrope/lock/ElementLocks", "queue", "Lcom/example/velvet_rope/velvetrope/lock/WaitingQueue;"), (.ref q102)), (("com/example/velvet_rope/velvetrope/lock/ElementLocks", "coming", "I"), (.int (sa + 1)))]))), (a43, (.inl ("com/example/velvet_rope/velvetrope/lock/TransactionLocks", [(("com/example/velvet_rope/velvetrope/lock/TransactionLocks", "held", "Ljava/util/Set;"), (.ref s48)), (("com/example/velvet_rope/velvetrope/lock/TransactionLocks", "began", "J"), (.long bg)), (("com/example/velvet_rope/velvetrope/lock/TransactionLocks", "comingTo", "Ljava/lang/String;"), (.ref a10)), (("com/example/velvet_rope/velvetrope/lock/TransactionLocks", "waiting", "Lcom/example/velvet_rope/velvetrope/lock/Request;"), .null)]))), (l104, (.inl ("java/util/ArrayList", [(("java/util/AbstractList", "modCount", "I"), (.int 0)), (("java/util/ArrayList", "elementData", "[Ljava/lang/Object;"), (.ref r103)), (("java/util/ArrayList", "size", "I"), (.int 0))]))), (q102, (.inl ("com/example/velvet_rope/velvetrope/lock/WaitingQueue", [(("java/util/AbstractList", "modCount", "I"), (.int 0)), (("com/example/velvet_rope/velvetrope/lock/QueueList", "elements", "[Ljava/lang/Object;"), (.ref ny)), (("com/example/velvet_rope/velvetrope/lock/QueueList", "end", "I"), (.int 0)), (("com/example/velvet_rope/velvetrope/lock/QueueList", "start", "I"), (.int 0))]))), (r103, (.inr ((.object "java/lang/Object"), "[Ljava/lang/Object;", [.null, .null]))), (m55, (.inl ("java/util/HashMap", [(("java/util/HashMap", "loadFactor", "F"), (.float 1061158912))]))), (s56, (.inl ("java/util/HashSet", [(("java/util/HashSet", "map", "Ljava/util/HashMap;"), (.ref m55))]))), (a51, (.inl ("com/example/velvet_rope/velvetrope/lock/TransactionLocks", [(("com/example/velvet_rope/velvetrope/lock/TransactionLocks", "held", "Ljava/util/Set;"), (.ref s56)), (("com/example/velvet_rope/velvetrope/lock/TransactionLocks", "began", "J"), (.long (bg ^^^ (-1)))), (("com/example/velvet_rope/velvetrope/lock/TransactionLocks", "comingTo", "Ljava/lang/String;"), (.ref a36)), (("com/example/velvet_rope/velvetrope/lock/TransactionLocks", "waiting", "Lcom/example/velvet_rope/velvetrope/lock/Request;"), .null)]))), (m47, (.inl ("java/util/HashMap", [(("java/util/HashMap", "loadFactor", "F"), (.float 1061158912))]))), (s48, (.inl ("java/util/HashSet", [(("java/util/HashSet", "map", "Ljava/util/HashMap;"), (.ref m47))]))), (b40, (.inr (.byte, "[B", [(.int (nar .byte (nar .char ch5).toInt8.toInt32))]))), (a31, (.inr (.char, "[C", [(.int (nar .char ch5))]))), (a36, (.inl ("java/lang/String", [(("java/lang/String", "coder", "B"), (.int 0)), (("java/lang/String", "value", "[B"), (.ref b40))]))), (b28, (.inr (.byte, "[B", [(.int (nar .byte (nar .char ch3).toInt8.toInt32)), (.int (nar .byte (nar .char ch4).toInt8.toInt32))]))), (a17, (.inr (.char, "[C", [(.int (nar .char ch3)), (.int (nar .char ch4))]))), (a24, (.inl ("java/lang/String", [(("java/lang/String", "coder", "B"), (.int 0)), (("java/lang/String", "value", "[B"), (.ref b28))]))), (b14, (.inr (.byte, "[B", [(.int (nar .byte (nar .char ch1).toInt8.toInt32)), (.int (nar .byte (nar .char ch2).toInt8.toInt32))]))), (a3, (.inr (.char, "[C", [(.int (nar .char ch1)), (.int (nar .char ch2))]))), (a10, (.inl ("java/lang/String", [(("java/lang/String", "coder", "B"), (.int 0)), (("java/lang/String", "value", "[B"), (.ref b14))])))]) := ((P122.front 3).front 1)
        refine go_callS0 (y := x) (W := 0) (argsL := [(.ref a43), (.ref a24), (.ref a98)]) (st := []) c0_319 (rm_come l Z a0 hw h120 n0 a98 a43 a24 l104 q102 s48 (sa + 1) bg (.ref a10) _ P127) (t133 hw) (t134 hw) (t135 hw) (t136 hw) (by decide) (lenOf pd10 rfl) rfl rfl (by decide) (by decide) (by decide) (by decide) rfl ?_
        intro h128 P129
        refine go_more (k' := 19) (n' := 65) (by decide) (by decide) ?_
        rw [own_p2 sa] at P129
        refine go_aload c0_322 rfl rfl ?_
        refine go_get (y := x) P129 (0) 2 c0_324 rfl rfl (t131 hw) ?_
        refine go_iload c0_327 rfl ?_
        refine go_push c0_328 ?_
        refine go_iadd c0_329 ?_
        refine go_icmp_ne c0_330 (fun q => absurd rfl q) (fun _ => ?_)
        refine go_aload c0_333 rfl rfl ?_
        refine go_aload c0_335 rfl rfl ?_
        refine go_get (y := x) P129 (1) 2 c0_337 rfl rfl (t80 hw) ?_
        refine go_callV1 (y := x) (W := 0) (argsL := [(.ref a24)]) (st := []) c0_340 (rm_eqs l Z a0 hw h128 n0 a24) (P129.exa (i := 15) rfl) (t139 hw) (t140 hw) (fun _ q => notFace_of_selects (args := #[]) (mvT q (t142 hw))) (t142 hw) (t141 hw) (t3 hw) (t143 hw) (by decide) (lenOf pd11 rfl) rfl rfl (by decide) (by decide) (by decide) (by decide) rfl ?_
        rintro _ _ ⟨rfl, rfl⟩
        refine go_more (k' := 19) (n' := 65) (by decide) (by decide) ?_
        refine go_if_eq c0_343 (fun q => absurd q (by decide)) (fun _ => ?_)
        refine go_iload c0_346 rfl ?_
        refine go_if_ne c0_348 (fun _ => ?_) (fun q => absurd q (by decide))
        refine go_aload c0_364 rfl rfl ?_
        refine go_get (y := x) P129 (1) 1 c0_366 rfl rfl (t144 hw) ?_
        refine go_iload c0_369 rfl ?_
        refine go_if_eq c0_371 (fun q => absurd q (by decide)) (fun _ => ?_)
        refine go_lload c0_374 rfl ?_
        refine go_goto c0_375 ?_
        refine go_lcmp c0_383 ?_
        refine go_lc_ne c0_384 (fun q => absurd rfl q) (fun _ => ?_)
        refine go_aload c0_387 rfl rfl ?_
        refine go_get (y := x) P129 (1) 3 c0_389 rfl rfl (t145 hw) ?_
        refine go_nonnullF c0_392 ?_
        refine go_aload c0_395 rfl rfl ?_
        have P130 : Hp Z n0 h128 ([(a98, (.inl ("com/example/velvet_rope/velvetrope/lock/ElementLocks", [(("com/example/velvet_rope/velvetrope/lock/ElementLocks", "holders", "Ljava/util/List;"), (.ref l104)), (("com/example/velvet_rope/velvetrope/lock/ElementLocks", "queue", "Lcom/example/velvet_rope/velvetrope/lock/WaitingQueue;"), (.ref q102)), (("com/example/velvet_rope/velvetrope/lock/ElementLocks", "coming", "I"), (.int (sa + 2)))]))), (l104, (.inl ("java/util/ArrayList", [(("java/util/AbstractList", "modCount", "I"), (.int 0)), (("java/util/ArrayList", "elementData", "[Ljava/lang/Object;"), (.ref r103)), (("java/util/ArrayList", "size", "I"), (.int 0))]))), (q102, (.inl ("com/example/velvet_rope/velvetrope/lock/WaitingQueue", [(("java/util/AbstractList", "modCount", "I"), (.int 0)), (("com/example/velvet_rope/velvetrope/lock/QueueList", "elements", "[Ljava/lang/Object;"), (.ref ny)), (("com/example/velvet_rope/velvetrope/lock/QueueList", "end", "I"), (.int 0)), (("com/example/velvet_rope/velvetrope/lock/QueueList", "start", "I"), (.int 0))]))), (a43, (.inl ("com/example/velvet_rope/velvetrope/lock/TransactionLocks", [(("com/example/velvet_rope/velvetrope/lock/TransactionLocks", "held", "Ljava/util/Set;"), (.ref s48)), (("com/example/velvet_rope/velvetrope/lock/TransactionLocks", "began", "J"), (.long bg)), (("com/example/velvet_rope/velvetrope/lock/TransactionLocks", "comingTo", "Ljava/lang/String;"), (.ref a24)), (("com/example/velvet_rope/velvetrope/lock/TransactionLocks", "waiting", "Lcom/example/velvet_rope/velvetrope/lock/Request;"), .null)]))), (r103, (.inr ((.object "java/lang/Object"), "[Ljava/lang/Object;", [.null, .null]))), (m55, (.inl ("java/util/HashMap", [(("java/util/HashMap", "loadFactor", "F"), (.float 1061158912))]))), (s56, (.inl ("java/util/HashSet", [(("java/util/HashSet", "map", "Ljava/util/HashMap;"), (.ref m55))]))), (a51, (.inl ("com/example/velvet_rope/velvetrope/lock/TransactionLocks", [(("com/example/velvet_rope/velvetrope/lock/TransactionLocks", "held", "Ljava/util/Set;"), (.ref s56)), (("com/example/velvet_rope/velvetrope/lock/TransactionLocks", "began", "J"), (.long (bg ^^^ (-1)))), (("com/example/velvet_rope/velvetrope/lock/TransactionLocks", "comingTo", "Ljava/lang/String;"), (.ref a36)), (("com/example/velvet_rope/velvetrope/lock/TransactionLocks", "waiting", "Lcom/example/velvet_rope/velvetrope/lock/Request;"), .null)]))), (m47, (.inl ("java/util/HashMap", [(("java/util/HashMap", "loadFactor", "F"), (.float 1061158912))]))), (s48, (.inl ("java/util/HashSet", [(("java/util/HashSet", "map", "Ljava/util/HashMap;"), (.ref m47))]))), (b40, (.inr (.byte, "[B", [(.int (nar .byte (nar .char ch5).toInt8.toInt32))]))), (a31, (.inr (.char, "[C", [(.int (nar .char ch5))]))), (a36, (.inl ("java/lang/String", [(("java/lang/String", "coder", "B"), (.int 0)), (("java/lang/String", "value", "[B"), (.ref b40))]))), (b28, (.inr (.byte, "[B", [(.int (nar .byte (nar .char ch3).toInt8.toInt32)), (.int (nar .byte (nar .char ch4).toInt8.toInt32))]))), (a17, (.inr (.char, "[C", [(.int (nar .char ch3)), (.int (nar .char ch4))]))), (a24, (.inl ("java/lang/String", [(("java/lang/String", "coder", "B"), (.int 0)), (("java/lang/String", "value", "[B"), (.ref b28))]))), (b14, (.inr (.byte, "[B", [(.int (nar .byte (nar .char ch1).toInt8.toInt32)), (.int (nar .byte (nar .char ch2).toInt8.toInt32))]))), (a3, (.inr (.char, "[C", [(.int (nar .char ch1)), (.int (nar .char ch2))]))), (a10, (.inl ("java/lang/String", [(("java/lang/String", "coder", "B"), (.int 0)), (("java/lang/String", "value", "[B"), (.ref b14))])))]) := (((P129.front 3).front 3).front 2)
        refine go_callV1 (y := x) (W := 0) (argsL := []) (st := []) c0_397 (rm_idle l Z a0 hw h128 n0 a98 l104 q102 r103 ny (sa + 2) _ P130) (P130.exa (i := 0) rfl) (t147 hw) (t148 hw) (fun _ q => notFace_of_selects (args := #[]) (mvT q (t150 hw))) (t150 hw) (t149 hw) (t84 hw) (t151 hw) (by decide) (lenOf pd7 rfl) rfl rfl (by decide) (by decide) (by decide) (by decide) rfl ?_
        rintro _ _ ⟨rfl, rfl⟩
        refine go_more (k' := 19) (n' := 65) (by decide) (by decide) ?_
        refine go_iload c0_400 rfl ?_
        refine go_push c0_401 ?_
        refine go_iadd c0_402 ?_
        refine go_if_ne c0_403 (fun b403 => ?_) (fun b403 => ?_)
        · refine go_push c0_410 ?_
          refine go_icmp_ne c0_411 (fun q => absurd (by simp [own_z, b403]) q) (fun _ => ?_)
          refine go_push c0_414 ?_
          refine go_goto c0_415 ?_
          refine go_istore c0_419 rfl rfl ?_
          dsimp only [setl]
          refine go_iload c0_421 rfl ?_
          refine go_if_eq c0_423 (fun q => absurd q (by decide)) (fun _ => ?_)
          refine go_iload c0_426 rfl ?_
          refine go_if_eq c0_428 (fun q => absurd q (by decide)) (fun _ => ?_)
          refine go_push c0_431 ?_
          refine go_goto c0_432 ?_
          exact go_bret rfl c0_436 (by decide) (by decide) (by decide) ⟨_, rfl, rfl⟩
        · refine go_push c0_406 ?_
          refine go_goto c0_407 ?_
          refine go_icmp_ne c0_411 (fun q => absurd (by simp [own_z, b403]) q) (fun _ => ?_)
          refine go_push c0_414 ?_
          refine go_goto c0_415 ?_
          refine go_istore c0_419 rfl rfl ?_
          dsimp only [setl]
          refine go_iload c0_421 rfl ?_
          refine go_if_eq c0_423 (fun q => absurd q (by decide)) (fun _ => ?_)
          refine go_iload c0_426 rfl ?_
          refine go_if_eq c0_428 (fun q => absurd q (by decide)) (fun _ => ?_)
          refine go_push c0_431 ?_
          refine go_goto c0_432 ?_
          exact go_bret rfl c0_436 (by decide) (by decide) (by decide) ⟨_, rfl, rfl⟩
set_option maxRecDepth 65536 in
set_option maxHeartbeats 4000000 in
theorem comes_1 {Post : Tables → Env → Array Value → State → Outcome → State → Prop} (hpost : ∀ tb e args s v u, (limb_1_1.after args s (.returned v) u = true ∧ limb_1_2.after args s (.returned v) u = true ∧ True) → FrameEnd s (.returned v) u (Jvm.fieldLocs frame_1_writes args s ++ Jvm.arrayLocs frame_1_arrays args s ++ Jvm.staticLocs frame_1_statics s) 48 256 → Post tb e args s (.returned v) u) :
    ArmFor flags0 classFile x code maxLocals ret World_1 tables_1 room_1 Calls_1 rest_1 Pre_1 Post := by
  intro l hfl _ _ p e ha hc hk s m args below hf hA hF happ hP
  obtain ⟨hcalls, hrest, hpre⟩ := hP
  obtain ⟨-, -, -, hnamed, -, -, -, hat⟩ := (Spec.applies_iff hf).mp happ
  obtain ⟨hg, hn⟩ := and_e (Cond.before_iff.mp (show (Jvm.Cond.and given_1 narrow_1).before args s = true from hpre))
  obtain ⟨hct, hg0⟩ := and_e hg
  obtain ⟨ga0, hg1⟩ := and_e hg0
  obtain ⟨ga1, hg2⟩ := and_e hg1
  obtain ⟨ga2, hg3⟩ := and_e hg2
  obtain ⟨ga3, hg4⟩ := and_e hg3
  have ga4 := hg4
  obtain ⟨w0, w1, w2, w3, w4, rfl⟩ : ∃ w0 w1 w2 w3 w4 : Value, args = #[w0, w1, w2, w3, w4] := by
    have hs : args.size = 5 := by simpa [Cond.value, given_1] using hct
    obtain ⟨L⟩ := args
    match L, hs with
    | [w0, w1, w2, w3, w4], _ => exact ⟨w0, w1, w2, w3, w4, rfl⟩
  have hw := fun d (hd : d ∈ tables_1) => atoms_spec (ws := Jvm.Cond.code x code maxLocals ret :: tables_1) hat d (List.mem_cons_of_mem _ hd)
  have hfit : Fit s := fun {y c} hc i hi => by
    obtain ⟨ha, rfl⟩ := Array.getElem?_eq_some_iff.mp hc
    have q := List.all_eq_true.mp ((Array.all_eq_true_iff_forall_mem.mp hF) _ (Array.getElem_mem ha)) i (List.mem_range.mpr hi)
    simpa [Array.getElem?_eq_getElem hi] using q
  obtain ⟨i0, ei0⟩ := is_v ga0
  obtain rfl : w0 = (.int i0) := Option.some.inj ei0
  obtain ⟨i1, ei1⟩ := isL_v ga1
  obtain rfl : w1 = (.long i1) := Option.some.inj ei1
  obtain ⟨i2, ei2⟩ := is_v ga2
  obtain rfl : w2 = (.int i2) := Option.some.inj ei2
  obtain ⟨i3, ei3⟩ := is_v ga3
  obtain rfl : w3 = (.int i3) := Option.some.inj ei3
  obtain ⟨i4, ei4⟩ := is_v ga4
  obtain rfl : w4 = (.int i4) := Option.some.inj ei4
  have hr := Cond.before_iff.mp (show rest_1_c.before _ s = true from hrest)
  obtain ⟨r1, hr1⟩ := and_e hr
  obtain ⟨r2, hr2⟩ := and_e hr1
  obtain ⟨r3, hr3⟩ := and_e hr2
  obtain ⟨cs, ecs⟩ := is_v r2
  have hcs : cs ≠ 0 := fun q => by
    subst q
    simp [Cond.value, Term.eval] at r3 ecs
    simp [ecs] at r3
  have SC := Sta.start ecs (Or.inl (Cond.before_iff.mpr r1))
  obtain ⟨n1, n2⟩ := and_e hn
  obtain ⟨ny, eny⟩ := arr_v n1
  have K := rm0 l s _ hw s.heap s.heap.size (Hp.start s) cs hcs SC ny (Sta.start eny (Or.inr ⟨(t120 hw), (t126 hw)⟩)) i0 i1 i2 i3 i4
  obtain ⟨n, o, h1, h2, h3, v, L, rfl, ⟨⟨⟨w, rfl, rfl⟩, -⟩, N⟩, hq⟩ := K tables_1 p e ha hc hk s m _ below hf ((Spec.applies_iff_loose hf).mp happ).1 ⟨rfl, State.Warmed39.refl s, rfl⟩ trivial
  refine ⟨n, _, h1, h2, h3, hpost _ _ _ _ _ _ ⟨Cond.after_iff.mpr rfl, Cond.after_iff.mpr (eq_i res_at (Term.int_eval (1)) rfl), trivial⟩ ⟨hq.1, hq.2.1, (hq.2.2.sift fun y hy => Or.inr (N y hy)).mono (by decide) (by decide)⟩⟩
theorem main_1_1 : Claimed_1_1 := comes_1 fun _ _ _ _ _ _ h hF => ⟨h.1, hF⟩
theorem main_1_2 : Claimed_1_2 := comes_1 fun _ _ _ _ _ _ h hF => ⟨h.2.1, hF⟩
end Jvm.Pilot.@@N@@
namespace Jvm.Pilot.@@N@@
open Jvm Jvm.ClassFile Sem Op Lib Jvm.Free Jvm.Stand Jvm.Pilot.@@N@@.Jvm.D
/-! MADE BY PROGRAM (witnessworld.py) out of the Statement's table words and the real class files: 39 classes; the members and pool entries that the words name. The judged class is class 1, her method 1. -/
namespace start1
open Jvm.ClassFile
def u (s : String) : CpInfo := .utf8 (stringToUtf16 s)
/-- a pool by its gaps: so many unusable entries, then the entry; so many at the end -/
def gap : Nat → List CpInfo → List CpInfo
  | 0, r => r
  | n + 1, r => .unusable :: gap n r
def poolList (es : List (Nat × CpInfo)) (last : Nat) : List CpInfo := es.foldr (fun e r => gap e.1 (e.2 :: r)) (gap last [])
def pool (es : List (Nat × CpInfo)) (last : Nat) : Array CpInfo := ⟨poolList es last⟩
def fileOf (pool : Array CpInfo) (this : Nat) (attrs : Array Attribute := #[]) (ms : Array MethodInfo := #[]) (fl : Nat := 33) (sup : Nat := 0) (ifs : Array Nat := #[]) (fds : Array FieldInfo := #[]) : ClassFile where
  minorVersion := 0
  majorVersion := 65
  constantPool := pool
  accessFlags := fl
  thisClass := this
  superClass := sup
  interfaces := ifs
  fields := fds
  methods := ms
  attributes := attrs
def plain (name : String) (sup : Option ClassId) : Class where
  name := name
  kind := .ordinary
  loader := none
  accessFlags := 33
  super := sup
  interfaces := #[]
  cf := none
  fields := #[]
  methods := #[]
  instanceTypes := #[]
  staticTypes := #[]
  resolved := #[]
  callSites := []
  init := .initialized
  statics := none
  mirror := none

def pool0 : Array CpInfo := pool [(5, u "<init>"), (0, u "()V"), (1, .class_ 10), (1, u "java/lang/Object")] 113

def k0c0 : Code := { maxStack := 0, maxLocals := 1, code := object_method_1_code, exceptionTable := #[], attributes := #[] }
def k0m0 : Method := { name := "<init>", desc := "()V", sig := { parameters := [], returnType := none }, accessFlags := 1, code := some k0c0 }
/-- java/lang/Object -/
def k0 : Class := { plain "java/lang/Object" none with
  accessFlags := 33
  interfaces := #[]
  cf := some (fileOf pool0 8 #[] #[{ accessFlags := 1, nameIndex := 5, descriptorIndex := 6, attributes := #[] }] 33 0 #[] #[])
  fields := #[]
  methods := #[k0m0]
  instanceTypes := #[]
  staticTypes := #[]
  resolved := Array.replicate 124 none
  statics := none }

def pool1 : Array CpInfo := pool [(2, .class_ 4), (0, .nameAndType 5 6), (0, u "java/lang/Object"), (0, u "<init>"), (0, u "()V"), (0, .class_ 8), (0, u "java/lang/String"), (0, .methodref 7 10), (0, .nameAndType 5 11), (0, u "([C)V"), (0, .class_ 13), (0, u "com/example/velvet_rope/velvetrope/lock/TransactionLocks"), (0, .methodref 12 15), (0, .nameAndType 5 16), (0, u "(J)V"), (0, .long 18446744073709551615), (1, .fieldref 12 20), (0, .nameAndType 21 22), (0, u "comingTo"), (0, u "Ljava/lang/String;"), (0, .class_ 24), (0, u "com/example/velvet_rope/velvetrope/lock/ElementLocks"), (0, .methodref 23 3), (0, .fieldref 23 27), (0, .nameAndType 28 29), (0, u "coming"), (0, u "I"), (0, .methodref 31 32), (0, .class_ 33), (0, .nameAndType 34 35), (0, u "com/example/velvet_rope/velvetrope/lock/TableEntries"), (0, u "come"), (0, u "(Lcom/example/velvet_rope/velvetrope/lock/TransactionLocks;Ljava/lang/String;Lcom/example/velvet_rope/velvetrope/lock/ElementLocks;)V"), (0, .methodref 7 37), (0, .nameAndType 38 39), (0, u "equals"), (0, u "(Ljava/lang/Object;)Z"), (0, .fieldref 12 41), (0, .nameAndType 42 43), (0, u "began"), (0, u "J"), (0, .fieldref 12 45), (0, .nameAndType 46 47), (0, u "waiting"), (0, u "Lcom/example/velvet_rope/velvetrope/lock/Request;"), (0, .methodref 23 49), (0, .nameAndType 50 51), (0, u "idle"), (0, u "()Z"), (0, .class_ 53), (0, u "com/example/velvet_rope/velvetrope/lock/TableEntriesComePinLaw"), (2, u "law"), (0, u "(IJIII)Z")] 5

def k1m0 : Method := { name := "<init>", desc := "()V", sig := { parameters := [], returnType := none }, accessFlags := 1, code := none }
def k1c1 : Code := { maxStack := 6, maxLocals := 21, code := code, exceptionTable := #[], attributes := #[] }
def k1m1 : Method := { name := "law", desc := "(IJIII)Z", sig := { parameters := [.int, .long, .int, .int, .int], returnType := some .boolean }, accessFlags := 9, code := some k1c1 }
/-- com/example/velvet_rope/velvetrope/lock/TableEntriesComePinLaw -/
def k1 : Class := { plain "com/example/velvet_rope/velvetrope/lock/TableEntriesComePinLaw" (some 0) with
  accessFlags := 49
  interfaces := #[]
  cf := some (fileOf pool1 52 #[] #[{ accessFlags := 1, nameIndex := 5, descriptorIndex := 6, attributes := #[] }, { accessFlags := 9, nameIndex := 56, descriptorIndex := 57, attributes := #[] }] 49 2 #[] #[])
  fields := #[]
  methods := #[k1m0, k1m1]
  instanceTypes := #[]
  staticTypes := #[]
  resolved := Array.replicate 63 none
  statics := none }

def pool2 : Array CpInfo := pool [(1, .class_ 2), (0, u "java/io/Serializable"), (0, .class_ 4), (0, u "java/lang/Object")] 2

/-- java/io/Serializable -/
def k2 : Class := { plain "java/io/Serializable" (some 0) with
  accessFlags := 1537
  interfaces := #[]
  cf := some (fileOf pool2 1 #[] #[] 1537 3 #[] #[])
  fields := #[]
  methods := #[]
  instanceTypes := #[]
  staticTypes := #[]
  resolved := Array.replicate 7 none
  statics := none }

def pool3 : Array CpInfo := pool [(1, .class_ 2), (0, u "java/lang/Comparable"), (0, .class_ 4), (0, u "java/lang/Object")] 7

/-- java/lang/Comparable -/
def k3 : Class := { plain "java/lang/Comparable" (some 0) with
  accessFlags := 1537
  interfaces := #[]
  cf := some (fileOf pool3 1 #[] #[] 1537 3 #[] #[])
  fields := #[]
  methods := #[]
  instanceTypes := #[]
  staticTypes := #[]
  resolved := Array.replicate 12 none
  statics := none }

def pool4 : Array CpInfo := pool [(2, .class_ 4), (1, u "java/lang/CharSequence"), (42, .class_ 48), (0, u "java/lang/CharSequence$1CodePointIterator"), (10, .class_ 60), (0, u "java/lang/CharSequence$1CharIterator"), (5, .class_ 67), (0, u "java/lang/Object")] 63

/-- java/lang/CharSequence -/
def k4 : Class := { plain "java/lang/CharSequence" (some 0) with
  accessFlags := 1537
  interfaces := #[]
  cf := some (fileOf pool4 2 #[.nestMembers #[47, 59]] #[] 1537 66 #[] #[])
  fields := #[]
  methods := #[]
  instanceTypes := #[]
  staticTypes := #[]
  resolved := Array.replicate 131 none
  statics := none }

def pool5 : Array CpInfo := pool [(1, .class_ 2), (0, u "java/lang/constant/Constable"), (0, .class_ 4), (0, u "java/lang/Object")] 6

/-- java/lang/constant/Constable -/
def k5 : Class := { plain "java/lang/constant/Constable" (some 0) with
  accessFlags := 1537
  interfaces := #[]
  cf := some (fileOf pool5 1 #[] #[] 1537 3 #[] #[])
  fields := #[]
  methods := #[]
  instanceTypes := #[]
  staticTypes := #[]
  resolved := Array.replicate 11 none
  statics := none }

def pool6 : Array CpInfo := pool [(1, .class_ 2), (0, u "java/lang/constant/ConstantDesc"), (0, .class_ 4), (0, u "java/lang/Object")] 32

/-- java/lang/constant/ConstantDesc -/
def k6 : Class := { plain "java/lang/constant/ConstantDesc" (some 0) with
  accessFlags := 1537
  interfaces := #[]
  cf := some (fileOf pool6 1 #[] #[] 1537 3 #[] #[])
  fields := #[]
  methods := #[]
  instanceTypes := #[]
  staticTypes := #[]
  resolved := Array.replicate 37 none
  statics := none }

def pool7 : Array CpInfo := pool [(1, .methodref 2 3), (0, .class_ 4), (0, .nameAndType 5 6), (0, u "java/lang/Object"), (0, u "<init>"), (0, u "()V"), (2, .fieldref 10 11), (0, .class_ 12), (0, .nameAndType 13 14), (0, u "java/lang/String"), (0, u "value"), (0, u "[B"), (0, .fieldref 10 16), (0, .nameAndType 17 18), (0, u "coder"), (0, u "B"), (2, u "hash"), (0, u "I"), (2, u "hashIsZero"), (0, u "Z"), (0, .methodref 10 28), (0, .nameAndType 5 29), (0, u "([CIILjava/lang/Void;)V"), (8, .fieldref 10 39), (0, .nameAndType 40 26), (0, u "COMPACT_STRINGS"), (1, .class_ 44), (1, u "java/lang/StringUTF16"), (0, u "compress"), (1, .methodref 42 48), (0, .nameAndType 49 50), (0, u "coderFromArrayLen"), (0, u "([BI)B"), (126, .methodref 42 178), (0, .nameAndType 45 179), (0, u "([CII)[B"), (363, u "equals"), (29, u "(Ljava/lang/Object;)Z"), (1, .class_ 576), (0, u "java/lang/CharSequence"), (22, u "CASE_INSENSITIVE_ORDER"), (0, u "Ljava/util/Comparator;"), (409, u "([C)V"), (90, u "serialPersistentFields"), (0, u "[Ljava/io/ObjectStreamField;"), (0, .class_ 1104), (0, u "java/lang/String$CaseInsensitiveComparator"), (1, .class_ 1107), (0, u "java/io/Serializable"), (0, .class_ 1109), (0, u "java/lang/Comparable"), (0, .class_ 1111), (0, u "java/lang/constant/Constable"), (0, .class_ 1113), (0, u "java/lang/constant/ConstantDesc"), (2, u "serialVersionUID"), (0, u "J"), (3, u "REPL"), (0, u "C"), (2, u "LATIN1"), (1, u "UTF16")] 323

def k7m0 : Method := { name := "<init>", desc := "()V", sig := { parameters := [], returnType := none }, accessFlags := 1, code := none }
def k7c1 : Code := { maxStack := 5, maxLocals := 2, code := jdk_42_method_3_code, exceptionTable := #[], attributes := #[] }
def k7m1 : Method := { name := "<init>", desc := "([C)V", sig := { parameters := [(.array .char)], returnType := none }, accessFlags := 1, code := some k7c1 }
def k7c2 : Code := { maxStack := 2, maxLocals := 3, code := jdk_42_method_66_code, exceptionTable := #[], attributes := #[] }
def k7m2 : Method := { name := "equals", desc := "(Ljava/lang/Object;)Z", sig := { parameters := [(.object "java/lang/Object")], returnType := some .boolean }, accessFlags := 1, code := some k7c2 }
def k7c3 : Code := { maxStack := 4, maxLocals := 6, code := jdk_42_method_149_code, exceptionTable := #[], attributes := #[] }
def k7m3 : Method := { name := "<init>", desc := "([CIILjava/lang/Void;)V", sig := { parameters := [(.array .char), .int, .int, (.object "java/lang/Void")], returnType := none }, accessFlags := 2, code := some k7c3 }
/-- java/lang/String -/
def k7 : Class := { plain "java/lang/String" (some 0) with
  accessFlags := 49
  interfaces := #[2, 3, 4, 5, 6]
  cf := some (fileOf pool7 10 #[.nestMembers #[1103]] #[{ accessFlags := 1, nameIndex := 5, descriptorIndex := 6, attributes := #[] }, { accessFlags := 1, nameIndex := 5, descriptorIndex := 1010, attributes := #[] }, { accessFlags := 1, nameIndex := 543, descriptorIndex := 573, attributes := #[] }, { accessFlags := 2, nameIndex := 5, descriptorIndex := 29, attributes := #[] }] 49 2 #[1106, 1108, 575, 1110, 1112] #[{ accessFlags := 18, nameIndex := 13, descriptorIndex := 14, attributes := #[] }, { accessFlags := 18, nameIndex := 17, descriptorIndex := 18, attributes := #[] }, { accessFlags := 2, nameIndex := 21, descriptorIndex := 22, attributes := #[] }, { accessFlags := 2, nameIndex := 25, descriptorIndex := 26, attributes := #[] }, { accessFlags := 26, nameIndex := 1116, descriptorIndex := 1117, attributes := #[] }, { accessFlags := 24, nameIndex := 40, descriptorIndex := 26, attributes := #[] }, { accessFlags := 26, nameIndex := 1101, descriptorIndex := 1102, attributes := #[] }, { accessFlags := 26, nameIndex := 1121, descriptorIndex := 1122, attributes := #[] }, { accessFlags := 25, nameIndex := 599, descriptorIndex := 600, attributes := #[] }, { accessFlags := 24, nameIndex := 1125, descriptorIndex := 18, attributes := #[] }, { accessFlags := 24, nameIndex := 1127, descriptorIndex := 18, attributes := #[] }])
  fields := #[{ name := "value", type := (.array .byte), accessFlags := 18, slot := 0, constantValue := 0 }, { name := "coder", type := .byte, accessFlags := 18, slot := 1, constantValue := 0 }, { name := "hash", type := .int, accessFlags := 2, slot := 2, constantValue := 0 }, { name := "hashIsZero", type := .boolean, accessFlags := 2, slot := 3, constantValue := 0 }, { name := "serialVersionUID", type := .long, accessFlags := 26, slot := 0, constantValue := 0 }, { name := "COMPACT_STRINGS", type := .boolean, accessFlags := 24, slot := 1, constantValue := 0 }, { name := "serialPersistentFields", type := (.array (.object "java/io/ObjectStreamField")), accessFlags := 26, slot := 2, constantValue := 0 }, { name := "REPL", type := .char, accessFlags := 26, slot := 3, constantValue := 0 }, { name := "CASE_INSENSITIVE_ORDER", type := (.object "java/util/Comparator"), accessFlags := 25, slot := 4, constantValue := 0 }, { name := "LATIN1", type := .byte, accessFlags := 24, slot := 5, constantValue := 0 }, { name := "UTF16", type := .byte, accessFlags := 24, slot := 6, constantValue := 0 }]
  methods := #[k7m0, k7m1, k7m2, k7m3]
  instanceTypes := #[(.array .byte), .byte, .int, .boolean]
  staticTypes := #[.long, .boolean, (.array (.object "java/io/ObjectStreamField")), .char, (.object "java/util/Comparator"), .byte, .byte]
  resolved := Array.replicate 1451 none
  statics := some 0 }

def pool8 : Array CpInfo := pool [(6, .class_ 8), (1, u "java/lang/Object"), (0, u "<init>"), (0, u "()V"), (1, .class_ 14), (1, u "java/lang/StringUTF16"), (31, u "$assertionsDisabled"), (0, u "Z"), (13, u "HI_BYTE_SHIFT"), (0, u "I"), (2, u "LO_BYTE_SHIFT"), (49, .methodref 12 116), (0, .nameAndType 117 118), (0, u "compress"), (0, u "([CI[BII)I"), (3, u "([CII)[B"), (138, u "coderFromArrayLen"), (0, u "([BI)B"), (106, .class_ 371), (1, u "java/lang/StringUTF16$LinesSpliterator"), (58, u "MAX_LENGTH"), (196, .class_ 628), (0, u "java/lang/StringUTF16$CodePointsSpliterator"), (0, .class_ 630), (0, u "java/lang/StringUTF16$CharsSpliterator")] 4

def k8m0 : Method := { name := "<init>", desc := "()V", sig := { parameters := [], returnType := none }, accessFlags := 0, code := none }
def k8c1 : Code := { maxStack := 2, maxLocals := 2, code := jdk_52_method_15_code, exceptionTable := #[], attributes := #[] }
def k8m1 : Method := { name := "coderFromArrayLen", desc := "([BI)B", sig := { parameters := [(.array .byte), .int], returnType := some .byte }, accessFlags := 8, code := some k8c1 }
def k8c2 : Code := { maxStack := 5, maxLocals := 6, code := jdk_52_method_16_code, exceptionTable := #[], attributes := #[] }
def k8m2 : Method := { name := "compress", desc := "([CII)[B", sig := { parameters := [(.array .char), .int, .int], returnType := some (.array .byte) }, accessFlags := 9, code := some k8c2 }
def k8c3 : Code := { maxStack := 3, maxLocals := 7, code := jdk_52_method_21_code, exceptionTable := #[], attributes := #[] }
def k8m3 : Method := { name := "compress", desc := "([CI[BII)I", sig := { parameters := [(.array .char), .int, (.array .byte), .int, .int], returnType := some .int }, accessFlags := 9, code := some k8c3 }
/-- java/lang/StringUTF16 -/
def k8 : Class := { plain "java/lang/StringUTF16" (some 0) with
  accessFlags := 48
  interfaces := #[]
  cf := some (fileOf pool8 12 #[.nestMembers #[627, 629, 369]] #[{ accessFlags := 0, nameIndex := 9, descriptorIndex := 10, attributes := #[] }, { accessFlags := 8, nameIndex := 261, descriptorIndex := 262, attributes := #[] }, { accessFlags := 9, nameIndex := 117, descriptorIndex := 122, attributes := #[] }, { accessFlags := 9, nameIndex := 117, descriptorIndex := 118, attributes := #[] }] 48 6 #[] #[{ accessFlags := 26, nameIndex := 61, descriptorIndex := 62, attributes := #[] }, { accessFlags := 26, nameIndex := 65, descriptorIndex := 62, attributes := #[] }, { accessFlags := 24, nameIndex := 430, descriptorIndex := 62, attributes := #[] }, { accessFlags := 4120, nameIndex := 46, descriptorIndex := 47, attributes := #[] }])
  fields := #[{ name := "HI_BYTE_SHIFT", type := .int, accessFlags := 26, slot := 0, constantValue := 0 }, { name := "LO_BYTE_SHIFT", type := .int, accessFlags := 26, slot := 1, constantValue := 0 }, { name := "MAX_LENGTH", type := .int, accessFlags := 24, slot := 2, constantValue := 0 }, { name := "$assertionsDisabled", type := .boolean, accessFlags := 4120, slot := 3, constantValue := 0 }]
  methods := #[k8m0, k8m1, k8m2, k8m3]
  instanceTypes := #[]
  staticTypes := #[.int, .int, .int, .boolean]
  resolved := Array.replicate 635 none
  statics := none }

def pool9 : Array CpInfo := pool [(1, .methodref 2 3), (0, .class_ 4), (0, .nameAndType 5 6), (0, u "java/lang/Object"), (0, u "<init>"), (0, u "()V"), (0, .class_ 8), (0, u "java/util/HashSet"), (0, .methodref 7 3), (0, .fieldref 11 12), (0, .class_ 13), (0, .nameAndType 14 15), (0, u "com/example/velvet_rope/velvetrope/lock/TransactionLocks"), (0, u "held"), (0, u "Ljava/util/Set;"), (0, .fieldref 11 17), (0, .nameAndType 18 19), (0, u "began"), (0, u "J"), (2, u "waiting"), (0, u "Lcom/example/velvet_rope/velvetrope/lock/Request;"), (0, u "comingTo"), (0, u "Ljava/lang/String;"), (0, u "(J)V")] 4

def k9c0 : Code := { maxStack := 3, maxLocals := 3, code := prog_65_method_1_code, exceptionTable := #[], attributes := #[] }
def k9m0 : Method := { name := "<init>", desc := "(J)V", sig := { parameters := [.long], returnType := none }, accessFlags := 0, code := some k9c0 }
/-- com/example/velvet_rope/velvetrope/lock/TransactionLocks -/
def k9 : Class := { plain "com/example/velvet_rope/velvetrope/lock/TransactionLocks" (some 0) with
  accessFlags := 32
  interfaces := #[]
  cf := some (fileOf pool9 11 #[] #[{ accessFlags := 0, nameIndex := 5, descriptorIndex := 26, attributes := #[] }] 32 2 #[] #[{ accessFlags := 16, nameIndex := 18, descriptorIndex := 19, attributes := #[] }, { accessFlags := 16, nameIndex := 14, descriptorIndex := 15, attributes := #[] }, { accessFlags := 0, nameIndex := 22, descriptorIndex := 23, attributes := #[] }, { accessFlags := 0, nameIndex := 24, descriptorIndex := 25, attributes := #[] }])
  fields := #[{ name := "began", type := .long, accessFlags := 16, slot := 0, constantValue := 0 }, { name := "held", type := (.object "java/util/Set"), accessFlags := 16, slot := 1, constantValue := 0 }, { name := "waiting", type := (.object "com/example/velvet_rope/velvetrope/lock/Request"), accessFlags := 0, slot := 2, constantValue := 0 }, { name := "comingTo", type := (.object "java/lang/String"), accessFlags := 0, slot := 3, constantValue := 0 }]
  methods := #[k9m0]
  instanceTypes := #[.long, (.object "java/util/Set"), (.object "com/example/velvet_rope/velvetrope/lock/Request"), (.object "java/lang/String")]
  staticTypes := #[]
  resolved := Array.replicate 31 none
  statics := none }

def pool10 : Array CpInfo := pool [(8, .class_ 10), (1, u "java/lang/Iterable"), (24, .class_ 36), (0, u "java/lang/Object")] 25

/-- java/lang/Iterable -/
def k10 : Class := { plain "java/lang/Iterable" (some 0) with
  accessFlags := 1537
  interfaces := #[]
  cf := some (fileOf pool10 8 #[] #[] 1537 35 #[] #[])
  fields := #[]
  methods := #[]
  instanceTypes := #[]
  staticTypes := #[]
  resolved := Array.replicate 62 none
  statics := none }

def pool11 : Array CpInfo := pool [(10, .class_ 12), (1, u "java/util/Collection"), (47, .class_ 61), (0, u "java/lang/Object"), (0, .class_ 63), (0, u "java/lang/Iterable")] 51

/-- java/util/Collection -/
def k11 : Class := { plain "java/util/Collection" (some 0) with
  accessFlags := 1537
  interfaces := #[10]
  cf := some (fileOf pool11 10 #[] #[] 1537 60 #[62] #[])
  fields := #[]
  methods := #[]
  instanceTypes := #[]
  staticTypes := #[]
  resolved := Array.replicate 115 none
  statics := none }

def pool12 : Array CpInfo := pool [(1, .methodref 2 3), (0, .class_ 4), (0, .nameAndType 5 6), (0, u "java/lang/Object"), (0, u "<init>"), (0, u "()V"), (0, .methodref 8 9), (0, .class_ 10), (0, .nameAndType 11 12), (0, u "java/util/AbstractCollection"), (0, u "size"), (0, u "()I"), (9, u "()Z"), (54, .class_ 78), (0, u "java/util/Collection"), (40, u "isEmpty")] 40

def k12c0 : Code := { maxStack := 1, maxLocals := 1, code := jdk_22_method_1_code, exceptionTable := #[], attributes := #[] }
def k12m0 : Method := { name := "<init>", desc := "()V", sig := { parameters := [], returnType := none }, accessFlags := 4, code := some k12c0 }
def k12m1 : Method := { name := "size", desc := "()I", sig := { parameters := [], returnType := some .int }, accessFlags := 1025, code := none }
def k12c2 : Code := { maxStack := 1, maxLocals := 1, code := jdk_22_method_4_code, exceptionTable := #[], attributes := #[] }
def k12m2 : Method := { name := "isEmpty", desc := "()Z", sig := { parameters := [], returnType := some .boolean }, accessFlags := 1, code := some k12c2 }
/-- java/util/AbstractCollection -/
def k12 : Class := { plain "java/util/AbstractCollection" (some 0) with
  accessFlags := 1057
  interfaces := #[11]
  cf := some (fileOf pool12 8 #[] #[{ accessFlags := 4, nameIndex := 5, descriptorIndex := 6, attributes := #[] }, { accessFlags := 1025, nameIndex := 11, descriptorIndex := 12, attributes := #[] }, { accessFlags := 1, nameIndex := 119, descriptorIndex := 22, attributes := #[] }] 1057 2 #[77] #[])
  fields := #[]
  methods := #[k12m0, k12m1, k12m2]
  instanceTypes := #[]
  staticTypes := #[]
  resolved := Array.replicate 160 none
  statics := none }

def pool13 : Array CpInfo := pool [(26, .class_ 27), (0, u "java/lang/Object"), (5, .class_ 34), (0, u "java/util/Set"), (1, .class_ 38), (1, u "java/util/Collection")] 105

/-- java/util/Set -/
def k13 : Class := { plain "java/util/Set" (some 0) with
  accessFlags := 1537
  interfaces := #[11]
  cf := some (fileOf pool13 33 #[] #[] 1537 26 #[36] #[])
  fields := #[]
  methods := #[]
  instanceTypes := #[]
  staticTypes := #[]
  resolved := Array.replicate 144 none
  statics := none }

def pool14 : Array CpInfo := pool [(1, .methodref 2 3), (0, .class_ 4), (0, .nameAndType 5 6), (0, u "java/util/AbstractCollection"), (0, u "<init>"), (0, u "()V"), (0, .class_ 8), (0, u "java/util/Set"), (7, .class_ 17), (0, u "java/util/AbstractSet")] 78

def k14c0 : Code := { maxStack := 1, maxLocals := 1, code := jdk_91_method_1_code, exceptionTable := #[], attributes := #[] }
def k14m0 : Method := { name := "<init>", desc := "()V", sig := { parameters := [], returnType := none }, accessFlags := 4, code := some k14c0 }
/-- java/util/AbstractSet -/
def k14 : Class := { plain "java/util/AbstractSet" (some 12) with
  accessFlags := 1057
  interfaces := #[13]
  cf := some (fileOf pool14 16 #[] #[{ accessFlags := 4, nameIndex := 5, descriptorIndex := 6, attributes := #[] }] 1057 2 #[7] #[])
  fields := #[]
  methods := #[k14m0]
  instanceTypes := #[]
  staticTypes := #[]
  resolved := Array.replicate 96 none
  statics := none }

def pool15 : Array CpInfo := pool [(1, .class_ 2), (0, u "java/lang/Cloneable"), (0, .class_ 4), (0, u "java/lang/Object")] 2

/-- java/lang/Cloneable -/
def k15 : Class := { plain "java/lang/Cloneable" (some 0) with
  accessFlags := 1537
  interfaces := #[]
  cf := some (fileOf pool15 1 #[] #[] 1537 3 #[] #[])
  fields := #[]
  methods := #[]
  instanceTypes := #[]
  staticTypes := #[]
  resolved := Array.replicate 7 none
  statics := none }

def pool16 : Array CpInfo := pool [(1, .methodref 2 3), (0, .class_ 4), (0, .nameAndType 5 6), (0, u "java/util/AbstractSet"), (0, u "<init>"), (0, u "()V"), (0, .class_ 8), (0, u "java/util/HashMap"), (0, .methodref 7 3), (0, .fieldref 11 12), (0, .class_ 13), (0, .nameAndType 14 15), (0, u "java/util/HashSet"), (0, u "map"), (0, u "Ljava/util/HashMap;"), (34, .class_ 52), (1, u "java/util/Set"), (13, u "PRESENT"), (0, u "Ljava/lang/Object;"), (158, .class_ 227), (0, u "java/lang/Cloneable"), (0, .class_ 229), (0, u "java/io/Serializable"), (0, u "serialVersionUID"), (0, u "J")] 71

def k16c0 : Code := { maxStack := 3, maxLocals := 1, code := jdk_93_method_1_code, exceptionTable := #[], attributes := #[] }
def k16m0 : Method := { name := "<init>", desc := "()V", sig := { parameters := [], returnType := none }, accessFlags := 1, code := some k16c0 }
/-- java/util/HashSet -/
def k16 : Class := { plain "java/util/HashSet" (some 14) with
  accessFlags := 33
  interfaces := #[13, 15, 2]
  cf := some (fileOf pool16 11 #[] #[{ accessFlags := 1, nameIndex := 5, descriptorIndex := 6, attributes := #[] }] 33 2 #[50, 226, 228] #[{ accessFlags := 24, nameIndex := 230, descriptorIndex := 231, attributes := #[] }, { accessFlags := 128, nameIndex := 14, descriptorIndex := 15, attributes := #[] }, { accessFlags := 24, nameIndex := 66, descriptorIndex := 67, attributes := #[] }])
  fields := #[{ name := "serialVersionUID", type := .long, accessFlags := 24, slot := 0, constantValue := 0 }, { name := "map", type := (.object "java/util/HashMap"), accessFlags := 128, slot := 0, constantValue := 0 }, { name := "PRESENT", type := (.object "java/lang/Object"), accessFlags := 24, slot := 1, constantValue := 0 }]
  methods := #[k16m0]
  instanceTypes := #[(.object "java/util/HashMap")]
  staticTypes := #[.long, (.object "java/lang/Object")]
  resolved := Array.replicate 303 none
  statics := none }

def pool17 : Array CpInfo := pool [(2, .class_ 4), (1, u "java/util/Map"), (31, .class_ 37), (0, u "java/util/Map$Entry"), (55, .class_ 94), (0, u "java/lang/Object")] 168

/-- java/util/Map -/
def k17 : Class := { plain "java/util/Map" (some 0) with
  accessFlags := 1537
  interfaces := #[]
  cf := some (fileOf pool17 2 #[.nestMembers #[36]] #[] 1537 93 #[] #[])
  fields := #[]
  methods := #[]
  instanceTypes := #[]
  staticTypes := #[]
  resolved := Array.replicate 263 none
  statics := none }

def pool18 : Array CpInfo := pool [(1, .methodref 2 3), (0, .class_ 4), (0, .nameAndType 5 6), (0, u "java/lang/Object"), (0, u "<init>"), (0, u "()V"), (1, .class_ 10), (1, u "java/util/AbstractMap"), (42, .class_ 54), (0, u "java/util/Map"), (9, u "keySet"), (0, u "Ljava/util/Set;"), (0, .class_ 67), (0, u "java/util/AbstractMap$1"), (5, u "values"), (0, u "Ljava/util/Collection;"), (0, .class_ 76), (0, u "java/util/AbstractMap$2"), (104, .class_ 182), (0, u "java/util/AbstractMap$ViewCollection"), (0, .class_ 184), (0, u "java/util/AbstractMap$SimpleImmutableEntry"), (0, .class_ 186), (0, u "java/util/AbstractMap$SimpleEntry"), (0, .class_ 188), (0, u "java/util/AbstractMap$2$1"), (0, .class_ 190), (0, u "java/util/AbstractMap$1$1")] 5

def k18c0 : Code := { maxStack := 1, maxLocals := 1, code := jdk_71_method_1_code, exceptionTable := #[], attributes := #[] }
def k18m0 : Method := { name := "<init>", desc := "()V", sig := { parameters := [], returnType := none }, accessFlags := 4, code := some k18c0 }
/-- java/util/AbstractMap -/
def k18 : Class := { plain "java/util/AbstractMap" (some 0) with
  accessFlags := 1057
  interfaces := #[17]
  cf := some (fileOf pool18 8 #[.nestMembers #[181, 183, 185, 75, 187, 66, 189]] #[{ accessFlags := 4, nameIndex := 5, descriptorIndex := 6, attributes := #[] }] 1057 2 #[53] #[{ accessFlags := 128, nameIndex := 64, descriptorIndex := 65, attributes := #[] }, { accessFlags := 128, nameIndex := 73, descriptorIndex := 74, attributes := #[] }])
  fields := #[{ name := "keySet", type := (.object "java/util/Set"), accessFlags := 128, slot := 0, constantValue := 0 }, { name := "values", type := (.object "java/util/Collection"), accessFlags := 128, slot := 1, constantValue := 0 }]
  methods := #[k18m0]
  instanceTypes := #[(.object "java/util/Set"), (.object "java/util/Collection")]
  staticTypes := #[]
  resolved := Array.replicate 196 none
  statics := none }

def pool19 : Array CpInfo := pool [(40, .class_ 41), (0, u "java/util/HashMap"), (1, .methodref 44 45), (0, .class_ 46), (0, .nameAndType 47 48), (0, u "java/util/AbstractMap"), (0, u "<init>"), (0, u "()V"), (32, .fieldref 40 82), (0, .nameAndType 83 84), (0, u "loadFactor"), (0, u "F"), (5, u "threshold"), (0, u "I"), (0, .float 1061158912), (8, .class_ 103), (1, u "java/util/Map"), (0, u "size"), (2, u "table"), (0, u "[Ljava/util/HashMap$Node;"), (14, u "entrySet"), (39, .class_ 165), (1, u "java/util/HashMap$Node"), (14, .class_ 181), (0, u "java/util/HashMap$TreeNode"), (22, u "modCount"), (37, u "Ljava/util/Set;"), (0, .class_ 244), (0, u "java/util/HashMap$KeySet"), (18, .class_ 264), (0, u "java/util/HashMap$Values"), (3, .class_ 269), (0, u "java/util/HashMap$EntrySet"), (76, .class_ 348), (1, u "java/util/HashMap$UnsafeHolder"), (43, .class_ 393), (0, u "java/lang/Cloneable"), (0, .class_ 395), (0, u "java/io/Serializable"), (0, u "serialVersionUID"), (0, u "J"), (3, u "DEFAULT_INITIAL_CAPACITY"), (1, u "MAXIMUM_CAPACITY"), (0, u "DEFAULT_LOAD_FACTOR"), (0, u "TREEIFY_THRESHOLD"), (1, u "UNTREEIFY_THRESHOLD"), (1, u "MIN_TREEIFY_CAPACITY"), (186, .class_ 597), (0, u "java/util/HashMap$EntrySpliterator"), (0, .class_ 599), (0, u "java/util/HashMap$ValueSpliterator"), (0, .class_ 601), (0, u "java/util/HashMap$KeySpliterator"), (0, .class_ 603), (0, u "java/util/HashMap$HashMapSpliterator"), (0, .class_ 605), (0, u "java/util/HashMap$EntryIterator"), (0, .class_ 607), (0, u "java/util/HashMap$ValueIterator"), (0, .class_ 609), (0, u "java/util/HashMap$KeyIterator"), (0, .class_ 611), (0, u "java/util/HashMap$HashIterator")] 17

def k19c0 : Code := { maxStack := 2, maxLocals := 1, code := jdk_69_method_7_code, exceptionTable := #[], attributes := #[] }
def k19m0 : Method := { name := "<init>", desc := "()V", sig := { parameters := [], returnType := none }, accessFlags := 1, code := some k19c0 }
/-- java/util/HashMap -/
def k19 : Class := { plain "java/util/HashMap" (some 18) with
  accessFlags := 33
  interfaces := #[17, 15, 2]
  cf := some (fileOf pool19 40 #[.nestMembers #[180, 596, 598, 600, 602, 604, 606, 608, 610, 346, 268, 263, 243, 163]] #[{ accessFlags := 1, nameIndex := 47, descriptorIndex := 48, attributes := #[] }] 33 44 #[101, 392, 394] #[{ accessFlags := 26, nameIndex := 396, descriptorIndex := 397, attributes := #[] }, { accessFlags := 24, nameIndex := 401, descriptorIndex := 91, attributes := #[] }, { accessFlags := 24, nameIndex := 403, descriptorIndex := 91, attributes := #[] }, { accessFlags := 24, nameIndex := 404, descriptorIndex := 84, attributes := #[] }, { accessFlags := 24, nameIndex := 405, descriptorIndex := 91, attributes := #[] }, { accessFlags := 24, nameIndex := 407, descriptorIndex := 91, attributes := #[] }, { accessFlags := 24, nameIndex := 409, descriptorIndex := 91, attributes := #[] }, { accessFlags := 128, nameIndex := 107, descriptorIndex := 108, attributes := #[] }, { accessFlags := 128, nameIndex := 123, descriptorIndex := 242, attributes := #[] }, { accessFlags := 128, nameIndex := 104, descriptorIndex := 91, attributes := #[] }, { accessFlags := 128, nameIndex := 204, descriptorIndex := 91, attributes := #[] }, { accessFlags := 0, nameIndex := 90, descriptorIndex := 91, attributes := #[] }, { accessFlags := 16, nameIndex := 83, descriptorIndex := 84, attributes := #[] }])
  fields := #[{ name := "serialVersionUID", type := .long, accessFlags := 26, slot := 0, constantValue := 0 }, { name := "DEFAULT_INITIAL_CAPACITY", type := .int, accessFlags := 24, slot := 1, constantValue := 0 }, { name := "MAXIMUM_CAPACITY", type := .int, accessFlags := 24, slot := 2, constantValue := 0 }, { name := "DEFAULT_LOAD_FACTOR", type := .float, accessFlags := 24, slot := 3, constantValue := 0 }, { name := "TREEIFY_THRESHOLD", type := .int, accessFlags := 24, slot := 4, constantValue := 0 }, { name := "UNTREEIFY_THRESHOLD", type := .int, accessFlags := 24, slot := 5, constantValue := 0 }, { name := "MIN_TREEIFY_CAPACITY", type := .int, accessFlags := 24, slot := 6, constantValue := 0 }, { name := "table", type := (.array (.object "java/util/HashMap$Node")), accessFlags := 128, slot := 2, constantValue := 0 }, { name := "entrySet", type := (.object "java/util/Set"), accessFlags := 128, slot := 3, constantValue := 0 }, { name := "size", type := .int, accessFlags := 128, slot := 4, constantValue := 0 }, { name := "modCount", type := .int, accessFlags := 128, slot := 5, constantValue := 0 }, { name := "threshold", type := .int, accessFlags := 0, slot := 6, constantValue := 0 }, { name := "loadFactor", type := .float, accessFlags := 16, slot := 7, constantValue := 0 }]
  methods := #[k19m0]
  instanceTypes := #[(.object "java/util/Set"), (.object "java/util/Collection"), (.array (.object "java/util/HashMap$Node")), (.object "java/util/Set"), .int, .int, .int, .float]
  staticTypes := #[.long, .int, .int, .float, .int, .int, .int]
  resolved := Array.replicate 629 none
  statics := none }

def pool20 : Array CpInfo := pool [(1, .methodref 2 3), (0, .class_ 4), (0, .nameAndType 5 6), (0, u "java/lang/Object"), (0, u "<init>"), (0, u "()V"), (0, .class_ 8), (0, u "java/util/ArrayList"), (0, .methodref 7 10), (0, .nameAndType 5 11), (0, u "(I)V"), (0, .fieldref 13 14), (0, .class_ 15), (0, .nameAndType 16 17), (0, u "com/example/velvet_rope/velvetrope/lock/ElementLocks"), (0, u "holders"), (0, u "Ljava/util/List;"), (0, .class_ 19), (0, u "com/example/velvet_rope/velvetrope/lock/WaitingQueue"), (0, .methodref 18 3), (0, .fieldref 13 22), (0, .nameAndType 23 24), (0, u "queue"), (0, u "Lcom/example/velvet_rope/velvetrope/lock/WaitingQueue;"), (0, .interfaceMethodref 26 27), (0, .class_ 28), (0, .nameAndType 29 30), (0, u "java/util/List"), (0, u "isEmpty"), (0, u "()Z"), (0, .methodref 18 27), (0, .fieldref 13 33), (0, .nameAndType 34 35), (0, u "coming"), (0, u "I"), (13, .class_ 50), (0, u "com/example/velvet_rope/velvetrope/lock/ElementLocks$Holder"), (43, u "holding"), (0, u "[I"), (6, u "MODES"), (0, u "[Lcom/example/velvet_rope/velvetrope/model/LockMode;"), (24, u "NO_TRANSACTIONS"), (0, u "[J"), (30, u "idle")] 43

def k20c0 : Code := { maxStack := 4, maxLocals := 1, code := prog_48_method_1_code, exceptionTable := #[], attributes := #[] }
def k20m0 : Method := { name := "<init>", desc := "()V", sig := { parameters := [], returnType := none }, accessFlags := 0, code := some k20c0 }
def k20c1 : Code := { maxStack := 1, maxLocals := 1, code := prog_48_method_2_code, exceptionTable := #[], attributes := #[] }
def k20m1 : Method := { name := "idle", desc := "()Z", sig := { parameters := [], returnType := some .boolean }, accessFlags := 0, code := some k20c1 }
/-- com/example/velvet_rope/velvetrope/lock/ElementLocks -/
def k20 : Class := { plain "com/example/velvet_rope/velvetrope/lock/ElementLocks" (some 0) with
  accessFlags := 32
  interfaces := #[]
  cf := some (fileOf pool20 13 #[.nestMembers #[49]] #[{ accessFlags := 0, nameIndex := 5, descriptorIndex := 6, attributes := #[] }, { accessFlags := 0, nameIndex := 160, descriptorIndex := 30, attributes := #[] }] 32 2 #[] #[{ accessFlags := 24, nameIndex := 128, descriptorIndex := 129, attributes := #[] }, { accessFlags := 26, nameIndex := 102, descriptorIndex := 103, attributes := #[] }, { accessFlags := 18, nameIndex := 16, descriptorIndex := 17, attributes := #[] }, { accessFlags := 2, nameIndex := 94, descriptorIndex := 95, attributes := #[] }, { accessFlags := 16, nameIndex := 23, descriptorIndex := 24, attributes := #[] }, { accessFlags := 0, nameIndex := 34, descriptorIndex := 35, attributes := #[] }])
  fields := #[{ name := "NO_TRANSACTIONS", type := (.array .long), accessFlags := 24, slot := 0, constantValue := 0 }, { name := "MODES", type := (.array (.object "com/example/velvet_rope/velvetrope/model/LockMode")), accessFlags := 26, slot := 1, constantValue := 0 }, { name := "holders", type := (.object "java/util/List"), accessFlags := 18, slot := 0, constantValue := 0 }, { name := "holding", type := (.array .int), accessFlags := 2, slot := 1, constantValue := 0 }, { name := "queue", type := (.object "com/example/velvet_rope/velvetrope/lock/WaitingQueue"), accessFlags := 16, slot := 2, constantValue := 0 }, { name := "coming", type := .int, accessFlags := 0, slot := 3, constantValue := 0 }]
  methods := #[k20m0, k20m1]
  instanceTypes := #[(.object "java/util/List"), (.array .int), (.object "com/example/velvet_rope/velvetrope/lock/WaitingQueue"), .int]
  staticTypes := #[(.array .long), (.array (.object "com/example/velvet_rope/velvetrope/model/LockMode"))]
  resolved := Array.replicate 204 none
  statics := none }

def pool21 : Array CpInfo := pool [(8, .class_ 10), (1, u "java/util/SequencedCollection"), (15, .class_ 27), (0, u "java/lang/Object"), (0, .class_ 29), (0, u "java/util/Collection")] 27

/-- java/util/SequencedCollection -/
def k21 : Class := { plain "java/util/SequencedCollection" (some 0) with
  accessFlags := 1537
  interfaces := #[11]
  cf := some (fileOf pool21 8 #[] #[] 1537 26 #[28] #[])
  fields := #[]
  methods := #[]
  instanceTypes := #[]
  staticTypes := #[]
  resolved := Array.replicate 57 none
  statics := none }

def pool22 : Array CpInfo := pool [(8, .class_ 10), (1, u "java/util/List"), (7, u "()Z"), (48, u "isEmpty"), (35, .class_ 104), (0, u "java/lang/Object"), (15, .class_ 121), (0, u "java/util/SequencedCollection")] 129

def k22m0 : Method := { name := "isEmpty", desc := "()Z", sig := { parameters := [], returnType := some .boolean }, accessFlags := 1025, code := none }
/-- java/util/List -/
def k22 : Class := { plain "java/util/List" (some 0) with
  accessFlags := 1537
  interfaces := #[21]
  cf := some (fileOf pool22 8 #[] #[{ accessFlags := 1025, nameIndex := 67, descriptorIndex := 18, attributes := #[] }] 1537 103 #[120] #[])
  fields := #[]
  methods := #[k22m0]
  instanceTypes := #[]
  staticTypes := #[]
  resolved := Array.replicate 251 none
  statics := none }

def pool23 : Array CpInfo := pool [(1, .methodref 2 3), (0, .class_ 4), (0, .nameAndType 5 6), (0, u "java/util/AbstractCollection"), (0, u "<init>"), (0, u "()V"), (0, .fieldref 8 9), (0, .class_ 10), (0, .nameAndType 11 12), (0, u "java/util/AbstractList"), (0, u "modCount"), (0, u "I"), (64, .class_ 78), (0, u "java/util/AbstractList$Itr"), (3, .class_ 83), (0, u "java/util/AbstractList$ListItr"), (9, .class_ 94), (0, u "java/util/AbstractList$RandomAccessSubList"), (3, .class_ 99), (0, u "java/util/AbstractList$SubList"), (33, .class_ 134), (0, u "java/util/List"), (73, .class_ 209), (0, u "java/util/AbstractList$SubList$1"), (0, .class_ 211), (0, u "java/util/AbstractList$RandomAccessSpliterator")] 6

def k23c0 : Code := { maxStack := 2, maxLocals := 1, code := jdk_39_method_1_code, exceptionTable := #[], attributes := #[] }
def k23m0 : Method := { name := "<init>", desc := "()V", sig := { parameters := [], returnType := none }, accessFlags := 4, code := some k23c0 }
/-- java/util/AbstractList -/
def k23 : Class := { plain "java/util/AbstractList" (some 12) with
  accessFlags := 1057
  interfaces := #[22]
  cf := some (fileOf pool23 8 #[.nestMembers #[93, 98, 208, 210, 82, 77]] #[{ accessFlags := 4, nameIndex := 5, descriptorIndex := 6, attributes := #[] }] 1057 2 #[133] #[{ accessFlags := 132, nameIndex := 11, descriptorIndex := 12, attributes := #[] }])
  fields := #[{ name := "modCount", type := .int, accessFlags := 132, slot := 0, constantValue := 0 }]
  methods := #[k23m0]
  instanceTypes := #[.int]
  staticTypes := #[]
  resolved := Array.replicate 218 none
  statics := none }

def pool24 : Array CpInfo := pool [(1, .class_ 2), (0, u "java/util/RandomAccess"), (0, .class_ 4), (0, u "java/lang/Object")] 2

/-- java/util/RandomAccess -/
def k24 : Class := { plain "java/util/RandomAccess" (some 0) with
  accessFlags := 1537
  interfaces := #[]
  cf := some (fileOf pool24 1 #[] #[] 1537 3 #[] #[])
  fields := #[]
  methods := #[]
  instanceTypes := #[]
  staticTypes := #[]
  resolved := Array.replicate 7 none
  statics := none }

def pool25 : Array CpInfo := pool [(1, .methodref 2 3), (0, .class_ 4), (0, .nameAndType 5 6), (0, u "java/util/AbstractList"), (0, u "<init>"), (0, u "()V"), (0, .class_ 8), (0, u "java/lang/Object"), (0, .fieldref 10 11), (0, .class_ 12), (0, .nameAndType 13 14), (0, u "java/util/ArrayList"), (0, u "elementData"), (0, u "[Ljava/lang/Object;"), (2, u "EMPTY_ELEMENTDATA"), (23, u "DEFAULTCAPACITY_EMPTY_ELEMENTDATA"), (6, .fieldref 10 49), (0, .nameAndType 50 51), (0, u "size"), (0, u "I"), (86, u "(I)V"), (9, .class_ 149), (0, u "java/util/List"), (23, u "()Z"), (88, .class_ 263), (0, u "java/util/ArrayList$ListItr"), (3, .class_ 268), (0, u "java/util/ArrayList$Itr"), (7, .class_ 277), (0, u "java/util/ArrayList$SubList"), (12, .class_ 291), (0, u "java/util/ArrayList$ArrayListSpliterator"), (37, .class_ 330), (0, u "java/util/RandomAccess"), (0, .class_ 332), (0, u "java/lang/Cloneable"), (0, .class_ 334), (0, u "java/io/Serializable"), (0, u "serialVersionUID"), (0, u "J"), (3, u "DEFAULT_CAPACITY"), (22, u "isEmpty"), (136, .class_ 501), (0, u "java/util/ArrayList$SubList$2"), (0, .class_ 503), (0, u "java/util/ArrayList$SubList$1")] 5

def k25c0 : Code := { maxStack := 4, maxLocals := 2, code := jdk_38_method_1_code, exceptionTable := #[], attributes := #[] }
def k25m0 : Method := { name := "<init>", desc := "(I)V", sig := { parameters := [.int], returnType := none }, accessFlags := 1, code := some k25c0 }
def k25m1 : Method := { name := "<init>", desc := "()V", sig := { parameters := [], returnType := none }, accessFlags := 1, code := none }
def k25c2 : Code := { maxStack := 1, maxLocals := 1, code := jdk_38_method_9_code, exceptionTable := #[], attributes := #[] }
def k25m2 : Method := { name := "isEmpty", desc := "()Z", sig := { parameters := [], returnType := some .boolean }, accessFlags := 1, code := some k25c2 }
/-- java/util/ArrayList -/
def k25 : Class := { plain "java/util/ArrayList" (some 23) with
  accessFlags := 33
  interfaces := #[22, 24, 15, 2]
  cf := some (fileOf pool25 10 #[.nestMembers #[290, 276, 500, 502, 262, 267]] #[{ accessFlags := 1, nameIndex := 5, descriptorIndex := 138, attributes := #[] }, { accessFlags := 1, nameIndex := 5, descriptorIndex := 6, attributes := #[] }, { accessFlags := 1, nameIndex := 363, descriptorIndex := 173, attributes := #[] }] 33 2 #[148, 329, 331, 333] #[{ accessFlags := 26, nameIndex := 335, descriptorIndex := 336, attributes := #[] }, { accessFlags := 26, nameIndex := 340, descriptorIndex := 51, attributes := #[] }, { accessFlags := 26, nameIndex := 17, descriptorIndex := 14, attributes := #[] }, { accessFlags := 26, nameIndex := 41, descriptorIndex := 14, attributes := #[] }, { accessFlags := 128, nameIndex := 13, descriptorIndex := 14, attributes := #[] }, { accessFlags := 2, nameIndex := 50, descriptorIndex := 51, attributes := #[] }])
  fields := #[{ name := "serialVersionUID", type := .long, accessFlags := 26, slot := 0, constantValue := 0 }, { name := "DEFAULT_CAPACITY", type := .int, accessFlags := 26, slot := 1, constantValue := 0 }, { name := "EMPTY_ELEMENTDATA", type := (.array (.object "java/lang/Object")), accessFlags := 26, slot := 2, constantValue := 0 }, { name := "DEFAULTCAPACITY_EMPTY_ELEMENTDATA", type := (.array (.object "java/lang/Object")), accessFlags := 26, slot := 3, constantValue := 0 }, { name := "elementData", type := (.array (.object "java/lang/Object")), accessFlags := 128, slot := 1, constantValue := 0 }, { name := "size", type := .int, accessFlags := 2, slot := 2, constantValue := 0 }]
  methods := #[k25m0, k25m1, k25m2]
  instanceTypes := #[.int, (.array (.object "java/lang/Object")), .int]
  staticTypes := #[.long, .int, (.array (.object "java/lang/Object")), (.array (.object "java/lang/Object"))]
  resolved := Array.replicate 509 none
  statics := none }

def pool26 : Array CpInfo := pool [(1, .methodref 2 3), (0, .class_ 4), (0, .nameAndType 5 6), (0, u "java/util/AbstractList"), (0, u "<init>"), (0, u "()V"), (0, .fieldref 8 9), (0, .class_ 10), (0, .nameAndType 11 12), (0, u "com/example/velvet_rope/velvetrope/lock/QueueList"), (0, u "NONE_YET"), (0, u "[Ljava/lang/Object;"), (0, .fieldref 8 14), (0, .nameAndType 15 12), (0, u "elements"), (2, u "size"), (0, u "()I"), (6, .fieldref 8 27), (0, .nameAndType 28 29), (0, u "start"), (0, u "I"), (4, .fieldref 8 35), (0, .nameAndType 36 29), (0, u "end"), (50, .class_ 88), (0, u "java/util/RandomAccess"), (0, u "FIRST_CAPACITY")] 21

def k26c0 : Code := { maxStack := 2, maxLocals := 1, code := prog_59_method_1_code, exceptionTable := #[], attributes := #[] }
def k26m0 : Method := { name := "<init>", desc := "()V", sig := { parameters := [], returnType := none }, accessFlags := 0, code := some k26c0 }
def k26c1 : Code := { maxStack := 2, maxLocals := 1, code := prog_59_method_3_code, exceptionTable := #[], attributes := #[] }
def k26m1 : Method := { name := "size", desc := "()I", sig := { parameters := [], returnType := some .int }, accessFlags := 1, code := some k26c1 }
/-- com/example/velvet_rope/velvetrope/lock/QueueList -/
def k26 : Class := { plain "com/example/velvet_rope/velvetrope/lock/QueueList" (some 23) with
  accessFlags := 32
  interfaces := #[24]
  cf := some (fileOf pool26 8 #[] #[{ accessFlags := 0, nameIndex := 5, descriptorIndex := 6, attributes := #[] }, { accessFlags := 1, nameIndex := 18, descriptorIndex := 19, attributes := #[] }] 32 2 #[87] #[{ accessFlags := 26, nameIndex := 89, descriptorIndex := 29, attributes := #[] }, { accessFlags := 26, nameIndex := 11, descriptorIndex := 12, attributes := #[] }, { accessFlags := 2, nameIndex := 15, descriptorIndex := 12, attributes := #[] }, { accessFlags := 2, nameIndex := 28, descriptorIndex := 29, attributes := #[] }, { accessFlags := 2, nameIndex := 36, descriptorIndex := 29, attributes := #[] }])
  fields := #[{ name := "FIRST_CAPACITY", type := .int, accessFlags := 26, slot := 0, constantValue := 0 }, { name := "NONE_YET", type := (.array (.object "java/lang/Object")), accessFlags := 26, slot := 1, constantValue := 0 }, { name := "elements", type := (.array (.object "java/lang/Object")), accessFlags := 2, slot := 1, constantValue := 0 }, { name := "start", type := .int, accessFlags := 2, slot := 2, constantValue := 0 }, { name := "end", type := .int, accessFlags := 2, slot := 3, constantValue := 0 }]
  methods := #[k26m0, k26m1]
  instanceTypes := #[.int, (.array (.object "java/lang/Object")), .int, .int]
  staticTypes := #[.int, (.array (.object "java/lang/Object"))]
  resolved := Array.replicate 111 none
  statics := some 1 }

def pool27 : Array CpInfo := pool [(1, .methodref 2 3), (0, .class_ 4), (0, .nameAndType 5 6), (0, u "com/example/velvet_rope/velvetrope/lock/QueueList"), (0, u "<init>"), (0, u "()V"), (1, .class_ 10), (1, u "com/example/velvet_rope/velvetrope/lock/WaitingQueue"), (4, u "examined"), (0, u "Ljava/util/List;"), (2, u "examinedAfter"), (0, u "J"), (84, u "outsiders"), (0, u "I"), (5, u "inGraphByMode"), (0, u "Ljava/util/Map;")] 141

def k27c0 : Code := { maxStack := 1, maxLocals := 1, code := prog_66_method_1_code, exceptionTable := #[], attributes := #[] }
def k27m0 : Method := { name := "<init>", desc := "()V", sig := { parameters := [], returnType := none }, accessFlags := 0, code := some k27c0 }
/-- com/example/velvet_rope/velvetrope/lock/WaitingQueue -/
def k27 : Class := { plain "com/example/velvet_rope/velvetrope/lock/WaitingQueue" (some 26) with
  accessFlags := 32
  interfaces := #[]
  cf := some (fileOf pool27 8 #[] #[{ accessFlags := 0, nameIndex := 5, descriptorIndex := 6, attributes := #[] }] 32 2 #[] #[{ accessFlags := 2, nameIndex := 15, descriptorIndex := 16, attributes := #[] }, { accessFlags := 2, nameIndex := 19, descriptorIndex := 20, attributes := #[] }, { accessFlags := 2, nameIndex := 105, descriptorIndex := 106, attributes := #[] }, { accessFlags := 2, nameIndex := 112, descriptorIndex := 113, attributes := #[] }])
  fields := #[{ name := "examined", type := (.object "java/util/List"), accessFlags := 2, slot := 4, constantValue := 0 }, { name := "examinedAfter", type := .long, accessFlags := 2, slot := 5, constantValue := 0 }, { name := "outsiders", type := .int, accessFlags := 2, slot := 6, constantValue := 0 }, { name := "inGraphByMode", type := (.object "java/util/Map"), accessFlags := 2, slot := 7, constantValue := 0 }]
  methods := #[k27m0]
  instanceTypes := #[.int, (.array (.object "java/lang/Object")), .int, .int, (.object "java/util/List"), .long, .int, (.object "java/util/Map")]
  staticTypes := #[]
  resolved := Array.replicate 255 none
  statics := none }

def pool28 : Array CpInfo := pool [(2, .class_ 4), (1, u "java/lang/Object"), (6, .class_ 13), (1, u "com/example/velvet_rope/velvetrope/lock/TableEntries"), (0, u "transactions"), (0, u "Ljava/util/Map;"), (5, u "requestsMade"), (0, u "Ljava/util/concurrent/atomic/AtomicLong;"), (4, u "stripes"), (0, u "[Lcom/example/velvet_rope/velvetrope/lock/Stripe;"), (12, u "remembered"), (0, u "Ljava/util/function/Predicate;"), (9, .class_ 54), (1, u "com/example/velvet_rope/velvetrope/lock/ElementLocks"), (26, .class_ 82), (0, u "com/example/velvet_rope/velvetrope/lock/TransactionLocks"), (39, .fieldref 81 123), (0, .nameAndType 124 125), (0, u "comingTo"), (0, u "Ljava/lang/String;"), (8, .fieldref 52 135), (0, .nameAndType 136 137), (0, u "coming"), (0, u "I"), (93, u "come"), (0, u "(Lcom/example/velvet_rope/velvetrope/lock/TransactionLocks;Ljava/lang/String;Lcom/example/velvet_rope/velvetrope/lock/ElementLocks;)V")] 56

def k28c0 : Code := { maxStack := 3, maxLocals := 3, code := prog_63_method_11_code, exceptionTable := #[], attributes := #[] }
def k28m0 : Method := { name := "come", desc := "(Lcom/example/velvet_rope/velvetrope/lock/TransactionLocks;Ljava/lang/String;Lcom/example/velvet_rope/velvetrope/lock/ElementLocks;)V", sig := { parameters := [(.object "com/example/velvet_rope/velvetrope/lock/TransactionLocks"), (.object "java/lang/String"), (.object "com/example/velvet_rope/velvetrope/lock/ElementLocks")], returnType := none }, accessFlags := 8, code := some k28c0 }
/-- com/example/velvet_rope/velvetrope/lock/TableEntries -/
def k28 : Class := { plain "com/example/velvet_rope/velvetrope/lock/TableEntries" (some 0) with
  accessFlags := 32
  interfaces := #[]
  cf := some (fileOf pool28 11 #[] #[{ accessFlags := 8, nameIndex := 231, descriptorIndex := 232, attributes := #[] }] 32 2 #[] #[{ accessFlags := 18, nameIndex := 27, descriptorIndex := 28, attributes := #[] }, { accessFlags := 18, nameIndex := 14, descriptorIndex := 15, attributes := #[] }, { accessFlags := 18, nameIndex := 21, descriptorIndex := 22, attributes := #[] }, { accessFlags := 18, nameIndex := 41, descriptorIndex := 42, attributes := #[] }])
  fields := #[{ name := "stripes", type := (.array (.object "com/example/velvet_rope/velvetrope/lock/Stripe")), accessFlags := 18, slot := 0, constantValue := 0 }, { name := "transactions", type := (.object "java/util/Map"), accessFlags := 18, slot := 1, constantValue := 0 }, { name := "requestsMade", type := (.object "java/util/concurrent/atomic/AtomicLong"), accessFlags := 18, slot := 2, constantValue := 0 }, { name := "remembered", type := (.object "java/util/function/Predicate"), accessFlags := 18, slot := 3, constantValue := 0 }]
  methods := #[k28m0]
  instanceTypes := #[(.array (.object "com/example/velvet_rope/velvetrope/lock/Stripe")), (.object "java/util/Map"), (.object "java/util/concurrent/atomic/AtomicLong"), (.object "java/util/function/Predicate")]
  staticTypes := #[]
  resolved := Array.replicate 289 none
  statics := none }

def pool29 : Array CpInfo := pool [(4, .class_ 6), (1, u "java/lang/Object"), (0, u "<init>"), (0, u "()V"), (5, .class_ 16), (1, u "java/lang/StringLatin1"), (104, u "$assertionsDisabled"), (0, u "Z"), (98, .class_ 223), (1, u "java/lang/StringLatin1$LinesSpliterator"), (166, .class_ 391), (0, u "java/lang/StringLatin1$CharsSpliterator")] 3

def k29m0 : Method := { name := "<init>", desc := "()V", sig := { parameters := [], returnType := none }, accessFlags := 0, code := none }
/-- java/lang/StringLatin1 -/
def k29 : Class := { plain "java/lang/StringLatin1" (some 0) with
  accessFlags := 48
  interfaces := #[]
  cf := some (fileOf pool29 14 #[.nestMembers #[390, 221]] #[{ accessFlags := 0, nameIndex := 7, descriptorIndex := 8, attributes := #[] }] 48 4 #[] #[{ accessFlags := 4120, nameIndex := 121, descriptorIndex := 122, attributes := #[] }])
  fields := #[{ name := "$assertionsDisabled", type := .boolean, accessFlags := 4120, slot := 0, constantValue := 0 }]
  methods := #[k29m0]
  instanceTypes := #[]
  staticTypes := #[.boolean]
  resolved := Array.replicate 395 none
  statics := none }

def pool30 : Array CpInfo := pool [(2, .class_ 4), (1, u "java/lang/Object"), (0, u "<init>"), (0, u "()V"), (17, .class_ 26), (1, u "jdk/internal/util/Preconditions"), (28, .class_ 56), (0, u "jdk/internal/util/Preconditions$4"), (57, .class_ 115), (0, u "jdk/internal/util/Preconditions$1"), (7, u "SIOOBE_FORMATTER"), (0, u "Ljava/util/function/BiFunction;"), (0, .class_ 126), (0, u "jdk/internal/util/Preconditions$2"), (3, u "AIOOBE_FORMATTER"), (0, .class_ 132), (0, u "jdk/internal/util/Preconditions$3"), (3, u "IOOBE_FORMATTER")] 57

def k30m0 : Method := { name := "<init>", desc := "()V", sig := { parameters := [], returnType := none }, accessFlags := 1, code := none }
/-- jdk/internal/util/Preconditions -/
def k30 : Class := { plain "jdk/internal/util/Preconditions" (some 0) with
  accessFlags := 33
  interfaces := #[]
  cf := some (fileOf pool30 24 #[.nestMembers #[55, 131, 125, 114]] #[{ accessFlags := 1, nameIndex := 5, descriptorIndex := 6, attributes := #[] }] 33 2 #[] #[{ accessFlags := 25, nameIndex := 123, descriptorIndex := 124, attributes := #[] }, { accessFlags := 25, nameIndex := 130, descriptorIndex := 124, attributes := #[] }, { accessFlags := 25, nameIndex := 136, descriptorIndex := 124, attributes := #[] }])
  fields := #[{ name := "SIOOBE_FORMATTER", type := (.object "java/util/function/BiFunction"), accessFlags := 25, slot := 0, constantValue := 0 }, { name := "AIOOBE_FORMATTER", type := (.object "java/util/function/BiFunction"), accessFlags := 25, slot := 1, constantValue := 0 }, { name := "IOOBE_FORMATTER", type := (.object "java/util/function/BiFunction"), accessFlags := 25, slot := 2, constantValue := 0 }]
  methods := #[k30m0]
  instanceTypes := #[]
  staticTypes := #[(.object "java/util/function/BiFunction"), (.object "java/util/function/BiFunction"), (.object "java/util/function/BiFunction")]
  resolved := Array.replicate 194 none
  statics := some 2 }

def pool31 : Array CpInfo := pool [(9, u "<init>"), (6, .class_ 18), (1, u "java/lang/Object"), (0, u "()V"), (1, .class_ 23), (1, u "jdk/internal/util/ArraysSupport"), (0, u "LOG2_ARRAY_LONG_INDEX_SCALE"), (0, u "I"), (2, u "U"), (0, u "Ljdk/internal/misc/Unsafe;"), (8, u "BIG_ENDIAN"), (0, u "Z"), (8, u "LOG2_BYTE_BIT_SIZE"), (4, u "LOG2_ARRAY_INT_INDEX_SCALE"), (54, u "JLA"), (0, u "Ljdk/internal/access/JavaLangAccess;"), (11, u "LOG2_ARRAY_BOOLEAN_INDEX_SCALE"), (9, u "LOG2_ARRAY_BYTE_INDEX_SCALE"), (5, u "LOG2_ARRAY_CHAR_INDEX_SCALE"), (5, u "LOG2_ARRAY_SHORT_INDEX_SCALE"), (18, u "LOG2_ARRAY_FLOAT_INDEX_SCALE"), (24, u "LOG2_ARRAY_DOUBLE_INDEX_SCALE"), (89, u "T_BOOLEAN"), (2, u "T_CHAR"), (1, u "T_FLOAT"), (1, u "T_DOUBLE"), (1, u "T_BYTE"), (1, u "T_SHORT"), (1, u "T_INT"), (1, u "T_LONG"), (1, u "SOFT_MAX_ARRAY_LENGTH")] 83

def k31m0 : Method := { name := "<init>", desc := "()V", sig := { parameters := [], returnType := none }, accessFlags := 2, code := none }
/-- jdk/internal/util/ArraysSupport -/
def k31 : Class := { plain "jdk/internal/util/ArraysSupport" (some 0) with
  accessFlags := 33
  interfaces := #[]
  cf := some (fileOf pool31 21 #[] #[{ accessFlags := 2, nameIndex := 9, descriptorIndex := 19, attributes := #[] }] 33 16 #[] #[{ accessFlags := 24, nameIndex := 28, descriptorIndex := 29, attributes := #[] }, { accessFlags := 26, nameIndex := 38, descriptorIndex := 39, attributes := #[] }, { accessFlags := 25, nameIndex := 121, descriptorIndex := 25, attributes := #[] }, { accessFlags := 25, nameIndex := 131, descriptorIndex := 25, attributes := #[] }, { accessFlags := 25, nameIndex := 137, descriptorIndex := 25, attributes := #[] }, { accessFlags := 25, nameIndex := 143, descriptorIndex := 25, attributes := #[] }, { accessFlags := 25, nameIndex := 53, descriptorIndex := 25, attributes := #[] }, { accessFlags := 25, nameIndex := 24, descriptorIndex := 25, attributes := #[] }, { accessFlags := 25, nameIndex := 162, descriptorIndex := 25, attributes := #[] }, { accessFlags := 25, nameIndex := 187, descriptorIndex := 25, attributes := #[] }, { accessFlags := 26, nameIndex := 48, descriptorIndex := 25, attributes := #[] }, { accessFlags := 25, nameIndex := 277, descriptorIndex := 25, attributes := #[] }, { accessFlags := 25, nameIndex := 280, descriptorIndex := 25, attributes := #[] }, { accessFlags := 25, nameIndex := 282, descriptorIndex := 25, attributes := #[] }, { accessFlags := 25, nameIndex := 284, descriptorIndex := 25, attributes := #[] }, { accessFlags := 25, nameIndex := 286, descriptorIndex := 25, attributes := #[] }, { accessFlags := 25, nameIndex := 288, descriptorIndex := 25, attributes := #[] }, { accessFlags := 25, nameIndex := 290, descriptorIndex := 25, attributes := #[] }, { accessFlags := 25, nameIndex := 292, descriptorIndex := 25, attributes := #[] }, { accessFlags := 26, nameIndex := 108, descriptorIndex := 109, attributes := #[] }, { accessFlags := 25, nameIndex := 294, descriptorIndex := 25, attributes := #[] }])
  fields := #[{ name := "U", type := (.object "jdk/internal/misc/Unsafe"), accessFlags := 24, slot := 0, constantValue := 0 }, { name := "BIG_ENDIAN", type := .boolean, accessFlags := 26, slot := 1, constantValue := 0 }, { name := "LOG2_ARRAY_BOOLEAN_INDEX_SCALE", type := .int, accessFlags := 25, slot := 2, constantValue := 0 }, { name := "LOG2_ARRAY_BYTE_INDEX_SCALE", type := .int, accessFlags := 25, slot := 3, constantValue := 0 }, { name := "LOG2_ARRAY_CHAR_INDEX_SCALE", type := .int, accessFlags := 25, slot := 4, constantValue := 0 }, { name := "LOG2_ARRAY_SHORT_INDEX_SCALE", type := .int, accessFlags := 25, slot := 5, constantValue := 0 }, { name := "LOG2_ARRAY_INT_INDEX_SCALE", type := .int, accessFlags := 25, slot := 6, constantValue := 0 }, { name := "LOG2_ARRAY_LONG_INDEX_SCALE", type := .int, accessFlags := 25, slot := 7, constantValue := 0 }, { name := "LOG2_ARRAY_FLOAT_INDEX_SCALE", type := .int, accessFlags := 25, slot := 8, constantValue := 0 }, { name := "LOG2_ARRAY_DOUBLE_INDEX_SCALE", type := .int, accessFlags := 25, slot := 9, constantValue := 0 }, { name := "LOG2_BYTE_BIT_SIZE", type := .int, accessFlags := 26, slot := 10, constantValue := 0 }, { name := "T_BOOLEAN", type := .int, accessFlags := 25, slot := 11, constantValue := 0 }, { name := "T_CHAR", type := .int, accessFlags := 25, slot := 12, constantValue := 0 }, { name := "T_FLOAT", type := .int, accessFlags := 25, slot := 13, constantValue := 0 }, { name := "T_DOUBLE", type := .int, accessFlags := 25, slot := 14, constantValue := 0 }, { name := "T_BYTE", type := .int, accessFlags := 25, slot := 15, constantValue := 0 }, { name := "T_SHORT", type := .int, accessFlags := 25, slot := 16, constantValue := 0 }, { name := "T_INT", type := .int, accessFlags := 25, slot := 17, constantValue := 0 }, { name := "T_LONG", type := .int, accessFlags := 25, slot := 18, constantValue := 0 }, { name := "JLA", type := (.object "jdk/internal/access/JavaLangAccess"), accessFlags := 26, slot := 19, constantValue := 0 }, { name := "SOFT_MAX_ARRAY_LENGTH", type := .int, accessFlags := 25, slot := 20, constantValue := 0 }]
  methods := #[k31m0]
  instanceTypes := #[]
  staticTypes := #[(.object "jdk/internal/misc/Unsafe"), .boolean, .int, .int, .int, .int, .int, .int, .int, .int, .int, .int, .int, .int, .int, .int, .int, .int, .int, (.object "jdk/internal/access/JavaLangAccess"), .int]
  resolved := Array.replicate 378 none
  statics := none }

/-- the primitive byte -/
def k32 : Class := { plain "byte" none with kind := .primitive 'B', accessFlags := 0x411 }
/-- [B -/
def k33 : Class := { plain "[B" (some 0) with kind := .array 32 .byte, interfaces := #[15, 2], accessFlags := 1041 }

/-- the primitive char -/
def k34 : Class := { plain "char" none with kind := .primitive 'C', accessFlags := 0x411 }
/-- [C -/
def k35 : Class := { plain "[C" (some 0) with kind := .array 34 .char, interfaces := #[15, 2], accessFlags := 1041 }

/-- the primitive int -/
def k36 : Class := { plain "int" none with kind := .primitive 'I', accessFlags := 0x411 }
/-- [I -/
def k37 : Class := { plain "[I" (some 0) with kind := .array 36 .int, interfaces := #[15, 2], accessFlags := 1041 }

/-- [Ljava/lang/Object; -/
def k38 : Class := { plain "[Ljava/lang/Object;" (some 0) with kind := .array 0 (.object "java/lang/Object"), interfaces := #[15, 2], accessFlags := 1041 }

def heap : Heap := #[{ cls := 7, slots := #[.long 0, .int 1, .null, .int 0, .null, .int 0, .int 0], vm := .statics 7 },
  { cls := 26, slots := #[.int 0, .ref 3], vm := .statics 26 },
  { cls := 30, slots := #[.null, .null, .null], vm := .statics 30 },
  { cls := 38, slots := #[], vm := .none }]
def classes : Array Class := #[k0, k1, k2, k3, k4, k5, k6, k7, k8, k9, k10, k11, k12, k13, k14, k15, k16, k17, k18, k19, k20, k21, k22, k23, k24, k25, k26, k27, k28, k29, k30, k31, k32, k33, k34, k35, k36, k37, k38]
def interned : List (Array UInt16 × Addr) := []
def slotsUsed : Nat := 12
def theMethod : MethodId := ⟨1, 1⟩
def args0 : Array Value := #[.int 5, .long 5, .int 5, .int 5, .int 5]
def aboutOver (below : List Frame) : State where
  vm := { classes := classes, interned := interned.toArray }
  heap := heap
  slotsUsed := slotsUsed
  threads := #[{ frames := .invoking theMethod args0 :: below }]
def below0 : List Frame := [.native { method := ⟨0, 0⟩, args := #[] }]
def about1 : State := aboutOver below0
def p0 : Program := .bare "" "" ""
def e0 : Env := launch0.env 0 0 0
theorem w_frames : about1.frames = Frame.invoking theMethod args0 :: below0 := rfl
set_option maxRecDepth 65536 in
theorem w_args : argsFit about1.vm theMethod args0 = true := by decide +kernel
set_option maxRecDepth 65536 in
theorem w_heap : heapFits about1 = true := by decide +kernel
set_option maxRecDepth 65536 in
theorem w_runnable : about1.curStatus? = some .runnable := by decide +kernel
set_option maxRecDepth 65536 in
theorem w_alone : about1.alone = true := by decide +kernel
set_option maxRecDepth 65536 in
theorem w_named : about1.methodNamed? x = some theMethod := by decide +kernel
set_option maxRecDepth 65536 in
theorem w_hears : about1.hears theMethod below0 = true := by decide +kernel
set_option maxRecDepth 65536 in
theorem w_ripe : about1.ripe theMethod args0 below0 = true := by decide +kernel
theorem w_running : about1.status = .running := rfl
set_option maxRecDepth 65536 in
theorem w_room : about1.hasRoom e0.platform room_1 = true :=
  launch0.hasRoom_least _ room_1 (by decide +kernel) (by decide +kernel) (by decide +kernel) (by decide +kernel) (by decide +kernel) (by decide +kernel)
theorem allAtoms_all (ts : List Jvm.Cond) (a : Array Jvm.Value) (st : Jvm.State) : (allAtoms ts).before a st = ts.all (fun c => c.before a st) := by
  induction ts with
  | nil => rfl
  | cons c t ih =>
    show (Jvm.Cond.and c (allAtoms t)).before a st = _
    rw [Jvm.Cond.before_and, ih, List.all_cons]
def words1 : List Jvm.Cond := Jvm.Cond.code x code maxLocals ret :: tables_1
/-- a 'code' word, met by the world's own term for the bytes: nothing is compared byte by byte -/
theorem code_word {y : MethodName} {bytes : ByteArray} {mx : Nat} {rt : Option FieldType} {a : Array Value} {s : State} {m : MethodId} {meth : Method} {c : Code} (h1 : s.methodNamed? y = some m) (h2 : s.vm.method? m = some meth) (h3 : meth.code = some c) (h4 : c.code = bytes)
    (h5 : (c.maxLocals == mx && c.exceptionTable.isEmpty && decide (c.maxStack ≤ mostOperands) && decide (meth.sig.returnType = rt) && !meth.locks && decide (parseMethodDescriptor y.desc = some meth.sig)) = true) : (Jvm.Cond.code y bytes mx rt).before a s = true := by
  simp only [Bool.and_eq_true, beq_iff_eq, Bool.not_eq_true', decide_eq_true_eq] at h5
  obtain ⟨⟨⟨⟨⟨g1, g2⟩, g3⟩, g4⟩, g5⟩, g6⟩ := h5
  simp [Cond.before, Cond.holds, Cond.value, h1, h2, h3, h4, g1, g2, g3, g4, g5, g6]
def isCode : Jvm.Cond → Bool
  | .code _ _ _ _ => true
  | _ => false
theorem all_split {L : List Jvm.Cond} {P : Jvm.Cond → Bool} (h1 : L.all (fun c => isCode c || P c) = true) (h2 : ∀ c ∈ L.filter isCode, P c = true) : L.all P = true := by
  refine List.all_eq_true.mpr fun c hc => ?_
  have h := List.all_eq_true.mp h1 c hc
  rcases Bool.eq_false_or_eq_true (isCode c) with hi | hi
  · exact h2 c (List.mem_filter.mpr ⟨hc, hi⟩)
  · simpa [hi] using h
set_option maxRecDepth 65536 in
theorem w_c0 : (Jvm.Cond.code x code maxLocals ret).before args0 about1 = true := code_word (m := ⟨1, 1⟩) (meth := k1m1) (c := k1c1) (by decide +kernel) rfl rfl rfl (by decide +kernel)
set_option maxRecDepth 65536 in
theorem w_c1 : (Jvm.Cond.code ({ cls := "java/lang/String", name := "<init>", desc := "([C)V" } : Jvm.MethodName) jdk_42_method_3_code (2 : Nat) (Option.none : Option Jvm.ClassFile.FieldType)).before args0 about1 = true := code_word (m := ⟨7, 1⟩) (meth := k7m1) (c := k7c1) (by decide +kernel) rfl rfl rfl (by decide +kernel)
set_option maxRecDepth 65536 in
theorem w_c2 : (Jvm.Cond.code ({ cls := "java/lang/String", name := "<init>", desc := "([CIILjava/lang/Void;)V" } : Jvm.MethodName) jdk_42_method_149_code (6 : Nat) (Option.none : Option Jvm.ClassFile.FieldType)).before args0 about1 = true := code_word (m := ⟨7, 3⟩) (meth := k7m3) (c := k7c3) (by decide +kernel) rfl rfl rfl (by decide +kernel)
set_option maxRecDepth 65536 in
theorem w_c3 : (Jvm.Cond.code ({ cls := "java/lang/Object", name := "<init>", desc := "()V" } : Jvm.MethodName) object_method_1_code (1 : Nat) (Option.none : Option Jvm.ClassFile.FieldType)).before args0 about1 = true := code_word (m := ⟨0, 0⟩) (meth := k0m0) (c := k0c0) (by decide +kernel) rfl rfl rfl (by decide +kernel)
set_option maxRecDepth 65536 in
theorem w_c4 : (Jvm.Cond.code ({ cls := "java/lang/StringUTF16", name := "compress", desc := "([CII)[B" } : Jvm.MethodName) jdk_52_method_16_code (6 : Nat) (Option.some (Jvm.ClassFile.FieldType.array Jvm.ClassFile.FieldType.byte))).before args0 about1 = true := code_word (m := ⟨8, 2⟩) (meth := k8m2) (c := k8c2) (by decide +kernel) rfl rfl rfl (by decide +kernel)
set_option maxRecDepth 65536 in
theorem w_c5 : (Jvm.Cond.code ({ cls := "java/lang/StringUTF16", name := "compress", desc := "([CI[BII)I" } : Jvm.MethodName) jdk_52_method_21_code (7 : Nat) (Option.some Jvm.ClassFile.FieldType.int)).before args0 about1 = true := code_word (m := ⟨8, 3⟩) (meth := k8m3) (c := k8c3) (by decide +kernel) rfl rfl rfl (by decide +kernel)
set_option maxRecDepth 65536 in
theorem w_c6 : (Jvm.Cond.code ({ cls := "java/lang/StringUTF16", name := "coderFromArrayLen", desc := "([BI)B" } : Jvm.MethodName) jdk_52_method_15_code (2 : Nat) (Option.some Jvm.ClassFile.FieldType.byte)).before args0 about1 = true := code_word (m := ⟨8, 1⟩) (meth := k8m1) (c := k8c1) (by decide +kernel) rfl rfl rfl (by decide +kernel)
set_option maxRecDepth 65536 in
theorem w_c7 : (Jvm.Cond.code ({ cls := "com/example/velvet_rope/velvetrope/lock/TransactionLocks", name := "<init>", desc := "(J)V" } : Jvm.MethodName) prog_65_method_1_code (3 : Nat) (Option.none : Option Jvm.ClassFile.FieldType)).before args0 about1 = true := code_word (m := ⟨9, 0⟩) (meth := k9m0) (c := k9c0) (by decide +kernel) rfl rfl rfl (by decide +kernel)
set_option maxRecDepth 65536 in
theorem w_c8 : (Jvm.Cond.code ({ cls := "java/util/HashSet", name := "<init>", desc := "()V" } : Jvm.MethodName) jdk_93_method_1_code (1 : Nat) (Option.none : Option Jvm.ClassFile.FieldType)).before args0 about1 = true := code_word (m := ⟨16, 0⟩) (meth := k16m0) (c := k16c0) (by decide +kernel) rfl rfl rfl (by decide +kernel)
set_option maxRecDepth 65536 in
theorem w_c9 : (Jvm.Cond.code ({ cls := "java/util/AbstractSet", name := "<init>", desc := "()V" } : Jvm.MethodName) jdk_91_method_1_code (1 : Nat) (Option.none : Option Jvm.ClassFile.FieldType)).before args0 about1 = true := code_word (m := ⟨14, 0⟩) (meth := k14m0) (c := k14c0) (by decide +kernel) rfl rfl rfl (by decide +kernel)
set_option maxRecDepth 65536 in
theorem w_c10 : (Jvm.Cond.code ({ cls := "java/util/AbstractCollection", name := "<init>", desc := "()V" } : Jvm.MethodName) jdk_22_method_1_code (1 : Nat) (Option.none : Option Jvm.ClassFile.FieldType)).before args0 about1 = true := code_word (m := ⟨12, 0⟩) (meth := k12m0) (c := k12c0) (by decide +kernel) rfl rfl rfl (by decide +kernel)
set_option maxRecDepth 65536 in
theorem w_c11 : (Jvm.Cond.code ({ cls := "java/util/HashMap", name := "<init>", desc := "()V" } : Jvm.MethodName) jdk_69_method_7_code (1 : Nat) (Option.none : Option Jvm.ClassFile.FieldType)).before args0 about1 = true := code_word (m := ⟨19, 0⟩) (meth := k19m0) (c := k19c0) (by decide +kernel) rfl rfl rfl (by decide +kernel)
set_option maxRecDepth 65536 in
theorem w_c12 : (Jvm.Cond.code ({ cls := "java/util/AbstractMap", name := "<init>", desc := "()V" } : Jvm.MethodName) jdk_71_method_1_code (1 : Nat) (Option.none : Option Jvm.ClassFile.FieldType)).before args0 about1 = true := code_word (m := ⟨18, 0⟩) (meth := k18m0) (c := k18c0) (by decide +kernel) rfl rfl rfl (by decide +kernel)
set_option maxRecDepth 65536 in
theorem w_c13 : (Jvm.Cond.code ({ cls := "com/example/velvet_rope/velvetrope/lock/ElementLocks", name := "<init>", desc := "()V" } : Jvm.MethodName) prog_48_method_1_code (1 : Nat) (Option.none : Option Jvm.ClassFile.FieldType)).before args0 about1 = true := code_word (m := ⟨20, 0⟩) (meth := k20m0) (c := k20c0) (by decide +kernel) rfl rfl rfl (by decide +kernel)
set_option maxRecDepth 65536 in
theorem w_c14 : (Jvm.Cond.code ({ cls := "java/util/ArrayList", name := "<init>", desc := "(I)V" } : Jvm.MethodName) jdk_38_method_1_code (2 : Nat) (Option.none : Option Jvm.ClassFile.FieldType)).before args0 about1 = true := code_word (m := ⟨25, 0⟩) (meth := k25m0) (c := k25c0) (by decide +kernel) rfl rfl rfl (by decide +kernel)
set_option maxRecDepth 65536 in
theorem w_c15 : (Jvm.Cond.code ({ cls := "java/util/AbstractList", name := "<init>", desc := "()V" } : Jvm.MethodName) jdk_39_method_1_code (1 : Nat) (Option.none : Option Jvm.ClassFile.FieldType)).before args0 about1 = true := code_word (m := ⟨23, 0⟩) (meth := k23m0) (c := k23c0) (by decide +kernel) rfl rfl rfl (by decide +kernel)
set_option maxRecDepth 65536 in
theorem w_c16 : (Jvm.Cond.code ({ cls := "com/example/velvet_rope/velvetrope/lock/WaitingQueue", name := "<init>", desc := "()V" } : Jvm.MethodName) prog_66_method_1_code (1 : Nat) (Option.none : Option Jvm.ClassFile.FieldType)).before args0 about1 = true := code_word (m := ⟨27, 0⟩) (meth := k27m0) (c := k27c0) (by decide +kernel) rfl rfl rfl (by decide +kernel)
set_option maxRecDepth 65536 in
theorem w_c17 : (Jvm.Cond.code ({ cls := "com/example/velvet_rope/velvetrope/lock/QueueList", name := "<init>", desc := "()V" } : Jvm.MethodName) prog_59_method_1_code (1 : Nat) (Option.none : Option Jvm.ClassFile.FieldType)).before args0 about1 = true := code_word (m := ⟨26, 0⟩) (meth := k26m0) (c := k26c0) (by decide +kernel) rfl rfl rfl (by decide +kernel)
set_option maxRecDepth 65536 in
theorem w_c18 : (Jvm.Cond.code ({ cls := "com/example/velvet_rope/velvetrope/lock/TableEntries", name := "come", desc := "(Lcom/example/velvet_rope/velvetrope/lock/TransactionLocks;Ljava/lang/String;Lcom/example/velvet_rope/velvetrope/lock/ElementLocks;)V" } : Jvm.MethodName) prog_63_method_11_code (3 : Nat) (Option.none : Option Jvm.ClassFile.FieldType)).before args0 about1 = true := code_word (m := ⟨28, 0⟩) (meth := k28m0) (c := k28c0) (by decide +kernel) rfl rfl rfl (by decide +kernel)
set_option maxRecDepth 65536 in
theorem w_c19 : (Jvm.Cond.code ({ cls := "java/lang/String", name := "equals", desc := "(Ljava/lang/Object;)Z" } : Jvm.MethodName) jdk_42_method_66_code (3 : Nat) (Option.some Jvm.ClassFile.FieldType.boolean)).before args0 about1 = true := code_word (m := ⟨7, 2⟩) (meth := k7m2) (c := k7c2) (by decide +kernel) rfl rfl rfl (by decide +kernel)
set_option maxRecDepth 65536 in
theorem w_c20 : (Jvm.Cond.code ({ cls := "com/example/velvet_rope/velvetrope/lock/ElementLocks", name := "idle", desc := "()Z" } : Jvm.MethodName) prog_48_method_2_code (1 : Nat) (Option.some Jvm.ClassFile.FieldType.boolean)).before args0 about1 = true := code_word (m := ⟨20, 1⟩) (meth := k20m1) (c := k20c1) (by decide +kernel) rfl rfl rfl (by decide +kernel)
set_option maxRecDepth 65536 in
theorem w_c21 : (Jvm.Cond.code ({ cls := "java/util/ArrayList", name := "isEmpty", desc := "()Z" } : Jvm.MethodName) jdk_38_method_9_code (1 : Nat) (Option.some Jvm.ClassFile.FieldType.boolean)).before args0 about1 = true := code_word (m := ⟨25, 2⟩) (meth := k25m2) (c := k25c2) (by decide +kernel) rfl rfl rfl (by decide +kernel)
set_option maxRecDepth 65536 in
theorem w_c22 : (Jvm.Cond.code ({ cls := "java/util/AbstractCollection", name := "isEmpty", desc := "()Z" } : Jvm.MethodName) jdk_22_method_4_code (1 : Nat) (Option.some Jvm.ClassFile.FieldType.boolean)).before args0 about1 = true := code_word (m := ⟨12, 2⟩) (meth := k12m2) (c := k12c2) (by decide +kernel) rfl rfl rfl (by decide +kernel)
set_option maxRecDepth 65536 in
theorem w_c23 : (Jvm.Cond.code ({ cls := "com/example/velvet_rope/velvetrope/lock/QueueList", name := "size", desc := "()I" } : Jvm.MethodName) prog_59_method_3_code (1 : Nat) (Option.some Jvm.ClassFile.FieldType.int)).before args0 about1 = true := code_word (m := ⟨26, 1⟩) (meth := k26m1) (c := k26c1) (by decide +kernel) rfl rfl rfl (by decide +kernel)
def codes1 : List Jvm.Cond := [Jvm.Cond.code x code maxLocals ret, Jvm.Cond.code ({ cls := "java/lang/String", name := "<init>", desc := "([C)V" } : Jvm.MethodName) jdk_42_method_3_code (2 : Nat) (Option.none : Option Jvm.ClassFile.FieldType), Jvm.Cond.code ({ cls := "java/lang/String", name := "<init>", desc := "([CIILjava/lang/Void;)V" } : Jvm.MethodName) jdk_42_method_149_code (6 : Nat) (Option.none : Option Jvm.ClassFile.FieldType), Jvm.Cond.code ({ cls := "java/lang/Object", name := "<init>", desc := "()V" } : Jvm.MethodName) object_method_1_code (1 : Nat) (Option.none : Option Jvm.ClassFile.FieldType), Jvm.Cond.code ({ cls := "java/lang/StringUTF16", name := "compress", desc := "([CII)[B" } : Jvm.MethodName) jdk_52_method_16_code (6 : Nat) (Option.some (Jvm.ClassFile.FieldType.array Jvm.ClassFile.FieldType.byte)), Jvm.Cond.code ({ cls := "java/lang/StringUTF16", name := "compress", desc := "([CI[BII)I" } : Jvm.MethodName) jdk_52_method_21_code (7 : Nat) (Option.some Jvm.ClassFile.FieldType.int), Jvm.Cond.code ({ cls := "java/lang/StringUTF16", name := "coderFromArrayLen", desc := "([BI)B" } : Jvm.MethodName) jdk_52_method_15_code (2 : Nat) (Option.some Jvm.ClassFile.FieldType.byte), Jvm.Cond.code ({ cls := "com/example/velvet_rope/velvetrope/lock/TransactionLocks", name := "<init>", desc := "(J)V" } : Jvm.MethodName) prog_65_method_1_code (3 : Nat) (Option.none : Option Jvm.ClassFile.FieldType), Jvm.Cond.code ({ cls := "java/util/HashSet", name := "<init>", desc := "()V" } : Jvm.MethodName) jdk_93_method_1_code (1 : Nat) (Option.none : Option Jvm.ClassFile.FieldType), Jvm.Cond.code ({ cls := "java/util/AbstractSet", name := "<init>", desc := "()V" } : Jvm.MethodName) jdk_91_method_1_code (1 : Nat) (Option.none : Option Jvm.ClassFile.FieldType), Jvm.Cond.code ({ cls := "java/util/AbstractCollection", name := "<init>", desc := "()V" } : Jvm.MethodName) jdk_22_method_1_code (1 : Nat) (Option.none : Option Jvm.ClassFile.FieldType), Jvm.Cond.code ({ cls := "java/util/HashMap", name := "<init>", desc := "()V" } : Jvm.MethodName) jdk_69_method_7_code (1 : Nat) (Option.none : Option Jvm.ClassFile.FieldType), Jvm.Cond.code ({ cls := "java/util/AbstractMap", name := "<init>", desc := "()V" } : Jvm.MethodName) jdk_71_method_1_code (1 : Nat) (Option.none : Option Jvm.ClassFile.FieldType), Jvm.Cond.code ({ cls := "com/example/velvet_rope/velvetrope/lock/ElementLocks", name := "<init>", desc := "()V" } : Jvm.MethodName) prog_48_method_1_code (1 : Nat) (Option.none : Option Jvm.ClassFile.FieldType), Jvm.Cond.code ({ cls := "java/util/ArrayList", name := "<init>", desc := "(I)V" } : Jvm.MethodName) jdk_38_method_1_code (2 : Nat) (Option.none : Option Jvm.ClassFile.FieldType), Jvm.Cond.code ({ cls := "java/util/AbstractList", name := "<init>", desc := "()V" } : Jvm.MethodName) jdk_39_method_1_code (1 : Nat) (Option.none : Option Jvm.ClassFile.FieldType), Jvm.Cond.code ({ cls := "com/example/velvet_rope/velvetrope/lock/WaitingQueue", name := "<init>", desc := "()V" } : Jvm.MethodName) prog_66_method_1_code (1 : Nat) (Option.none : Option Jvm.ClassFile.FieldType), Jvm.Cond.code ({ cls := "com/example/velvet_rope/velvetrope/lock/QueueList", name := "<init>", desc := "()V" } : Jvm.MethodName) prog_59_method_1_code (1 : Nat) (Option.none : Option Jvm.ClassFile.FieldType), Jvm.Cond.code ({ cls := "com/example/velvet_rope/velvetrope/lock/TableEntries", name := "come", desc := "(Lcom/example/velvet_rope/velvetrope/lock/TransactionLocks;Ljava/lang/String;Lcom/example/velvet_rope/velvetrope/lock/ElementLocks;)V" } : Jvm.MethodName) prog_63_method_11_code (3 : Nat) (Option.none : Option Jvm.ClassFile.FieldType), Jvm.Cond.code ({ cls := "java/lang/String", name := "equals", desc := "(Ljava/lang/Object;)Z" } : Jvm.MethodName) jdk_42_method_66_code (3 : Nat) (Option.some Jvm.ClassFile.FieldType.boolean), Jvm.Cond.code ({ cls := "com/example/velvet_rope/velvetrope/lock/ElementLocks", name := "idle", desc := "()Z" } : Jvm.MethodName) prog_48_method_2_code (1 : Nat) (Option.some Jvm.ClassFile.FieldType.boolean), Jvm.Cond.code ({ cls := "java/util/ArrayList", name := "isEmpty", desc := "()Z" } : Jvm.MethodName) jdk_38_method_9_code (1 : Nat) (Option.some Jvm.ClassFile.FieldType.boolean), Jvm.Cond.code ({ cls := "java/util/AbstractCollection", name := "isEmpty", desc := "()Z" } : Jvm.MethodName) jdk_22_method_4_code (1 : Nat) (Option.some Jvm.ClassFile.FieldType.boolean), Jvm.Cond.code ({ cls := "com/example/velvet_rope/velvetrope/lock/QueueList", name := "size", desc := "()I" } : Jvm.MethodName) prog_59_method_3_code (1 : Nat) (Option.some Jvm.ClassFile.FieldType.int)]
set_option maxRecDepth 65536 in
theorem codes_eq : words1.filter isCode = codes1 := rfl
theorem w_codes : ∀ c ∈ words1.filter isCode, c.before args0 about1 = true := by
  rw [codes_eq]
  intro c hc
  simp only [codes1, List.mem_cons, List.not_mem_nil, or_false] at hc
  rcases hc with rfl | rfl | rfl | rfl | rfl | rfl | rfl | rfl | rfl | rfl | rfl | rfl | rfl | rfl | rfl | rfl | rfl | rfl | rfl | rfl | rfl | rfl | rfl | rfl
  · exact w_c0
  · exact w_c1
  · exact w_c2
  · exact w_c3
  · exact w_c4
  · exact w_c5
  · exact w_c6
  · exact w_c7
  · exact w_c8
  · exact w_c9
  · exact w_c10
  · exact w_c11
  · exact w_c12
  · exact w_c13
  · exact w_c14
  · exact w_c15
  · exact w_c16
  · exact w_c17
  · exact w_c18
  · exact w_c19
  · exact w_c20
  · exact w_c21
  · exact w_c22
  · exact w_c23
set_option maxRecDepth 65536 in
theorem w_t1 : (words1.take 24).all (fun c => isCode c || c.before args0 about1) = true := by decide +kernel
set_option maxRecDepth 65536 in
theorem w_t2 : ((words1.drop 24).take 24).all (fun c => isCode c || c.before args0 about1) = true := by decide +kernel
set_option maxRecDepth 65536 in
theorem w_t3 : (((words1.drop 24).drop 24).take 24).all (fun c => isCode c || c.before args0 about1) = true := by decide +kernel
set_option maxRecDepth 65536 in
theorem w_t4 : ((((words1.drop 24).drop 24).drop 24).take 24).all (fun c => isCode c || c.before args0 about1) = true := by decide +kernel
set_option maxRecDepth 65536 in
theorem w_t5 : (((((words1.drop 24).drop 24).drop 24).drop 24).take 24).all (fun c => isCode c || c.before args0 about1) = true := by decide +kernel
set_option maxRecDepth 65536 in
theorem w_t6 : ((((((words1.drop 24).drop 24).drop 24).drop 24).drop 24).take 24).all (fun c => isCode c || c.before args0 about1) = true := by decide +kernel
set_option maxRecDepth 65536 in
theorem w_t7 : (((((((words1.drop 24).drop 24).drop 24).drop 24).drop 24).drop 24).take 24).all (fun c => isCode c || c.before args0 about1) = true := by decide +kernel
set_option maxRecDepth 65536 in
theorem w_t8 : (((((((words1.drop 24).drop 24).drop 24).drop 24).drop 24).drop 24).drop 24).all (fun c => isCode c || c.before args0 about1) = true := by decide +kernel
theorem w_tables : (allAtoms (Jvm.Cond.code x code maxLocals ret :: tables_1)).before args0 about1 = true := by
  rw [allAtoms_all]
  show words1.all (fun c => c.before args0 about1) = true
  refine all_split ?_ w_codes
  rw [← List.take_append_drop 24 words1, List.all_append, w_t1, ← List.take_append_drop 24 (words1.drop 24), List.all_append, w_t2, ← List.take_append_drop 24 ((words1.drop 24).drop 24), List.all_append, w_t3, ← List.take_append_drop 24 (((words1.drop 24).drop 24).drop 24), List.all_append, w_t4, ← List.take_append_drop 24 ((((words1.drop 24).drop 24).drop 24).drop 24), List.all_append, w_t5, ← List.take_append_drop 24 (((((words1.drop 24).drop 24).drop 24).drop 24).drop 24), List.all_append, w_t6, ← List.take_append_drop 24 ((((((words1.drop 24).drop 24).drop 24).drop 24).drop 24).drop 24), List.all_append, w_t7, w_t8]
  rfl
set_option maxRecDepth 65536 in
theorem w_rest : rest_1_c.before args0 about1 = true := by decide +kernel
set_option maxRecDepth 65536 in
theorem w_case : (Jvm.Cond.and given_1 narrow_1).before args0 about1 = true := by decide +kernel
theorem w_applies : (headSpec (Jvm.Cond.code x code maxLocals ret :: tables_1) room_1).applies x e0.platform about1 = true :=
  (Spec.applies_iff w_frames).mpr ⟨w_running, w_runnable, w_alone, w_named, w_hears, w_ripe, w_room, w_tables⟩
theorem atStart : AtStart classFile x code maxLocals ret World_1 tables_1 room_1 Calls_1 rest_1 Pre_1 launch0 p0 e0 about1 theMethod args0 below0 :=
  ⟨lists_1, trivial, launch0.admits_env _ _ _, launch0.least_env, fairChoices_fair.cas, fairChoices_fair.clock, w_frames, w_args, w_heap, w_applies, trivial, w_rest, w_case⟩
end start1
theorem witness_1 : WitnessClaimed_1 := ⟨start1.p0, start1.e0, start1.about1, start1.theMethod, start1.args0, start1.below0, start1.atStart⟩
end Jvm.Pilot.@@N@@
