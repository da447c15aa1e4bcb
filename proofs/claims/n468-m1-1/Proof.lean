import JvmDerived
import JvmDerived.Pilot.@@N@@Statement
import JvmDerived.Pilot.@@N@@Code
set_option linter.unusedVariables false
set_option linter.unusedSimpArgs false
@@BLOCK:NumsL.lean.txt@@
@@BLOCK:Masks.lean.txt@@
namespace Jvm.Own
open Sem ClassFile Op Lib Jvm.Stand Jvm.Free Jvm.LawKit Jvm.RoadKit
/-! ## A program logic over an abstract heap: references count from the start's heap size. -/
def cv (k : Nat) : Value → Value
  | .ref i => .ref (k + i)
  | v => v
def cs (k : Nat) : Slot → Slot
  | .val v => .val (cv k v)
  | .unset => .unset
  | .second => .second
theorem cv_cat (k : Nat) (v : Value) : (cv k v).category = v.category := by cases v <;> rfl
theorem cv_isRef (k : Nat) (v : Value) : (cv k v).isRef = v.isRef := by cases v <;> rfl
theorem cv_fits (k : Nat) (t : FieldType) (v : Value) : fits t (cv k v) = fits t v := by cases v <;> cases t <;> rfl
theorem cv_narrow (k : Nat) (t : FieldType) (v : Value) : narrow t (cv k v) = cv k (narrow t v) := by cases v <;> cases t <;> rfl
theorem cv_default (k : Nat) (t : FieldType) : cv k (defaultValue t) = defaultValue t := by cases t <;> rfl
theorem cat_map (k : Nat) (S : List Value) : ((S.map (cv k)).map fun v => v.category) = S.map fun v => v.category := by
  rw [List.map_map]; exact List.map_congr_left fun v _ => cv_cat k v
/-- an object: the number of its class, its fields' values; or an array: its kind, its values -/
abbrev ACell := (Nat × List Value) ⊕ (FieldType × List Value)
abbrev AHeap := List ACell
/-- the classes: name, slots, fields (declaring class, name, descriptor, type) -/
abbrev KTab := List (String × Nat × List (String × String × String × FieldType))
/-- a method: name, bytes, max_locals, return type -/
abbrev Mth := MethodName × ByteArray × Nat × Option FieldType
def CellOk (Z : State) (K : KTab) (h : Heap) (a : Addr) : ACell → Prop
  | .inl (c, vs) => ∃ (C : String) (n : Nat) (fs : List (String × String × String × FieldType)), K[c]? = some (C, n, fs) ∧ vs.length = fs.length ∧ Exa Z h a C ∧ ∀ (j : Nat) (f : String × String × String × FieldType) (v : Value), fs[j]? = some f → vs[j]? = some v → Fld Z h a f.1 f.2.1 f.2.2.1 (cv Z.heap.size v)
  | .inr (ty, vs) => ∃ cell : Cell, Arr Z h a cell ty ∧ cell.slots = (vs.map (cv Z.heap.size)).toArray ∧ ∀ v ∈ vs, fits ty v = true
def Rel (Z : State) (K : KTab) (h : Heap) (H : AHeap) : Prop :=
  h.size = Z.heap.size + H.length ∧ ∀ (i : Nat) (c : ACell), H[i]? = some c → CellOk Z K h (Z.heap.size + i) c
def FOk (tb : List Cond) (C : String) (f : String × String × String × FieldType) : Prop :=
  (Cond.lays C f.1 f.2.1 f.2.2.1 ∈ tb ∨ Cond.laysFinal C f.1 f.2.1 f.2.2.1 ∈ tb) ∧ parseFieldDescriptor f.2.2.1 = some f.2.2.2
def KOk (tb : List Cond) (K : KTab) : Prop :=
  ∀ q ∈ K, Cond.instantiable q.1 q.2.1 ∈ tb ∧ (∀ f ∈ q.2.2, FOk tb q.1 f) ∧ (q.2.2.map fun f => f.2.1).Nodup
theorem KOk.nil {tb : List Cond} : KOk tb [] := fun _ h => nomatch h
theorem KOk.cons {tb : List Cond} {K : KTab} {q : String × Nat × List (String × String × String × FieldType)} (h1 : Cond.instantiable q.1 q.2.1 ∈ tb) (h2 : ∀ f ∈ q.2.2, FOk tb q.1 f) (h3 : (q.2.2.map fun f => f.2.1).Nodup) (h : KOk tb K) : KOk tb (q :: K) := fun x hx => by
  rcases List.mem_cons.mp hx with rfl | hx
  · exact ⟨h1, h2, h3⟩
  · exact h x hx
theorem fok0 {tb : List Cond} {C : String} : ∀ f ∈ ([] : List (String × String × String × FieldType)), FOk tb C f := fun _ h => nomatch h
theorem fokS {tb : List Cond} {C : String} {g : String × String × String × FieldType} {L : List (String × String × String × FieldType)} (h1 : FOk tb C g) (h2 : ∀ f ∈ L, FOk tb C f) : ∀ f ∈ g :: L, FOk tb C f := fun f hf => by
  rcases List.mem_cons.mp hf with rfl | hf
  · exact h1
  · exact h2 f hf
/-- where a walk stands -/
def Here (tb : List Cond) (K : KTab) (μ : Mth) (rm : Room) (H : AHeap) (Z : State) (a0 : Array Value) (p : Program) (l : Launch) (e : Env) (R : Room) (s : State) (m : MethodId) (args : Array Value) (below : List Frame) (meth : Method) (c : Code)
    (T : State) (locs : List Loc) (cells slots : Nat) : Prop :=
  Stand p l e R s m args below meth c T locs cells slots ∧ p.tables.exec = Jvm.exec ∧ Z.Warmed39 s.vm ∧ (∀ d ∈ tb, d.before a0 Z = true) ∧ c.code = μ.2.1 ∧ c.maxLocals = μ.2.2.1 ∧ meth.sig.returnType = μ.2.2.2 ∧ meth.name = μ.1.name ∧ meth.locks = false ∧
    s.vm.findClass μ.1.cls = some m.cls ∧ Rel Z K T.heap H ∧ Fr Z.heap.size locs ∧ rm.frames ≤ R.frames ∧ cells + rm.cells ≤ R.cells ∧ slots + rm.slots ≤ R.slots ∧ rm.locals ≤ R.locals
/-- how it ends -/
def Ends (K : KTab) (Q : Option Value → AHeap → Prop) (Z : State) (p : Program) (e : Env) (R : Room) (s : State) (below : List Frame) (T0 : State) : Prop :=
  ∃ (v : Option Value) (H' : AHeap) (T : State) (locs : List Loc) (fs : List Frame), Q v H' ∧ Steps p.tables e below T0 (T.setFrames fs) ∧ (T.setFrames fs).status = .running ∧ Ended (T.setFrames fs) below (.returned (v.map (cv Z.heap.size))) ∧
    s.WarmedH (T.setFrames fs).vm ∧ s.sameButNew ({ T.setFrames fs with vm := s.vm } : State) locs R.cells R.slots ∧ Fr Z.heap.size locs ∧ Rel Z K T.heap H'
/-- from the frame (pc, L, S) over the heap H the body returns, and Q -/
def W (tb : List Cond) (K : KTab) (μ : Mth) (rm : Room) (pc : Nat) (L : List Slot) (S : List Value) (H : AHeap) (Q : Option Value → AHeap → Prop) : Prop :=
  L.length = μ.2.2.1 → ∀ (Z : State) (a0 : Array Value) (p : Program) (l : Launch) (e : Env) (R : Room) (s : State) (m : MethodId) (args : Array Value) (below : List Frame) (meth : Method) (c : Code) (T : State) (locs : List Loc) (cells slots : Nat),
    Here tb K μ rm H Z a0 p l e R s m args below meth c T locs cells slots → Ends K Q Z p e R s below (T.setTop (mkF m pc (L.map (cs Z.heap.size)).toArray (S.map (cv Z.heap.size))))
/-- a call of μ comes back, and Q -/
def M (tb : List Cond) (K : KTab) (μ : Mth) (rm : Room) (as : List Value) (H : AHeap) (Q : Option Value → AHeap → Prop) : Prop :=
  ∀ (Z : State) (a0 : Array Value), (∀ d ∈ tb, d.before a0 Z = true) → ∀ (l : Launch) (h : Heap) (ws : List Cond), Rel Z K h H →
    MetFree l μ.1 (head1 (Cond.code μ.1 μ.2.1 μ.2.2.1 μ.2.2.2 :: ws) rm) (fun a U => a = (as.map (cv Z.heap.size)).toArray ∧ Z.Warmed39 U.vm ∧ U.heap = h) (fun _ _ _ _ _ => True)
      (fun _ U o U' => ∃ v L, o = .returned v ∧ (∃ v' H', v = v'.map (cv Z.heap.size) ∧ Rel Z K U'.heap H' ∧ Q v' H' ∧ Fr Z.heap.size L) ∧ FrameEnd U o U' L rm.cells rm.slots)
section Logic
variable {tb : List Cond} {K : KTab} {μ : Mth} {rm : Room} {pc : Nat} {L : List Slot} {S : List Value} {H : AHeap} {Q Q' : Option Value → AHeap → Prop}
theorem Ends.mono {Z : State} {p : Program} {e : Env} {R : Room} {s : State} {below : List Frame} {T0 : State} (h : Ends K Q Z p e R s below T0) (hq : ∀ v H, Q v H → Q' v H) : Ends K Q' Z p e R s below T0 := by
  obtain ⟨v, H', T, locs, fs, h1, r⟩ := h; exact ⟨v, H', T, locs, fs, hq _ _ h1, r⟩
theorem W.mono (h : W tb K μ rm pc L S H Q) (hq : ∀ v H, Q v H → Q' v H) : W tb K μ rm pc L S H Q' := fun hl Z a0 p l e R s m args below meth c T locs cells slots X => (h hl Z a0 p l e R s m args below meth c T locs cells slots X).mono hq
theorem M.mono {as : List Value} (h : M tb K μ rm as H Q) (hq : ∀ v H, Q v H → Q' v H) : M tb K μ rm as H Q' := fun Z a0 hw l h0 ws hr p e ha hc hk s m args below hf happ hP hK => by
  obtain ⟨n, o, h1, h2, h3, v, L, h4, ⟨v', H', h5, h6, h7, h8⟩, h9⟩ := h Z a0 hw l h0 ws hr p e ha hc hk s m args below hf happ hP hK
  exact ⟨n, o, h1, h2, h3, v, L, h4, ⟨v', H', h5, h6, hq _ _ h7, h8⟩, h9⟩
theorem Ends.steps {Z : State} {p : Program} {e : Env} {R : Room} {s : State} {below : List Frame} {T0 T1 : State} (st : ∀ target, Steps p.tables e below T1 target → Steps p.tables e below T0 target) (h : Ends K Q Z p e R s below T1) : Ends K Q Z p e R s below T0 := by
  obtain ⟨v, H', T, locs, fs, h1, h2, r⟩ := h; exact ⟨v, H', T, locs, fs, h1, st _ h2, r⟩
/-- a step that moves the frame alone -/
theorem W.pure {pc' : Nat} {L' : List Slot} {S' : List Value} (hl : L'.length = L.length)
    (st : ∀ (k : Nat) (p : Program) (e : Env) (m : MethodId) (below : List Frame) (c : Code) (T : State), At T m c below → p.tables.exec = Jvm.exec → c.code = μ.2.1 → ∀ target, Steps p.tables e below (T.setTop (mkF m pc' (L'.map (cs k)).toArray (S'.map (cv k)))) target → Steps p.tables e below (T.setTop (mkF m pc (L.map (cs k)).toArray (S.map (cv k)))) target)
    (h : W tb K μ rm pc' L' S' H Q) : W tb K μ rm pc L S H Q := fun hL Z a0 p l e R s m args below meth c T locs cells slots X =>
  (h (hl.trans hL) Z a0 p l e R s m args below meth c T locs cells slots X).steps (st _ p e m below c T X.1.here X.2.1 X.2.2.2.2.1)
theorem get_conc {k : Nat} {i : Nat} {v : Value} (h : L[i]? = some (.val v)) : (L.map (cs k)).toArray[i]? = some (.val (cv k v)) := by
  simp [h, cs]
theorem W.iload_n {i : Fin 4} {x : Int32} (hd : decode μ.2.1 pc = .ok (.iload_n i, 1)) (hl : L[i.val]? = some (.val (.int x))) (h : W tb K μ rm (pc + 1) L (.int x :: S) H Q) : W tb K μ rm pc L S H Q :=
  W.pure rfl (fun k p e m below c T hA hx hb' t ht => XS.iloadN hA hx rfl (hb hb' hd) (get_conc hl) ht) h
theorem W.iload {i : Nat} {x : Int32} (hd : decode μ.2.1 pc = .ok (.iload i, 2)) (hl : L[i]? = some (.val (.int x))) (h : W tb K μ rm (pc + 2) L (.int x :: S) H Q) : W tb K μ rm pc L S H Q :=
  W.pure rfl (fun k p e m below c T hA hx hb' t ht => XS.iload hA hx rfl (hb hb' hd) (get_conc hl) ht) h
theorem W.lload_n {i : Fin 4} {x : Int64} (hd : decode μ.2.1 pc = .ok (.lload_n i, 1)) (hl : L[i.val]? = some (.val (.long x))) (h : W tb K μ rm (pc + 1) L (.long x :: S) H Q) : W tb K μ rm pc L S H Q :=
  W.pure rfl (fun k p e m below c T hA hx hb' t ht => XS.lloadN hA hx rfl (hb hb' hd) (get_conc hl) ht) h
theorem W.lload {i : Nat} {x : Int64} (hd : decode μ.2.1 pc = .ok (.lload i, 2)) (hl : L[i]? = some (.val (.long x))) (h : W tb K μ rm (pc + 2) L (.long x :: S) H Q) : W tb K μ rm pc L S H Q :=
  W.pure rfl (fun k p e m below c T hA hx hb' t ht => XS.lload hA hx rfl (hb hb' hd) (get_conc hl) ht) h
theorem W.aload_n {i : Fin 4} {v : Value} (hd : decode μ.2.1 pc = .ok (.aload_n i, 1)) (hl : L[i.val]? = some (.val v)) (hv : v.isRef = true) (h : W tb K μ rm (pc + 1) L (v :: S) H Q) : W tb K μ rm pc L S H Q :=
  W.pure rfl (fun k p e m below c T hA hx hb' t ht => XS.aloadN hA hx rfl (hb hb' hd) (get_conc hl) (by rw [cv_isRef]; exact hv) ht) h
theorem W.aload {i : Nat} {v : Value} (hd : decode μ.2.1 pc = .ok (.aload i, 2)) (hl : L[i]? = some (.val v)) (hv : v.isRef = true) (h : W tb K μ rm (pc + 2) L (v :: S) H Q) : W tb K μ rm pc L S H Q :=
  W.pure rfl (fun k p e m below c T hA hx hb' t ht => XS.aload hA hx rfl (hb hb' hd) (get_conc hl) (by rw [cv_isRef]; exact hv) ht) h
theorem W.iadd {x y : Int32} (hd : decode μ.2.1 pc = .ok (.iadd, 1)) (h : W tb K μ rm (pc + 1) L (.int (x + y) :: S) H Q) : W tb K μ rm pc L (.int y :: .int x :: S) H Q :=
  W.pure rfl (fun k p e m below c T hA hx hb' t ht => XS.iadd hA hx rfl (hb hb' hd) rfl ht) h
theorem W.isub {x y : Int32} (hd : decode μ.2.1 pc = .ok (.isub, 1)) (h : W tb K μ rm (pc + 1) L (.int (x - y) :: S) H Q) : W tb K μ rm pc L (.int y :: .int x :: S) H Q :=
  W.pure rfl (fun k p e m below c T hA hx hb' t ht => XS.isub hA hx rfl (hb hb' hd) rfl ht) h
theorem W.imul {x y : Int32} (hd : decode μ.2.1 pc = .ok (.imul, 1)) (h : W tb K μ rm (pc + 1) L (.int (x * y) :: S) H Q) : W tb K μ rm pc L (.int y :: .int x :: S) H Q :=
  W.pure rfl (fun k p e m below c T hA hx hb' t ht => XS.imul hA hx rfl (hb hb' hd) rfl ht) h
theorem W.idiv {x y : Int32} (hd : decode μ.2.1 pc = .ok (.idiv, 1)) (hy : y ≠ 0) (h : W tb K μ rm (pc + 1) L (.int (x / y) :: S) H Q) : W tb K μ rm pc L (.int y :: .int x :: S) H Q :=
  W.pure rfl (fun k p e m below c T hA hx hb' t ht => XS.idiv hA hx rfl (hb hb' hd) rfl hy ht) h
theorem W.irem {x y : Int32} (hd : decode μ.2.1 pc = .ok (.irem, 1)) (hy : y ≠ 0) (h : W tb K μ rm (pc + 1) L (.int (x % y) :: S) H Q) : W tb K μ rm pc L (.int y :: .int x :: S) H Q :=
  W.pure rfl (fun k p e m below c T hA hx hb' t ht => XS.irem hA hx rfl (hb hb' hd) rfl hy (by rw [irem_eq_mod x y]; exact ht)) h
theorem W.ineg {x : Int32} (hd : decode μ.2.1 pc = .ok (.ineg, 1)) (h : W tb K μ rm (pc + 1) L (.int (-x) :: S) H Q) : W tb K μ rm pc L (.int x :: S) H Q :=
  W.pure rfl (fun k p e m below c T hA hx hb' t ht => XS.ineg hA hx rfl (hb hb' hd) rfl ht) h
theorem W.iand {x y : Int32} (hd : decode μ.2.1 pc = .ok (.iand, 1)) (h : W tb K μ rm (pc + 1) L (.int (x &&& y) :: S) H Q) : W tb K μ rm pc L (.int y :: .int x :: S) H Q :=
  W.pure rfl (fun k p e m below c T hA hx hb' t ht => XS.iand hA hx rfl (hb hb' hd) rfl ht) h
theorem W.ior {x y : Int32} (hd : decode μ.2.1 pc = .ok (.ior, 1)) (h : W tb K μ rm (pc + 1) L (.int (x ||| y) :: S) H Q) : W tb K μ rm pc L (.int y :: .int x :: S) H Q :=
  W.pure rfl (fun k p e m below c T hA hx hb' t ht => XT.ior hA hx rfl (hb hb' hd) rfl ht) h
theorem W.ixor {x y : Int32} (hd : decode μ.2.1 pc = .ok (.ixor, 1)) (h : W tb K μ rm (pc + 1) L (.int (x ^^^ y) :: S) H Q) : W tb K μ rm pc L (.int y :: .int x :: S) H Q :=
  W.pure rfl (fun k p e m below c T hA hx hb' t ht => XT.ixor hA hx rfl (hb hb' hd) rfl ht) h
theorem W.ishl {x y : Int32} (hd : decode μ.2.1 pc = .ok (.ishl, 1)) (h : W tb K μ rm (pc + 1) L (.int (x <<< (y &&& 31)) :: S) H Q) : W tb K μ rm pc L (.int y :: .int x :: S) H Q :=
  W.pure rfl (fun k p e m below c T hA hx hb' t ht => XT.ishl hA hx rfl (hb hb' hd) rfl ht) h
theorem W.ishr {x y : Int32} (hd : decode μ.2.1 pc = .ok (.ishr, 1)) (h : W tb K μ rm (pc + 1) L (.int (x >>> (y &&& 31)) :: S) H Q) : W tb K μ rm pc L (.int y :: .int x :: S) H Q :=
  W.pure rfl (fun k p e m below c T hA hx hb' t ht => XT.ishr hA hx rfl (hb hb' hd) rfl ht) h
theorem W.iushr {x y : Int32} (hd : decode μ.2.1 pc = .ok (.iushr, 1)) (h : W tb K μ rm (pc + 1) L (.int (XT.ushr x y) :: S) H Q) : W tb K μ rm pc L (.int y :: .int x :: S) H Q :=
  W.pure rfl (fun k p e m below c T hA hx hb' t ht => XT.iushr hA hx rfl (hb hb' hd) rfl ht) h
theorem W.ladd {x y : Int64} (hd : decode μ.2.1 pc = .ok (.ladd, 1)) (h : W tb K μ rm (pc + 1) L (.long (x + y) :: S) H Q) : W tb K μ rm pc L (.long y :: .long x :: S) H Q :=
  W.pure rfl (fun k p e m below c T hA hx hb' t ht => XT.ladd hA hx rfl (hb hb' hd) rfl ht) h
theorem W.lsub {x y : Int64} (hd : decode μ.2.1 pc = .ok (.lsub, 1)) (h : W tb K μ rm (pc + 1) L (.long (x - y) :: S) H Q) : W tb K μ rm pc L (.long y :: .long x :: S) H Q :=
  W.pure rfl (fun k p e m below c T hA hx hb' t ht => XT.lsub hA hx rfl (hb hb' hd) rfl ht) h
theorem W.lmul {x y : Int64} (hd : decode μ.2.1 pc = .ok (.lmul, 1)) (h : W tb K μ rm (pc + 1) L (.long (x * y) :: S) H Q) : W tb K μ rm pc L (.long y :: .long x :: S) H Q :=
  W.pure rfl (fun k p e m below c T hA hx hb' t ht => XT.lmul hA hx rfl (hb hb' hd) rfl ht) h
theorem W.ldiv {x y : Int64} (hd : decode μ.2.1 pc = .ok (.ldiv, 1)) (hy : y ≠ 0) (h : W tb K μ rm (pc + 1) L (.long (x / y) :: S) H Q) : W tb K μ rm pc L (.long y :: .long x :: S) H Q :=
  W.pure rfl (fun k p e m below c T hA hx hb' t ht => XT.ldiv hA hx rfl (hb hb' hd) rfl hy ht) h
theorem W.land {x y : Int64} (hd : decode μ.2.1 pc = .ok (.land, 1)) (h : W tb K μ rm (pc + 1) L (.long (x &&& y) :: S) H Q) : W tb K μ rm pc L (.long y :: .long x :: S) H Q :=
  W.pure rfl (fun k p e m below c T hA hx hb' t ht => XT.land hA hx rfl (hb hb' hd) rfl ht) h
theorem W.lor {x y : Int64} (hd : decode μ.2.1 pc = .ok (.lor, 1)) (h : W tb K μ rm (pc + 1) L (.long (x ||| y) :: S) H Q) : W tb K μ rm pc L (.long y :: .long x :: S) H Q :=
  W.pure rfl (fun k p e m below c T hA hx hb' t ht => XT.lor hA hx rfl (hb hb' hd) rfl ht) h
theorem W.lxor {x y : Int64} (hd : decode μ.2.1 pc = .ok (.lxor, 1)) (h : W tb K μ rm (pc + 1) L (.long (x ^^^ y) :: S) H Q) : W tb K μ rm pc L (.long y :: .long x :: S) H Q :=
  W.pure rfl (fun k p e m below c T hA hx hb' t ht => XT.lxor hA hx rfl (hb hb' hd) rfl ht) h
theorem W.lshl {x : Int64} {y : Int32} (hd : decode μ.2.1 pc = .ok (.lshl, 1)) (h : W tb K μ rm (pc + 1) L (.long (x <<< (y.toInt64 &&& 63)) :: S) H Q) : W tb K μ rm pc L (.int y :: .long x :: S) H Q :=
  W.pure rfl (fun k p e m below c T hA hx hb' t ht => XT.lshl hA hx rfl (hb hb' hd) rfl ht) h
theorem W.lushr {x : Int64} {y : Int32} (hd : decode μ.2.1 pc = .ok (.lushr, 1)) (h : W tb K μ rm (pc + 1) L (.long (XT.ushrL x y) :: S) H Q) : W tb K μ rm pc L (.int y :: .long x :: S) H Q :=
  W.pure rfl (fun k p e m below c T hA hx hb' t ht => XT.lushr hA hx rfl (hb hb' hd) rfl ht) h
theorem W.lcmp {x y : Int64} (hd : decode μ.2.1 pc = .ok (.lcmp, 1)) (h : W tb K μ rm (pc + 1) L (.int (XT.cmpL x y) :: S) H Q) : W tb K μ rm pc L (.long y :: .long x :: S) H Q :=
  W.pure rfl (fun k p e m below c T hA hx hb' t ht => XT.lcmp hA hx rfl (hb hb' hd) rfl ht) h
theorem W.i2l {x : Int32} (hd : decode μ.2.1 pc = .ok (.i2l, 1)) (h : W tb K μ rm (pc + 1) L (.long x.toInt64 :: S) H Q) : W tb K μ rm pc L (.int x :: S) H Q :=
  W.pure rfl (fun k p e m below c T hA hx hb' t ht => XT.i2l hA hx rfl (hb hb' hd) rfl ht) h
theorem W.l2i {x : Int64} (hd : decode μ.2.1 pc = .ok (.l2i, 1)) (h : W tb K μ rm (pc + 1) L (.int x.toInt32 :: S) H Q) : W tb K μ rm pc L (.long x :: S) H Q :=
  W.pure rfl (fun k p e m below c T hA hx hb' t ht => XT.l2i hA hx rfl (hb hb' hd) rfl ht) h
theorem W.i2b {x : Int32} (hd : decode μ.2.1 pc = .ok (.i2b, 1)) (h : W tb K μ rm (pc + 1) L (.int x.toInt8.toInt32 :: S) H Q) : W tb K μ rm pc L (.int x :: S) H Q :=
  W.pure rfl (fun k p e m below c T hA hx hb' t ht => XT.i2b hA hx rfl (hb hb' hd) rfl ht) h
theorem W.i2c {x : Int32} (hd : decode μ.2.1 pc = .ok (.i2c, 1)) (h : W tb K μ rm (pc + 1) L (.int x.toUInt32.toUInt16.toUInt32.toInt32 :: S) H Q) : W tb K μ rm pc L (.int x :: S) H Q :=
  W.pure rfl (fun k p e m below c T hA hx hb' t ht => XT.i2c hA hx rfl (hb hb' hd) rfl ht) h
theorem W.iconst {i : Int} (hd : decode μ.2.1 pc = .ok (.iconst i, 1)) (h : W tb K μ rm (pc + 1) L (.int (Int32.ofInt i) :: S) H Q) : W tb K μ rm pc L (S) H Q :=
  W.pure rfl (fun k p e m below c T hA hx hb' t ht => XS.iconst hA hx rfl (hb hb' hd) ht) h
theorem W.bipush {i : Int} (hd : decode μ.2.1 pc = .ok (.bipush i, 2)) (h : W tb K μ rm (pc + 2) L (.int (Int8.ofInt i).toInt32 :: S) H Q) : W tb K μ rm pc L (S) H Q :=
  W.pure rfl (fun k p e m below c T hA hx hb' t ht => XS.bipush hA hx rfl (hb hb' hd) ht) h
theorem W.sipush {i : Int} (hd : decode μ.2.1 pc = .ok (.sipush i, 3)) (h : W tb K μ rm (pc + 3) L (.int (Int16.ofInt i).toInt32 :: S) H Q) : W tb K μ rm pc L (S) H Q :=
  W.pure rfl (fun k p e m below c T hA hx hb' t ht => XS.sipush hA hx rfl (hb hb' hd) ht) h
theorem W.lconst {i : Fin 2} (hd : decode μ.2.1 pc = .ok (.lconst i, 1)) (h : W tb K μ rm (pc + 1) L (.long (Int64.ofNat i) :: S) H Q) : W tb K μ rm pc L (S) H Q :=
  W.pure rfl (fun k p e m below c T hA hx hb' t ht => XT.lconst hA hx rfl (hb hb' hd) ht) h
theorem W.aconst_null  (hd : decode μ.2.1 pc = .ok (.aconst_null, 1)) (h : W tb K μ rm (pc + 1) L (.null :: S) H Q) : W tb K μ rm pc L (S) H Q :=
  W.pure rfl (fun k p e m below c T hA hx hb' t ht => XS.aconstNull hA hx rfl (hb hb' hd) ht) h
theorem W.dup {v : Value} (hd : decode μ.2.1 pc = .ok (.dup, 1)) (hc : v.category = 1) (h : W tb K μ rm (pc + 1) L (v :: v :: S) H Q) : W tb K μ rm pc L (v :: S) H Q :=
  W.pure rfl (fun k p e m below c T hA hx hb' t ht => XS.dup hA hx rfl (hb hb' hd) rfl (by rw [cv_cat]; exact hc) ht) h
theorem W.pop {v : Value} (hd : decode μ.2.1 pc = .ok (.pop, 1)) (hc : v.category = 1) (h : W tb K μ rm (pc + 1) L (S) H Q) : W tb K μ rm pc L (v :: S) H Q :=
  W.pure rfl (fun k p e m below c T hA hx hb' t ht => XT.pop hA hx rfl (hb hb' hd) rfl (by rw [cv_cat]; exact hc) ht) h
theorem W.dup_x1 {v w : Value} (hd : decode μ.2.1 pc = .ok (.dup_x1, 1)) (hc : v.category = 1) (hc' : w.category = 1) (h : W tb K μ rm (pc + 1) L (v :: w :: v :: S) H Q) : W tb K μ rm pc L (v :: w :: S) H Q :=
  W.pure rfl (fun k p e m below c T hA hx hb' t ht => XT.dupX1 hA hx rfl (hb hb' hd) rfl (by rw [cv_cat]; exact hc) (by rw [cv_cat]; exact hc') ht) h
theorem W.iconst' {i : Int} {x : Int32} (hd : decode μ.2.1 pc = .ok (.iconst i, 1)) (hx : Int32.ofInt i = x) (h : W tb K μ rm (pc + 1) L (.int x :: S) H Q) : W tb K μ rm pc L S H Q := W.iconst hd (by rw [hx]; exact h)
theorem W.bipush' {i : Int} {x : Int32} (hd : decode μ.2.1 pc = .ok (.bipush i, 2)) (hx : (Int8.ofInt i).toInt32 = x) (h : W tb K μ rm (pc + 2) L (.int x :: S) H Q) : W tb K μ rm pc L S H Q := W.bipush hd (by rw [hx]; exact h)
theorem W.sipush' {i : Int} {x : Int32} (hd : decode μ.2.1 pc = .ok (.sipush i, 3)) (hx : (Int16.ofInt i).toInt32 = x) (h : W tb K μ rm (pc + 3) L (.int x :: S) H Q) : W tb K μ rm pc L S H Q := W.sipush hd (by rw [hx]; exact h)
theorem W.lconst' {i : Fin 2} {x : Int64} (hd : decode μ.2.1 pc = .ok (.lconst i, 1)) (hx : Int64.ofNat i = x) (h : W tb K μ rm (pc + 1) L (.long x :: S) H Q) : W tb K μ rm pc L S H Q := W.lconst hd (by rw [hx]; exact h)
/-- a local of one word -/
def one : Slot → Bool
  | .unset => true
  | .val v => v.category == 1
  | .second => false
theorem cs_one {k : Nat} {o : Slot} (h : one o = true) : cs k o = .unset ∨ ∃ w, cs k o = .val w ∧ w.category = 1 := by
  cases o with
  | unset => exact Or.inl rfl
  | second => cases h
  | val v => exact Or.inr ⟨cv k v, rfl, by rw [cv_cat]; simpa [one] using h⟩
theorem set_conc {k i : Nat} {x : Slot} : (L.map (cs k)).toArray.setIfInBounds i (cs k x) = ((L.set i x).map (cs k)).toArray := by
  simp [List.map_set]
theorem sto1 {k i : Nat} {o : Slot} {v : Value} (hl : L[i]? = some o) (ho : one o = true) (hv : v.category = 1) : storeLocals (L.map (cs k)).toArray i (cv k v) = some ((L.set i (.val v)).map (cs k)).toArray := by
  rw [XS.store1 (o := cs k o) (by simp [hl]) (cs_one ho) (by rw [cv_cat]; exact hv)]
  exact congrArg some (set_conc (x := .val v))
/-- over the first half of a long -/
theorem sto1w {k i : Nat} {w v : Value} (hl : L[i]? = some (.val w)) (ho : w.category = 2) (hi : i + 1 < L.length) (hv : v.category = 1) : storeLocals (L.map (cs k)).toArray i (cv k v) = some (((L.set (i + 1) .unset).set i (.val v)).map (cs k)).toArray := by
  have h0 : i < L.length := by omega
  have e : L[i] = .val w := by rw [List.getElem?_eq_getElem h0] at hl; exact Option.some.inj hl
  simp [storeLocals, storeSelf, setAt, h0, e, cs, cv_cat, ho, hi, hv, List.map_set]
/-- over the second half of a long -/
theorem sto1s {k i : Nat} {v : Value} (hl : L[i]? = some .second) (hi : 0 < i) (hv : v.category = 1) : storeLocals (L.map (cs k)).toArray i (cv k v) = some (((L.set (i - 1) .unset).set i (.val v)).map (cs k)).toArray := by
  have h0 : i < L.length := (List.getElem?_eq_some_iff.mp hl).1
  have e : L[i] = .second := by rw [List.getElem?_eq_getElem h0] at hl; exact Option.some.inj hl
  have h1 : i - 1 < L.length := by omega
  simp [storeLocals, storeSelf, setAt, h0, h1, e, cs, cv_cat, hv, List.map_set]
/-- what a long may be stored over -/
def two : Slot → Slot → Bool
  | .second, _ => false
  | _, .val w => w.category == 1
  | _, _ => true
theorem sto2 {k i : Nat} {o o' : Slot} {x : Int64} (hl : L[i]? = some o) (hl' : L[i + 1]? = some o') (ho : two o o' = true) : storeLocals (L.map (cs k)).toArray i (.long x) = some (((L.set i (.val (.long x))).set (i + 1) .second).map (cs k)).toArray := by
  have h0 : i < L.length := (List.getElem?_eq_some_iff.mp hl).1
  have h1 : i + 1 < L.length := (List.getElem?_eq_some_iff.mp hl').1
  have e : L[i] = o := by rw [List.getElem?_eq_getElem h0] at hl; exact Option.some.inj hl
  have e' : L[i + 1] = o' := by rw [List.getElem?_eq_getElem h1] at hl'; exact Option.some.inj hl'
  have ne : ¬ (i = i + 1) := by omega
  have c2 : (Value.long x).category = 2 := rfl
  have cl : cv k (.long x) = .long x := rfl
  have sw : ∀ (l : List Slot) (u v w : Slot), ((l.set (i + 1) u).set i v).set (i + 1) w = (l.set i v).set (i + 1) w := fun l u v w => by
    rw [List.set_comm _ _ (by omega : i + 1 ≠ i), List.set_set]
  cases o with
  | second => cases ho
  | unset =>
    cases o' with
    | unset => simp [storeLocals, storeSelf, setAt, h0, h1, e, e', cs, c2, cl, List.map_set]
    | second => simp [storeLocals, storeSelf, setAt, h0, h1, e, e', cs, c2, cl, List.map_set]
    | val w' =>
      have hc : w'.category = 1 := by simpa [two] using ho
      simp [storeLocals, storeSelf, setAt, h0, h1, e, e', cs, cv_cat, hc, c2, cl, List.map_set]
  | val w =>
    by_cases hw : w.category = 2
    · simp [storeLocals, storeSelf, setAt, h0, h1, e, cs, cv_cat, hw, c2, cl, List.map_set, sw]
    · cases o' with
      | unset => simp [storeLocals, storeSelf, setAt, h0, h1, e, e', cs, cv_cat, hw, c2, cl, List.map_set]
      | second => simp [storeLocals, storeSelf, setAt, h0, h1, e, e', cs, cv_cat, hw, c2, cl, List.map_set]
      | val w' =>
        have hc : w'.category = 1 := by simpa [two] using ho
        simp [storeLocals, storeSelf, setAt, h0, h1, e, e', cs, cv_cat, hw, hc, c2, cl, List.map_set]
theorem W.istore_n {i : Fin 4} {o : Slot} {x : Int32} (hd : decode μ.2.1 pc = .ok (.istore_n i, 1)) (hl : L[i.val]? = some o) (ho : one o = true) (h : W tb K μ rm (pc + 1) (L.set i.val (.val (.int x))) S H Q) : W tb K μ rm pc L (.int x :: S) H Q :=
  W.pure (by simp) (fun k p e m below c T hA hx hb' t ht => XS.istoreN hA hx rfl (hb hb' hd) rfl (sto1 (v := .int x) hl ho rfl) ht) h
theorem W.istore_nW {i : Fin 4} {w : Value} {x : Int32} (hd : decode μ.2.1 pc = .ok (.istore_n i, 1)) (hl : L[i.val]? = some (.val w)) (ho : w.category = 2) (hi : i.val + 1 < L.length) (h : W tb K μ rm (pc + 1) ((L.set (i.val + 1) .unset).set i.val (.val (.int x))) S H Q) : W tb K μ rm pc L (.int x :: S) H Q :=
  W.pure (by simp) (fun k p e m below c T hA hx hb' t ht => XS.istoreN hA hx rfl (hb hb' hd) rfl (sto1w (v := .int x) hl ho hi rfl) ht) h
theorem W.istore_nS {i : Fin 4} {x : Int32} (hd : decode μ.2.1 pc = .ok (.istore_n i, 1)) (hl : L[i.val]? = some .second) (hi : 0 < i.val) (h : W tb K μ rm (pc + 1) ((L.set (i.val - 1) .unset).set i.val (.val (.int x))) S H Q) : W tb K μ rm pc L (.int x :: S) H Q :=
  W.pure (by simp) (fun k p e m below c T hA hx hb' t ht => XS.istoreN hA hx rfl (hb hb' hd) rfl (sto1s (v := .int x) hl hi rfl) ht) h
theorem W.istore {i : Nat} {o : Slot} {x : Int32} (hd : decode μ.2.1 pc = .ok (.istore i, 2)) (hl : L[i]? = some o) (ho : one o = true) (h : W tb K μ rm (pc + 2) (L.set i (.val (.int x))) S H Q) : W tb K μ rm pc L (.int x :: S) H Q :=
  W.pure (by simp) (fun k p e m below c T hA hx hb' t ht => XS.istore hA hx rfl (hb hb' hd) rfl (sto1 (v := .int x) hl ho rfl) ht) h
theorem W.istoreW {i : Nat} {w : Value} {x : Int32} (hd : decode μ.2.1 pc = .ok (.istore i, 2)) (hl : L[i]? = some (.val w)) (ho : w.category = 2) (hi : i + 1 < L.length) (h : W tb K μ rm (pc + 2) ((L.set (i + 1) .unset).set i (.val (.int x))) S H Q) : W tb K μ rm pc L (.int x :: S) H Q :=
  W.pure (by simp) (fun k p e m below c T hA hx hb' t ht => XS.istore hA hx rfl (hb hb' hd) rfl (sto1w (v := .int x) hl ho hi rfl) ht) h
theorem W.istoreS {i : Nat} {x : Int32} (hd : decode μ.2.1 pc = .ok (.istore i, 2)) (hl : L[i]? = some .second) (hi : 0 < i) (h : W tb K μ rm (pc + 2) ((L.set (i - 1) .unset).set i (.val (.int x))) S H Q) : W tb K μ rm pc L (.int x :: S) H Q :=
  W.pure (by simp) (fun k p e m below c T hA hx hb' t ht => XS.istore hA hx rfl (hb hb' hd) rfl (sto1s (v := .int x) hl hi rfl) ht) h
theorem W.astore_n {i : Fin 4} {o : Slot} {v : Value} (hd : decode μ.2.1 pc = .ok (.astore_n i, 1)) (hl : L[i.val]? = some o) (ho : one o = true) (hv : v.isRef = true) (h : W tb K μ rm (pc + 1) (L.set i.val (.val v)) S H Q) : W tb K μ rm pc L (v :: S) H Q :=
  W.pure (by simp) (fun k p e m below c T hA hx hb' t ht => XS.astoreN hA hx rfl (hb hb' hd) rfl (by rw [cv_isRef]; exact hv) (sto1 (v := v) hl ho (by cases v <;> first | rfl | cases hv)) ht) h
theorem W.astore {i : Nat} {o : Slot} {v : Value} (hd : decode μ.2.1 pc = .ok (.astore i, 2)) (hl : L[i]? = some o) (ho : one o = true) (hv : v.isRef = true) (h : W tb K μ rm (pc + 2) (L.set i (.val v)) S H Q) : W tb K μ rm pc L (v :: S) H Q :=
  W.pure (by simp) (fun k p e m below c T hA hx hb' t ht => XS.astore hA hx rfl (hb hb' hd) rfl (by rw [cv_isRef]; exact hv) (sto1 (v := v) hl ho (by cases v <;> first | rfl | cases hv)) ht) h
theorem W.lstore_n {i : Fin 4} {o o' : Slot} {x : Int64} (hd : decode μ.2.1 pc = .ok (.lstore_n i, 1)) (hl : L[i.val]? = some o) (hl' : L[i.val + 1]? = some o') (ho : two o o' = true) (h : W tb K μ rm (pc + 1) ((L.set i.val (.val (.long x))).set (i.val + 1) .second) S H Q) : W tb K μ rm pc L (.long x :: S) H Q :=
  W.pure (by simp) (fun k p e m below c T hA hx hb' t ht => XT.lstoreN hA hx rfl (hb hb' hd) rfl (sto2 hl hl' ho) ht) h
theorem W.lstore {i : Nat} {o o' : Slot} {x : Int64} (hd : decode μ.2.1 pc = .ok (.lstore i, 2)) (hl : L[i]? = some o) (hl' : L[i + 1]? = some o') (ho : two o o' = true) (h : W tb K μ rm (pc + 2) ((L.set i (.val (.long x))).set (i + 1) .second) S H Q) : W tb K μ rm pc L (.long x :: S) H Q :=
  W.pure (by simp) (fun k p e m below c T hA hx hb' t ht => XT.lstore hA hx rfl (hb hb' hd) rfl (sto2 hl hl' ho) ht) h
theorem W.iinc {i : Nat} {n : Int} {x y : Int32} (hd : decode μ.2.1 pc = .ok (.iinc i n, 3)) (hy : Int32.ofInt n = y) (hl : L[i]? = some (.val (.int x))) (h : W tb K μ rm (pc + 3) (L.set i (.val (.int (x + y)))) S H Q) : W tb K μ rm pc L S H Q := by
  subst hy
  exact W.pure (by simp) (fun k p e m below c T hA hx hb' t ht => XS.iinc hA hx rfl (hb hb' hd) (get_conc hl) (sto1 (v := .int (x + Int32.ofInt n)) hl rfl rfl) ht) h
theorem W.goto {o : Int} {pc' : Nat} (hd : decode μ.2.1 pc = .ok (.goto o, 3)) (ho : 0 ≤ (pc : Int) + o) (hp : ((pc : Int) + o).toNat = pc') (h : W tb K μ rm pc' L S H Q) : W tb K μ rm pc L S H Q :=
  W.pure rfl (fun k p e m below c T hA hx hb' t ht => XS.goto hA hx rfl rfl (hb hb' hd) ho hp ht) h
/-- what a comparison asks -/
def cnd : ClassFile.Cond → Int32 → Int32 → Prop
  | .eq, x, y => x = y
  | .ne, x, y => ¬ x = y
  | .lt, x, y => x < y
  | .ge, x, y => ¬ x < y
  | .gt, x, y => y < x
  | .le, x, y => ¬ y < x
def cndN : ClassFile.Cond → Int32 → Int32 → Prop
  | .eq, x, y => ¬ x = y
  | .ne, x, y => x = y
  | .lt, x, y => ¬ x < y
  | .ge, x, y => x < y
  | .gt, x, y => ¬ y < x
  | .le, x, y => y < x
theorem cndN_of (cd : ClassFile.Cond) (x y : Int32) (h : ¬ cnd cd x y) : cndN cd x y := by
  cases cd <;> first | exact h | exact Classical.not_not.mp h
theorem cnd_iff (cd : ClassFile.Cond) (x y : Int32) : if_icmp.holds cd x y = true ↔ cnd cd x y := by
  cases cd <;> simp [if_icmp.holds, cnd, Int32.not_lt]
theorem cnd_not (cd : ClassFile.Cond) (x y : Int32) : if_icmp.holds cd x y = false ↔ ¬ cnd cd x y := by
  rw [← cnd_iff]; cases if_icmp.holds cd x y <;> simp
theorem W.icmp {cd : ClassFile.Cond} {x y : Int32} {o : Int} {pc' : Nat} (hd : decode μ.2.1 pc = .ok (.if_icmp cd o, 3)) (ho : 0 ≤ (pc : Int) + o) (hp : ((pc : Int) + o).toNat = pc') (h1 : cnd cd x y → W tb K μ rm pc' L S H Q) (h2 : cndN cd x y → W tb K μ rm (pc + 3) L S H Q) : W tb K μ rm pc L (.int y :: .int x :: S) H Q := by
  cases hc : if_icmp.holds cd x y
  · exact W.pure rfl (fun k p e m below c T hA hx hb' t ht => XS.icmpNo hA hx rfl (hb hb' hd) rfl hc ht) (h2 (cndN_of cd x y ((cnd_not cd x y).mp hc)))
  · exact W.pure rfl (fun k p e m below c T hA hx hb' t ht => XS.icmpYes hA hx rfl rfl (hb hb' hd) rfl hc ho hp ht) (h1 ((cnd_iff cd x y).mp hc))
theorem W.ifc {cd : ClassFile.Cond} {x : Int32} {o : Int} {pc' : Nat} (hd : decode μ.2.1 pc = .ok (.ifCond cd o, 3)) (ho : 0 ≤ (pc : Int) + o) (hp : ((pc : Int) + o).toNat = pc') (h1 : cnd cd x 0 → W tb K μ rm pc' L S H Q) (h2 : cndN cd x 0 → W tb K μ rm (pc + 3) L S H Q) : W tb K μ rm pc L (.int x :: S) H Q := by
  cases hc : ifCond.holds cd x
  · exact W.pure rfl (fun k p e m below c T hA hx hb' t ht => XS.ifNo hA hx rfl (hb hb' hd) rfl hc ht) (h2 (cndN_of cd x 0 ((cnd_not cd x 0).mp (by rw [← if0]; exact hc))))
  · exact W.pure rfl (fun k p e m below c T hA hx hb' t ht => XS.ifYes hA hx rfl rfl (hb hb' hd) rfl hc ho hp ht) (h1 ((cnd_iff cd x 0).mp (by rw [← if0]; exact hc)))
def cndL : ClassFile.Cond → Int64 → Int64 → Prop
  | .eq, x, y => x = y
  | .ne, x, y => ¬ x = y
  | .lt, x, y => x < y
  | .ge, x, y => ¬ x < y
  | .gt, x, y => y < x
  | .le, x, y => ¬ y < x
def cndLN : ClassFile.Cond → Int64 → Int64 → Prop
  | .eq, x, y => ¬ x = y
  | .ne, x, y => x = y
  | .lt, x, y => ¬ x < y
  | .ge, x, y => x < y
  | .gt, x, y => ¬ y < x
  | .le, x, y => y < x
theorem cndLN_iff (cd : ClassFile.Cond) (x y : Int64) : cndLN cd x y ↔ ¬ cndL cd x y := by
  cases cd <;> first | exact Iff.rfl | exact Classical.not_not.symm
theorem cndN_iff (cd : ClassFile.Cond) (x y : Int32) : cndN cd x y ↔ ¬ cnd cd x y := by
  cases cd <;> first | exact Iff.rfl | exact Classical.not_not.symm
theorem cmpL_iff (cd : ClassFile.Cond) (x y : Int64) : cnd cd (XT.cmpL x y) 0 ↔ cndL cd x y := by
  have e : XT.cmpL x y = lcmpW x y := by simp [XT.cmpL, lcmpW]
  rw [e]
  cases cd
  · exact lw_eq x y
  · exact not_congr (lw_eq x y)
  · exact lw_lt x y
  · exact not_congr (lw_lt x y)
  · exact lw_gt x y
  · exact not_congr (lw_gt x y)
/-- lcmp and the branch behind it -/
theorem W.lcif {cd : ClassFile.Cond} {x y : Int64} {o : Int} {pc1 pc' : Nat} (hd1 : decode μ.2.1 pc = .ok (.lcmp, 1)) (hp1 : pc + 1 = pc1) (hd : decode μ.2.1 pc1 = .ok (.ifCond cd o, 3)) (ho : 0 ≤ (pc1 : Int) + o) (hp : ((pc1 : Int) + o).toNat = pc') (h1 : cndL cd x y → W tb K μ rm pc' L S H Q) (h2 : cndLN cd x y → W tb K μ rm (pc1 + 3) L S H Q) : W tb K μ rm pc L (.long y :: .long x :: S) H Q := by
  subst hp1
  exact W.lcmp hd1 (W.ifc hd ho hp (fun h => h1 ((cmpL_iff cd x y).mp h)) (fun h => h2 ((cndLN_iff cd x y).mpr fun q => (cndN_iff cd _ 0).mp h ((cmpL_iff cd x y).mpr q))))
theorem W.ifnullR {i : Nat} {o : Int} (hd : decode μ.2.1 pc = .ok (.ifnull o, 3)) (h : W tb K μ rm (pc + 3) L S H Q) : W tb K μ rm pc L (.ref i :: S) H Q :=
  W.pure rfl (fun k p e m below c T hA hx hb' t ht => XS.ifnullNo hA hx rfl (hb hb' hd) rfl ht) h
theorem W.ifnonnullR {i : Nat} {o : Int} {pc' : Nat} (hd : decode μ.2.1 pc = .ok (.ifnonnull o, 3)) (ho : 0 ≤ (pc : Int) + o) (hp : ((pc : Int) + o).toNat = pc') (h : W tb K μ rm pc' L S H Q) : W tb K μ rm pc L (.ref i :: S) H Q :=
  W.pure rfl (fun k p e m below c T hA hx hb' t ht => XT.ifnonnullYes hA hx rfl rfl (hb hb' hd) rfl ho hp ht) h
theorem W.lsw {d : Int} {ps : Array (Int × Int)} {len : Nat} {x : Int32} {o : Int} {pc' : Nat} (hd : decode μ.2.1 pc = .ok (.lookupswitch d ps, len)) (hs : (ps.toList.zip (ps.toList.drop 1)).all (fun (a, next) => a.1 < next.1) = true) (ho : lookupswitch.offset ps.toList d x.toInt = o) (h0 : 0 ≤ (pc : Int) + o) (hp : ((pc : Int) + o).toNat = pc')
    (h : W tb K μ rm pc' L S H Q) : W tb K μ rm pc L (.int x :: S) H Q := by
  subst hp
  refine W.pure rfl (fun k p e m below c T hA hx hb' t ht => ?_) h
  have hd' := hb hb' hd
  show Steps p.tables e below (T.setTop (mkF m pc (L.map (cs k)).toArray (.int x :: S.map (cv k)))) _
  jvm_step hA [hA.top, hx, hd', lookupswitch.wp_chain, ho, h0]
  refine ⟨?_, ht⟩
  simpa using hs
end Logic
end Jvm.Own
namespace Jvm.Own
open Sem ClassFile Op Lib Jvm.Stand Jvm.Free Jvm.LawKit Jvm.RoadKit
section Heap
variable {Z : State} {K : KTab} {h h' : Heap} {H : AHeap} {a b : Addr} {tb : List Cond} {a0 : Array Value}
theorem CellOk.ext {c : ACell} (E : Ext h h') (F : CellOk Z K h a c) : CellOk Z K h' a c := by
  cases c with
  | inl q =>
    obtain ⟨C, n, fs, h1, h2, h3, h4⟩ := F
    exact ⟨C, n, fs, h1, h2, h3.ext E, fun j f v hf hv => (h4 j f v hf hv).ext E⟩
  | inr q =>
    obtain ⟨cell, h1, h2⟩ := F
    exact ⟨cell, h1.ext E, h2⟩
theorem CellOk.other {c : ACell} {sl : Nat} {v : Value} (W : Wr h h' b sl v) (F : CellOk Z K h a c) (ne : a ≠ b) : CellOk Z K h' a c := by
  cases c with
  | inl q =>
    obtain ⟨C, n, fs, h1, h2, h3, h4⟩ := F
    exact ⟨C, n, fs, h1, h2, h3.wr W, fun j f v hf hv => (h4 j f v hf hv).other W (Or.inl ne)⟩
  | inr q =>
    obtain ⟨cell, h1, h2⟩ := F
    exact ⟨cell, h1.other W ne, h2⟩
theorem Rel.start (Z : State) (K : KTab) : Rel Z K Z.heap [] := ⟨rfl, fun i c q => by simp at q⟩
theorem Rel.push {c : ACell} {cell : Cell} (R : Rel Z K h H) (F : CellOk Z K (h.push cell) (Z.heap.size + H.length) c) : Rel Z K (h.push cell) (H ++ [c]) := by
  have E : Ext h (h.push cell) := ⟨by simp, fun x c q => by rw [Array.getElem?_push_lt (Array.getElem?_eq_some_iff.mp q).1]; exact (Array.getElem?_eq_getElem _).symm.trans q⟩
  refine ⟨by simp [R.1]; omega, fun i c' q => ?_⟩
  rcases Nat.lt_trichotomy i H.length with hi | hi | hi
  · rw [List.getElem?_append_left hi] at q
    exact (R.2 i c' q).ext E
  · subst hi
    rw [List.getElem?_append_right (Nat.le_refl _)] at q
    simp at q
    subst q
    exact F
  · rw [List.getElem?_append_right (Nat.le_of_lt hi)] at q
    rw [List.getElem?_eq_none (show 1 ≤ i - H.length from Nat.sub_pos_of_lt hi)] at q
    cases q
theorem Rel.set {c : ACell} {i sl : Nat} {v : Value} (R : Rel Z K h H) (W : Wr h h' (Z.heap.size + i) sl v) (F : CellOk Z K h' (Z.heap.size + i) c) : Rel Z K h' (H.set i c) := by
  refine ⟨by rw [W.size, List.length_set]; exact R.1, fun j c' q => ?_⟩
  by_cases e : j = i
  · subst e
    obtain ⟨hl, -⟩ := List.getElem?_eq_some_iff.mp q
    rw [List.getElem?_set_self (by simpa using hl)] at q
    cases q
    exact F
  · rw [List.getElem?_set_ne (Ne.symm e)] at q
    exact (R.2 j c' q).other W (fun q' => e (Nat.add_left_cancel q'))
theorem mem_of_get {q : String × Nat × List (String × String × String × FieldType)} {c : Nat} (hK : K[c]? = some q) : q ∈ K := List.mem_of_getElem? hK
theorem FOk.laid {C : String} {f : String × String × String × FieldType} (F : FOk tb C f) (hw : ∀ d ∈ tb, d.before a0 Z = true) : Laid Z a0 C f.1 f.2.1 f.2.2.1 := F.1.imp (hw _) (hw _)
theorem CellOk.put {c i j : Nat} {vs : List Value} {C : String} {n : Nat} {fs : List (String × String × String × FieldType)} {f : String × String × String × FieldType} {v : Value} (hKO : KOk tb K) (hw : ∀ d ∈ tb, d.before a0 Z = true) (hK : K[c]? = some (C, n, fs)) (hf : fs[j]? = some f)
    (W : Wr h h' a (RoadKit.slotOf Z f.1 f.2.1 f.2.2.1) (cv Z.heap.size v)) (F : CellOk Z K h a (.inl (c, vs))) : CellOk Z K h' a (.inl (c, vs.set j v)) := by
  obtain ⟨C', n', fs', h1, h2, h3, h4⟩ := F
  cases hK.symm.trans h1
  obtain ⟨k1, k2, k3⟩ := hKO _ (mem_of_get hK)
  refine ⟨C, n, fs, hK, by simpa using h2, h3.wr W, fun j' f' v' hf' hv' => ?_⟩
  by_cases e : j' = j
  · subst e
    cases hf.symm.trans hf'
    have hl : j' < vs.length := by rw [h2]; exact (List.getElem?_eq_some_iff.mp hf).1
    rw [List.getElem?_set_self hl] at hv'
    cases hv'
    obtain ⟨w, hw'⟩ : ∃ w, vs[j']? = some w := ⟨vs[j'], List.getElem?_eq_getElem hl⟩
    exact (h4 j' f w hf hw').same W
  · rw [List.getElem?_set_ne (Ne.symm e)] at hv'
    have m1 : f ∈ fs := List.mem_of_getElem? hf
    have m2 : f' ∈ fs := List.mem_of_getElem? hf'
    have hn : f'.2.1 ≠ f.2.1 := fun q => by
      have g1 : (fs.map fun f => f.2.1)[j']? = some f'.2.1 := by simp [hf']
      have g2 : (fs.map fun f => f.2.1)[j]? = some f.2.1 := by simp [hf]
      rw [q] at g1
      obtain ⟨l1, e1⟩ := List.getElem?_eq_some_iff.mp g1
      obtain ⟨l2, e2⟩ := List.getElem?_eq_some_iff.mp g2
      rcases Nat.lt_or_gt_of_ne e with lt | lt
      · exact (List.pairwise_iff_getElem.mp k3) j' j l1 l2 lt (e1.trans e2.symm)
      · exact (List.pairwise_iff_getElem.mp k3) j j' l2 l1 lt (e2.trans e1.symm)
    exact (h4 j' f' v' hf' hv').other W (Or.inr (slot_ne ((k2 f' m2).laid hw) ((k2 f m1).laid hw) hn (k2 f' m2).2 (k2 f m1).2))
theorem CellOk.sto {ty : FieldType} {vs : List Value} {j : Nat} {v : Value} (W : Wr h h' a j (cv Z.heap.size v)) (F : CellOk Z K h a (.inr (ty, vs))) (hv : fits ty v = true) : CellOk Z K h' a (.inr (ty, vs.set j v)) := by
  obtain ⟨cell, h1, h2, h3⟩ := F
  refine ⟨_, h1.same W, ?_, fun w hw => ?_⟩
  · simp [Cell.setSlot, h2, List.map_set]
  · rcases List.mem_or_eq_of_mem_set hw with q | q
    · exact h3 w q
    · exact q ▸ hv
end Heap
section Logic
variable {tb : List Cond} {K : KTab} {μ : Mth} {rm : Room} {pc : Nat} {L : List Slot} {S : List Value} {H : AHeap} {Q Q' : Option Value → AHeap → Prop}
theorem via_of {Z : State} {a0 : Array Value} (hw : ∀ d ∈ tb, d.before a0 Z = true) {R0 O n d : String} (via : R0 = O ∨ Cond.sameField R0 O n d ∈ tb) : Via Z R0 O n d := by
  rcases via with rfl | q
  · exact Via.refl
  · exact Via.of (hw _ q)
theorem W.getF {idx i j c n : Nat} {C R0 host : String} {fs : List (String × String × String × FieldType)} {vs : List Value} {f : String × String × String × FieldType} {v : Value} (hd : decode μ.2.1 pc = .ok (.getfield idx, 3))
    (w : Cond.fieldLink μ.1.cls idx R0 f.2.1 f.2.2.1 ∈ tb ∨ Cond.fieldLinkNest μ.1.cls idx R0 f.2.1 f.2.2.1 host ∈ tb) (via : R0 = f.1 ∨ Cond.sameField R0 f.1 f.2.1 f.2.2.1 ∈ tb) (hK : K[c]? = some (C, n, fs)) (hf : fs[j]? = some f) (hH : H[i]? = some (.inl (c, vs))) (hv : vs[j]? = some v)
    (h : W tb K μ rm (pc + 3) L (v :: S) H Q) : W tb K μ rm pc L (.ref i :: S) H Q := by
  intro hL Z a0 p l e R s m args below meth c' T locs cells slots X
  obtain ⟨X0, hx, hZ, hw, hby, hml, hrt, hnm, hlk, hown, hR, hr⟩ := X
  obtain ⟨C', n', fs', k1, k2, k3, k4⟩ := hR.2 _ _ hH
  cases hK.symm.trans k1
  have F := k4 j f v hf hv
  obtain ⟨T1, X1, e1, st⟩ := RoadKit.getF X0 hx hZ hown (w.imp (hw _) (hw _)) (via_of hw via) rfl F (g := mkF m pc (L.map (cs Z.heap.size)).toArray ((Value.ref i :: S).map (cv Z.heap.size))) rfl rfl (hb hby hd)
  exact (h hL Z a0 p l e R s m args below meth c' T1 locs cells slots ⟨X1, hx, hZ, hw, hby, hml, hrt, hnm, hlk, hown, e1 ▸ hR, hr⟩).steps st
theorem W.putF {idx i j c n : Nat} {C R0 host : String} {fs : List (String × String × String × FieldType)} {vs : List Value} {f : String × String × String × FieldType} {v : Value} (hKO : KOk tb K) (hd : decode μ.2.1 pc = .ok (.putfield idx, 3))
    (w : Cond.fieldLink μ.1.cls idx R0 f.2.1 f.2.2.1 ∈ tb ∨ Cond.fieldLinkNest μ.1.cls idx R0 f.2.1 f.2.2.1 host ∈ tb) (via : R0 = f.1 ∨ Cond.sameField R0 f.1 f.2.1 f.2.2.1 ∈ tb) (hK : K[c]? = some (C, n, fs)) (hf : fs[j]? = some f)
    (la : Cond.lays C f.1 f.2.1 f.2.2.1 ∈ tb ∨ (Cond.laysFinal C f.1 f.2.1 f.2.2.1 ∈ tb ∧ μ.1.cls = f.1 ∧ μ.1.name = "<init>")) (hn : narrow f.2.2.2 v = v) (hfi : fits f.2.2.2 v = true) (hH : H[i]? = some (.inl (c, vs)))
    (h : W tb K μ rm (pc + 3) L S (H.set i (.inl (c, vs.set j v))) Q) : W tb K μ rm pc L (v :: .ref i :: S) H Q := by
  intro hL Z a0 p l e R s m args below meth c' T locs cells slots X
  obtain ⟨X0, hx, hZ, hw, hby, hml, hrt, hnm, hlk, hown, hR, hFr, hr⟩ := X
  have CO := hR.2 _ _ hH
  obtain ⟨C', n', fs', k1, k2, k3, k4⟩ := CO
  cases hK.symm.trans k1
  have hl : j < vs.length := by rw [k2]; exact (List.getElem?_eq_some_iff.mp hf).1
  have F := k4 j f vs[j] hf (List.getElem?_eq_getElem hl)
  obtain ⟨o1, o2, o3⟩ := hKO _ (mem_of_get hK)
  obtain ⟨T1, h1, X1, e1, W1, st⟩ := RoadKit.putF X0 hx hZ hown (w.imp (hw _) (hw _)) (via_of hw via) rfl F k3 (la.imp (hw _) fun q => ⟨hw _ q.1, q.2.1, hnm.trans q.2.2⟩) (hw _ o1) (o2 f (List.mem_of_getElem? hf)).2 (v := cv Z.heap.size v) (by rw [cv_narrow, hn]) (by rw [cv_fits]; exact hfi) (g := mkF m pc (L.map (cs Z.heap.size)).toArray ((v :: Value.ref i :: S).map (cv Z.heap.size))) rfl rfl (hb hby hd)
  exact (h hL Z a0 p l e R s m args below meth c' T1 _ cells slots ⟨X1, hx, hZ, hw, hby, hml, hrt, hnm, hlk, hown, e1 ▸ hR.set W1 (CellOk.put (i := i) hKO hw hK hf W1 (hR.2 _ _ hH)), Fr.snoc X1 hFr (Nat.le_add_right _ _), hr⟩).steps st
/-- a field of a boolean, byte, char or short -/
theorem W.putFN {idx i j c n : Nat} {C R0 : String} {fs : List (String × String × String × FieldType)} {vs : List Value} {f : String × String × String × FieldType} {v v' : Value} (hKO : KOk tb K) (hd : decode μ.2.1 pc = .ok (.putfield idx, 3))
    (w : Cond.fieldLink μ.1.cls idx R0 f.2.1 f.2.2.1 ∈ tb) (via : R0 = f.1 ∨ Cond.sameField R0 f.1 f.2.1 f.2.2.1 ∈ tb) (hK : K[c]? = some (C, n, fs)) (hf : fs[j]? = some f)
    (la : Cond.lays C f.1 f.2.1 f.2.2.1 ∈ tb ∨ (Cond.laysFinal C f.1 f.2.1 f.2.2.1 ∈ tb ∧ μ.1.cls = f.1 ∧ μ.1.name = "<init>")) (hn : narrow f.2.2.2 v = v') (hfi : fits f.2.2.2 v' = true) (hH : H[i]? = some (.inl (c, vs)))
    (h : W tb K μ rm (pc + 3) L S (H.set i (.inl (c, vs.set j v'))) Q) : W tb K μ rm pc L (v :: .ref i :: S) H Q := by
  intro hL Z a0 p l e R s m args below meth c' T locs cells slots X
  obtain ⟨X0, hx, hZ, hw, hby, hml, hrt, hnm, hlk, hown, hR, hFr, hr⟩ := X
  have CO := hR.2 _ _ hH
  obtain ⟨C', n', fs', k1, k2, k3, k4⟩ := CO
  cases hK.symm.trans k1
  have hl : j < vs.length := by rw [k2]; exact (List.getElem?_eq_some_iff.mp hf).1
  have F := k4 j f vs[j] hf (List.getElem?_eq_getElem hl)
  obtain ⟨o1, o2, o3⟩ := hKO _ (mem_of_get hK)
  obtain ⟨T1, h1, X1, e1, W1, st⟩ := RoadKit.putFN X0 hx hZ hown (hw _ w) (via_of hw via) rfl F k3 (la.imp (hw _) fun q => ⟨hw _ q.1, q.2.1, hnm.trans q.2.2⟩) (hw _ o1) (o2 f (List.mem_of_getElem? hf)).2 (v := cv Z.heap.size v) (v' := cv Z.heap.size v') (by rw [cv_narrow, hn]) (by rw [cv_fits]; exact hfi) (g := mkF m pc (L.map (cs Z.heap.size)).toArray ((v :: Value.ref i :: S).map (cv Z.heap.size))) rfl rfl (hb hby hd)
  exact (h hL Z a0 p l e R s m args below meth c' T1 _ cells slots ⟨X1, hx, hZ, hw, hby, hml, hrt, hnm, hlk, hown, e1 ▸ hR.set W1 (CellOk.put (i := i) hKO hw hK hf W1 (hR.2 _ _ hH)), Fr.snoc X1 hFr (Nat.le_add_right _ _), hr⟩).steps st
/-- the index j is the natural N -/
abbrev ix (j : Int32) (N : Nat) : Prop := ¬ j < 0 ∧ j.toNatClampNeg = N
theorem ix_ofNat {N : Nat} (h : N < 2 ^ 31) : ix (Int32.ofNat N) N := by
  have e : (Int32.ofNat N).toInt = N := Int32.toInt_ofNat_of_lt h
  refine ⟨?_, ?_⟩
  · rw [Int32.lt_iff_toInt_lt, e]; simp
  · rw [Int32.toNatClampNeg, e]; rfl
theorem inb {cell : Cell} {j : Int32} {N : Nat} {vs : List Value} {k : Nat} (k2 : cell.slots = (vs.map (cv k)).toArray) (hj : ¬ j < 0) (hN : j.toNatClampNeg = N) (hl : N < vs.length) : ¬ (j < 0 ∨ cell.slots.size ≤ j.toNatClampNeg) := by
  rw [k2, hN]; simp; exact ⟨by simpa using hj, hl⟩
/-- room for an object of n slots -/
def nok (rm : Room) (n : Nat) : Bool := Nat.ble 1 rm.cells && (Nat.ble n rm.slots && Nat.ble n 67108864)
theorem nok_spec {rm : Room} {n : Nat} (h : nok rm n = true) : 1 ≤ rm.cells ∧ n ≤ rm.slots ∧ n * 8 ≤ 536870912 := by
  simp only [nok, Bool.and_eq_true, Nat.ble_eq] at h
  omega
theorem W.new {idx c n i : Nat} {C : String} {fs : List (String × String × String × FieldType)} (hKO : KOk tb K) (hd : decode μ.2.1 pc = .ok (.new idx, 3)) (w : Cond.classLink μ.1.cls idx C ∈ tb) (wz : Cond.initialized C ∈ tb) (hK : K[c]? = some (C, n, fs)) (hi : H.length = i) (hr : nok rm n = true)
    (h : W tb K μ ⟨rm.frames, rm.cells - 1, rm.slots - n, rm.locals⟩ (pc + 3) L (.ref i :: S) (H ++ [.inl (c, fs.map fun f => defaultValue f.2.2.2)]) Q) : W tb K μ rm pc L S H Q := by
  intro hL Z a0 p l e R s m args below meth c' T locs cells slots X
  obtain ⟨X0, hx, hZ, hw, hby, hml, hrt, hnm, hlk, hown, hR, hFr, hr1, hr2, hr3, hr4⟩ := X
  obtain ⟨hc, hs, hb'⟩ := nok_spec hr
  obtain ⟨o1, o2, o3⟩ := hKO _ (mem_of_get hK)
  obtain ⟨vm', cC, kC, h1, h2, h3, h4, X', st⟩ := X0.newCold hx hown (mv hZ (hw _ w)) (mv hZ (hw _ (show Cond.instantiable C n ∈ tb from o1))) (mv hZ (hw _ wz)) (g := mkF m pc (L.map (cs Z.heap.size)).toArray (S.map (cv Z.heap.size))) rfl (hb hby hd) (by omega) (by omega)
  rw [hZ.alike.findClass] at h1
  obtain ⟨kZ, z1, -⟩ := Vm.findClass_spec h1
  obtain ⟨k', z2, z3⟩ := hZ.alike.2.2 _ _ z1
  cases h2.symm.trans z2
  have ei : kC.instanceTypes = kZ.instanceTypes := by rw [z3]
  have hN : (T.heap.push { cls := cC, slots := kC.instanceTypes.map defaultValue, vm := .none })[T.heap.size]? = some { cls := cC, slots := kC.instanceTypes.map defaultValue, vm := .none } := by simp
  have ea : Z.heap.size + i = T.heap.size := by rw [hR.1, hi]
  have CO : CellOk Z K (T.heap.push { cls := cC, slots := kC.instanceTypes.map defaultValue, vm := .none }) (Z.heap.size + H.length) (.inl (c, fs.map fun f => defaultValue f.2.2.2)) := by
    refine ⟨C, n, fs, hK, by simp, ⟨_, kZ, by rw [← hR.1]; exact hN, h1, z1, rfl, fun _ => by simp [ei]⟩, fun j f v hf hv => ?_⟩
    have hv' : v = defaultValue f.2.2.2 := by simpa [hf] using hv.symm
    subst hv'
    obtain ⟨f1, f2⟩ := o2 f (List.mem_of_getElem? hf)
    obtain ⟨c1, k1, cf, kf, i1, ff, b1, b2, b3, b4, b5, b6, -⟩ := (FOk.laid ⟨f1, f2⟩ hw).spec
    cases h1.symm.trans b1
    cases z1.symm.trans b2
    rw [cv_default]
    exact ⟨_, cf, kf, i1, ff, by rw [← hR.1]; exact hN, b3, b4, by simp, rfl, b5, by simp [ei, b6, (State.fieldFound?_type b3 f2).2]⟩
  have := h hL Z a0 p l e R s m args below meth c' _ locs (cells + 1) (slots + n) ⟨X', hx, hZ, hw, hby, hml, hrt, hnm, hlk, hown, hR.push CO, hFr, hr1, by show cells + 1 + (rm.cells - 1) ≤ _; omega, by show slots + n + (rm.slots - n) ≤ _; omega, hr4⟩
  refine this.steps fun t ht => st t ?_
  rw [← ea]; exact ht
theorem W.newarray {aty : ArrayType} {ty : FieldType} {N i : Nat} {n : Int32} {d : Value} (hd : decode μ.2.1 pc = .ok (.newarray aty, 2)) (hty : newarray.typeOf aty = ty) (w : Cond.arrayClass ty ∈ tb) (hdv : defaultValue ty = d) (hn : ix n N) (hi : H.length = i) (hr : nok rm N = true)
    (h : W tb K μ ⟨rm.frames, rm.cells - 1, rm.slots - N, rm.locals⟩ (pc + 2) L (.ref i :: S) (H ++ [.inr (ty, List.replicate N d)]) Q) : W tb K μ rm pc L (.int n :: S) H Q := by
  intro hL Z a0 p l e R s m args below meth c' T locs cells slots X
  obtain ⟨X0, hx, hZ, hw, hby, hml, hrt, hnm, hlk, hown, hR, hFr, hr1, hr2, hr3, hr4⟩ := X
  obtain ⟨hn, hN⟩ := hn
  subst hty hdv hN
  obtain ⟨hc, hs, hb'⟩ := nok_spec hr
  have hcb : componentBytes (newarray.typeOf aty) ≤ 8 := by cases aty <;> decide
  obtain ⟨cA, kA, comp, h1, h2, h3, X', st⟩ := X0.newarrayPrim hx (mvA hZ (hw _ w)) (g := mkF m pc (L.map (cs Z.heap.size)).toArray ((Value.int n :: S).map (cv Z.heap.size))) rfl (hb hby hd) (n := n) rfl hn (Nat.le_trans (Nat.mul_le_mul (Nat.le_refl _) hcb) hb') (by omega) (by omega)
  rw [hZ.alike.findClass] at h1
  obtain ⟨kZ, z1, -⟩ := Vm.findClass_spec h1
  obtain ⟨k', z2, z3⟩ := hZ.alike.2.2 _ _ z1
  cases h2.symm.trans z2
  have hN : (T.heap.push { cls := cA, slots := Array.replicate n.toNatClampNeg (defaultValue (newarray.typeOf aty)), vm := .none })[T.heap.size]? = some { cls := cA, slots := Array.replicate n.toNatClampNeg (defaultValue (newarray.typeOf aty)), vm := .none } := by simp
  have ea : Z.heap.size + i = T.heap.size := by rw [hR.1, hi]
  have CO : CellOk Z K (T.heap.push { cls := cA, slots := Array.replicate n.toNatClampNeg (defaultValue (newarray.typeOf aty)), vm := .none }) (Z.heap.size + H.length) (.inr (newarray.typeOf aty, List.replicate n.toNatClampNeg (defaultValue (newarray.typeOf aty)))) := by
    refine ⟨_, ⟨by rw [← hR.1]; exact hN, ⟨by simp, kZ, z1, comp, by rw [← h3, z3]⟩, by simp⟩, by simp [cv_default], fun v hv => ?_⟩
    rw [(List.mem_replicate.mp hv).2]
    cases aty <;> rfl
  have := h hL Z a0 p l e R s m args below meth c' _ locs (cells + 1) (slots + n.toNatClampNeg) ⟨X', hx, hZ, hw, hby, hml, hrt, hnm, hlk, hown, hR.push CO, hFr, hr1, by show cells + 1 + (rm.cells - 1) ≤ _; omega, by show slots + n.toNatClampNeg + (rm.slots - n.toNatClampNeg) ≤ _; omega, hr4⟩
  refine this.steps fun t ht => st t ?_
  rw [← ea]; exact ht
theorem W.arraylength {i : Nat} {ty : FieldType} {vs : List Value} (hd : decode μ.2.1 pc = .ok (.arraylength, 1)) (hH : H[i]? = some (.inr (ty, vs))) (h : W tb K μ rm (pc + 1) L (.int (Int32.ofNat vs.length) :: S) H Q) : W tb K μ rm pc L (.ref i :: S) H Q := by
  intro hL Z a0 p l e R s m args below meth c' T locs cells slots X
  have X' := X
  obtain ⟨X0, hx, hZ, hw, hby, hml, hrt, hnm, hlk, hown, hR, hr⟩ := X
  obtain ⟨cell, A, k2, k3⟩ := hR.2 _ _ hH
  refine (h hL Z a0 p l e R s m args below meth c' T locs cells slots X').steps fun t ht => ?_
  refine X0.arraylength hx A.1 (State.isArrayOf_alike hZ.alike A.2.1) (g := mkF m pc (L.map (cs Z.heap.size)).toArray ((Value.ref i :: S).map (cv Z.heap.size))) rfl rfl (hb hby hd) t ?_
  have e : cell.slots.size.toInt32 = Int32.ofNat vs.length := by rw [k2]; simp
  rw [e]; exact ht
theorem W.xaload {ins : Instr} {ty : FieldType} (hk : (ins = .iaload ∧ ty = .int) ∨ (ins = .laload ∧ ty = .long) ∨ (ins = .baload ∧ (ty = .byte ∨ ty = .boolean))) {i N : Nat} {j : Int32} {vs : List Value} {v : Value} (hd : decode μ.2.1 pc = .ok (ins, 1)) (hH : H[i]? = some (.inr (ty, vs))) (hj : ix j N) (hv : vs[N]? = some v)
    (h : W tb K μ rm (pc + 1) L (v :: S) H Q) : W tb K μ rm pc L (.int j :: .ref i :: S) H Q := by
  intro hL Z a0 p l e R s m args below meth c' T locs cells slots X
  have X' := X
  obtain ⟨X0, hx, hZ, hw, hby, hml, hrt, hnm, hlk, hown, hR, hr⟩ := X
  obtain ⟨cell, A, k2, k3⟩ := hR.2 _ _ hH
  have hN := hj.2
  have hin := inb k2 hj.1 hN (List.getElem?_eq_some_iff.mp hv).1
  have hv' : cell.slots[j.toNatClampNeg]? = some (cv Z.heap.size v) := by rw [k2, hN]; simp [hv]
  refine (h hL Z a0 p l e R s m args below meth c' T locs cells slots X').steps fun t ht => ?_
  rcases hk with ⟨rfl, rfl⟩ | ⟨rfl, rfl⟩ | ⟨rfl, rfl | rfl⟩
  · exact X0.iaload hx A.1 (State.isArrayOf_alike hZ.alike A.2.1) A.2.2 hin hv' (g := mkF m pc (L.map (cs Z.heap.size)).toArray ((Value.int j :: Value.ref i :: S).map (cv Z.heap.size))) rfl rfl (hb hby hd) t ht
  · exact X0.laload hx A.1 (State.isArrayOf_alike hZ.alike A.2.1) A.2.2 hin hv' (g := mkF m pc (L.map (cs Z.heap.size)).toArray ((Value.int j :: Value.ref i :: S).map (cv Z.heap.size))) rfl rfl (hb hby hd) t ht
  · exact X0.baloadBytes hx A.1 (State.isArrayOf_alike hZ.alike A.2.1) A.2.2 hin hv' (g := mkF m pc (L.map (cs Z.heap.size)).toArray ((Value.int j :: Value.ref i :: S).map (cv Z.heap.size))) rfl rfl (hb hby hd) t ht
  · exact X0.baloadBooleans hx A.1 (State.isArrayOf_alike hZ.alike A.2.1) A.2.2 hin hv' (g := mkF m pc (L.map (cs Z.heap.size)).toArray ((Value.int j :: Value.ref i :: S).map (cv Z.heap.size))) rfl rfl (hb hby hd) t ht
theorem W.iastore {i N : Nat} {j x : Int32} {vs : List Value} (hd : decode μ.2.1 pc = .ok (.iastore, 1)) (hH : H[i]? = some (.inr (.int, vs))) (hj : ix j N) (hl : Nat.blt N vs.length = true)
    (h : W tb K μ rm (pc + 1) L S (H.set i (.inr (.int, vs.set N (.int x)))) Q) : W tb K μ rm pc L (.int x :: .int j :: .ref i :: S) H Q := by
  intro hL Z a0 p l e R s m args below meth c' T locs cells slots X
  obtain ⟨X0, hx, hZ, hw, hby, hml, hrt, hnm, hlk, hown, hR, hFr, hr⟩ := X
  have CO := hR.2 _ _ hH
  obtain ⟨cell, A, k2, k3⟩ := CO
  obtain ⟨T1, h1, X1, e1, W1, st⟩ := stI X0 hx hZ rfl A (inb k2 hj.1 hj.2 (Nat.blt_eq.mp hl)) (g := mkF m pc (L.map (cs Z.heap.size)).toArray ((Value.int x :: Value.int j :: Value.ref i :: S).map (cv Z.heap.size))) rfl rfl (hb hby hd)
  rw [hj.2] at W1
  exact (h hL Z a0 p l e R s m args below meth c' T1 _ cells slots ⟨X1, hx, hZ, hw, hby, hml, hrt, hnm, hlk, hown, e1 ▸ hR.set W1 (CellOk.sto (v := .int x) W1 (hR.2 _ _ hH) rfl), Fr.snoc X1 hFr (Nat.le_add_right _ _), hr⟩).steps st
theorem W.lastore {i N : Nat} {j : Int32} {x : Int64} {vs : List Value} (hd : decode μ.2.1 pc = .ok (.lastore, 1)) (hH : H[i]? = some (.inr (.long, vs))) (hj : ix j N) (hl : Nat.blt N vs.length = true)
    (h : W tb K μ rm (pc + 1) L S (H.set i (.inr (.long, vs.set N (.long x)))) Q) : W tb K μ rm pc L (.long x :: .int j :: .ref i :: S) H Q := by
  intro hL Z a0 p l e R s m args below meth c' T locs cells slots X
  obtain ⟨X0, hx, hZ, hw, hby, hml, hrt, hnm, hlk, hown, hR, hFr, hr⟩ := X
  have CO := hR.2 _ _ hH
  obtain ⟨cell, A, k2, k3⟩ := CO
  obtain ⟨T1, h1, X1, e1, W1, st⟩ := stJ X0 hx hZ rfl A (inb k2 hj.1 hj.2 (Nat.blt_eq.mp hl)) (g := mkF m pc (L.map (cs Z.heap.size)).toArray ((Value.long x :: Value.int j :: Value.ref i :: S).map (cv Z.heap.size))) rfl rfl (hb hby hd)
  rw [hj.2] at W1
  exact (h hL Z a0 p l e R s m args below meth c' T1 _ cells slots ⟨X1, hx, hZ, hw, hby, hml, hrt, hnm, hlk, hown, e1 ▸ hR.set W1 (CellOk.sto (v := .long x) W1 (hR.2 _ _ hH) rfl), Fr.snoc X1 hFr (Nat.le_add_right _ _), hr⟩).steps st
theorem W.bastore {i N : Nat} {j x : Int32} {vs : List Value} (hd : decode μ.2.1 pc = .ok (.bastore, 1)) (hH : H[i]? = some (.inr (.byte, vs))) (hj : ix j N) (hl : Nat.blt N vs.length = true)
    (h : W tb K μ rm (pc + 1) L S (H.set i (.inr (.byte, vs.set N (.int x.toInt8.toInt32)))) Q) : W tb K μ rm pc L (.int x :: .int j :: .ref i :: S) H Q := by
  intro hL Z a0 p l e R s m args below meth c' T locs cells slots X
  obtain ⟨X0, hx, hZ, hw, hby, hml, hrt, hnm, hlk, hown, hR, hFr, hr⟩ := X
  have CO := hR.2 _ _ hH
  obtain ⟨cell, A, k2, k3⟩ := CO
  obtain ⟨T1, h1, X1, e1, W1, st⟩ := stB X0 hx hZ rfl A (inb k2 hj.1 hj.2 (Nat.blt_eq.mp hl)) (g := mkF m pc (L.map (cs Z.heap.size)).toArray ((Value.int x :: Value.int j :: Value.ref i :: S).map (cv Z.heap.size))) rfl rfl (hb hby hd)
  rw [hj.2] at W1
  exact (h hL Z a0 p l e R s m args below meth c' T1 _ cells slots ⟨X1, hx, hZ, hw, hby, hml, hrt, hnm, hlk, hown, e1 ▸ hR.set W1 (CellOk.sto (v := .int x.toInt8.toInt32) W1 (hR.2 _ _ hH) (fits_nar_byte x)), Fr.snoc X1 hFr (Nat.le_add_right _ _), hr⟩).steps st
theorem W.bastoreZ {i N : Nat} {j x : Int32} {vs : List Value} (hd : decode μ.2.1 pc = .ok (.bastore, 1)) (hH : H[i]? = some (.inr (.boolean, vs))) (hj : ix j N) (hl : Nat.blt N vs.length = true)
    (h : W tb K μ rm (pc + 1) L S (H.set i (.inr (.boolean, vs.set N (.int (x &&& 1))))) Q) : W tb K μ rm pc L (.int x :: .int j :: .ref i :: S) H Q := by
  intro hL Z a0 p l e R s m args below meth c' T locs cells slots X
  obtain ⟨X0, hx, hZ, hw, hby, hml, hrt, hnm, hlk, hown, hR, hFr, hr⟩ := X
  have CO := hR.2 _ _ hH
  obtain ⟨cell, A, k2, k3⟩ := CO
  obtain ⟨T1, h1, X1, e1, W1, st⟩ := stZ X0 hx hZ rfl A (inb k2 hj.1 hj.2 (Nat.blt_eq.mp hl)) (g := mkF m pc (L.map (cs Z.heap.size)).toArray ((Value.int x :: Value.int j :: Value.ref i :: S).map (cv Z.heap.size))) rfl rfl (hb hby hd)
  rw [hj.2] at W1
  exact (h hL Z a0 p l e R s m args below meth c' T1 _ cells slots ⟨X1, hx, hZ, hw, hby, hml, hrt, hnm, hlk, hown, e1 ▸ hR.set W1 (CellOk.sto (v := .int (x &&& 1)) W1 (hR.2 _ _ hH) (fits_nar_bool x)), Fr.snoc X1 hFr (Nat.le_add_right _ _), hr⟩).steps st
theorem W.ldcInt {idx : Nat} {x : Int32} (hd : decode μ.2.1 pc = .ok (.ldc idx, 2)) (w : Cond.constant μ.1.cls idx x ∈ tb) (h : W tb K μ rm (pc + 2) L (.int x :: S) H Q) : W tb K μ rm pc L S H Q := by
  intro hL Z a0 p l e R s m args below meth c' T locs cells slots X
  have X' := X
  obtain ⟨X0, hx, hZ, hw, hby, hml, hrt, hnm, hlk, hown, hR, hr⟩ := X
  exact (h hL Z a0 p l e R s m args below meth c' T locs cells slots X').steps (X0.ldcInt hx hown (mvT hZ (hw _ w)) (g := mkF m pc (L.map (cs Z.heap.size)).toArray (S.map (cv Z.heap.size))) rfl (hb hby hd))
theorem W.ldcLong {idx : Nat} {x : Int64} (hd : decode μ.2.1 pc = .ok (.ldc2_w idx, 3)) (w : Cond.constantLong μ.1.cls idx x ∈ tb) (h : W tb K μ rm (pc + 3) L (.long x :: S) H Q) : W tb K μ rm pc L S H Q := by
  intro hL Z a0 p l e R s m args below meth c' T locs cells slots X
  have X' := X
  obtain ⟨X0, hx, hZ, hw, hby, hml, hrt, hnm, hlk, hown, hR, hr⟩ := X
  exact (h hL Z a0 p l e R s m args below meth c' T locs cells slots X').steps (X0.ldc2Long hx hown (mvT hZ (hw _ w)) (g := mkF m pc (L.map (cs Z.heap.size)).toArray (S.map (cv Z.heap.size))) rfl (hb hby hd))
end Logic
end Jvm.Own
namespace Jvm.Own
open Sem ClassFile Op Lib Jvm.Stand Jvm.Free Jvm.LawKit Jvm.RoadKit
section Logic
variable {tb : List Cond} {K : KTab} {μ μ' : Mth} {rm rm' : Room} {pc : Nat} {L : List Slot} {S : List Value} {H : AHeap} {Q Q' : Option Value → AHeap → Prop}
theorem W.ret_ (hd : decode μ.2.1 pc = .ok (.return_, 1)) (hr0 : μ.2.2.2 = none) (hQ : Q none H) : W tb K μ rm pc L [] H Q := by
  intro hL Z a0 p l e R s m args below meth c' T locs cells slots X
  obtain ⟨X0, hx, hZ, hw, hby, hml, hrt, hnm, hlk, hown, hR, hFr, hr1, hr2, hr3, hr4⟩ := X
  obtain ⟨fs, hr, hrun, hended, hW, hsame⟩ := X0.leave (v := none) (fun _ => rfl) hlk
  exact ⟨none, H, T, locs, fs, hQ, X0.returnOut hx (hrt.trans hr0) (hb hby hd) hr, hrun, hended, hW, hsame.mono (by omega) (by omega), hFr, hR⟩
theorem W.ireturn {x : Int32} (hd : decode μ.2.1 pc = .ok (.ireturn, 1)) (hr0 : μ.2.2.2 = some .int) (hQ : Q (some (.int x)) H) : W tb K μ rm pc L (.int x :: S) H Q := by
  intro hL Z a0 p l e R s m args below meth c' T locs cells slots X
  obtain ⟨X0, hx, hZ, hw, hby, hml, hrt, hnm, hlk, hown, hR, hFr, hr1, hr2, hr3, hr4⟩ := X
  obtain ⟨fs, hr, hrun, hended, hW, hsame⟩ := X0.leave (v := some (.int x)) (fun h => by rw [hrt, hr0] at h; cases h) hlk
  exact ⟨some (.int x), H, T, locs, fs, hQ, retOut X0 hx (hrt.trans hr0) rfl (Or.inl ⟨rfl, Or.inl rfl, _, rfl⟩) (hb hby hd) hr, hrun, hended, hW, hsame.mono (by omega) (by omega), hFr, hR⟩
theorem W.ireturnN {t : FieldType} {x : Int32} (hd : decode μ.2.1 pc = .ok (.ireturn, 1)) (hr0 : μ.2.2.2 = some t) (ht : t = .boolean ∨ t = .byte ∨ t = .char ∨ t = .short) (hQ : Q (some (.int (nar t x))) H) : W tb K μ rm pc L (.int x :: S) H Q := by
  intro hL Z a0 p l e R s m args below meth c' T locs cells slots X
  obtain ⟨X0, hx, hZ, hw, hby, hml, hrt, hnm, hlk, hown, hR, hFr, hr1, hr2, hr3, hr4⟩ := X
  obtain ⟨fs, hr, hrun, hended, hW, hsame⟩ := X0.leave (v := some (.int (nar t x))) (fun h => by rw [hrt, hr0] at h; cases h) hlk
  exact ⟨some (.int (nar t x)), H, T, locs, fs, hQ, retN X0 hx (hrt.trans hr0) ht (hb hby hd) hr, hrun, hended, hW, hsame.mono (by omega) (by omega), hFr, hR⟩
theorem W.ireturnZ {x : Int32} (hd : decode μ.2.1 pc = .ok (.ireturn, 1)) (hr0 : μ.2.2.2 = some .boolean) (hQ : Q (some (.int (x &&& 1))) H) : W tb K μ rm pc L (.int x :: S) H Q := W.ireturnN hd hr0 (Or.inl rfl) hQ
theorem W.lreturn {x : Int64} (hd : decode μ.2.1 pc = .ok (.lreturn, 1)) (hr0 : μ.2.2.2 = some .long) (hQ : Q (some (.long x)) H) : W tb K μ rm pc L (.long x :: S) H Q := by
  intro hL Z a0 p l e R s m args below meth c' T locs cells slots X
  obtain ⟨X0, hx, hZ, hw, hby, hml, hrt, hnm, hlk, hown, hR, hFr, hr1, hr2, hr3, hr4⟩ := X
  obtain ⟨fs, hr, hrun, hended, hW, hsame⟩ := X0.leave (v := some (.long x)) (fun h => by rw [hrt, hr0] at h; cases h) hlk
  exact ⟨some (.long x), H, T, locs, fs, hQ, retOut X0 hx (hrt.trans hr0) rfl (Or.inr (Or.inl ⟨rfl, rfl, _, rfl⟩)) (hb hby hd) hr, hrun, hended, hW, hsame.mono (by omega) (by omega), hFr, hR⟩
theorem W.areturn {t : FieldType} {v : Value} (hd : decode μ.2.1 pc = .ok (.areturn, 1)) (hr0 : μ.2.2.2 = some t) (ht : t.isReference = true) (hv : v.isRef = true) (hQ : Q (some v) H) : W tb K μ rm pc L (v :: S) H Q := by
  intro hL Z a0 p l e R s m args below meth c' T locs cells slots X
  obtain ⟨X0, hx, hZ, hw, hby, hml, hrt, hnm, hlk, hown, hR, hFr, hr1, hr2, hr3, hr4⟩ := X
  obtain ⟨fs, hr, hrun, hended, hW, hsame⟩ := X0.leave (v := some (cv Z.heap.size v)) (fun h => by rw [hrt, hr0] at h; cases h) hlk
  exact ⟨some v, H, T, locs, fs, hQ, retOut X0 hx (hrt.trans hr0) (by cases v <;> first | (cases t <;> rfl) | cases hv) (Or.inr (Or.inr (Or.inr (Or.inr ⟨rfl, ht, by rw [cv_isRef]; exact hv⟩)))) (hb hby hd) hr, hrun, hended, hW, hsame.mono (by omega) (by omega), hFr, hR⟩
/-- what a call leaves of the room -/
abbrev less (rm rm' : Room) : Room := ⟨rm.frames, rm.cells - rm'.cells, rm.slots - rm'.slots, rm.locals⟩
abbrev wt (S : List Value) : Nat := (S.map fun v => v.category).sum
abbrev plainCls (μ' : Mth) : Prop := μ'.1.cls ≠ "java/lang/invoke/MethodHandle" ∧ μ'.1.cls ≠ "java/lang/invoke/VarHandle"
/-- room for a call: S stays on the stack, n locals -/
def rok (rm rm' : Room) (n : Nat) (S : List Value) : Bool := Nat.ble (rm'.frames + 1) rm.frames && (Nat.ble (wt S + (n + 11) + rm'.locals) rm.locals && (Nat.ble rm'.cells rm.cells && Nat.ble rm'.slots rm.slots))
theorem rok_spec {rm rm' : Room} {n : Nat} {S : List Value} (h : rok rm rm' n S = true) : rm'.frames + 1 ≤ rm.frames ∧ wt S + (n + 11) + rm'.locals ≤ rm.locals ∧ rm'.cells ≤ rm.cells ∧ rm'.slots ≤ rm.slots := by
  simp only [rok, Bool.and_eq_true, Nat.ble_eq] at h
  exact h
/-- room for Object's constructor -/
def iok (rm : Room) (S : List Value) : Bool := Nat.ble 1 rm.frames && Nat.ble (wt S + 12) rm.locals
/-- a callee that answers one value and leaves one heap -/
abbrev Is (v0 : Option Value) (H0 : AHeap) : Option Value → AHeap → Prop := fun v H => v = v0 ∧ H = H0
theorem hs {H : AHeap} {i : Nat} {c c' : ACell} (h : H[i]? = some c) : (H.set i c')[i]? = some c' := List.getElem?_set_self (List.getElem?_eq_some_iff.mp h).1
theorem hn {H : AHeap} {i j : Nat} {c c' : ACell} (h : H[j]? = some c) (ne : i ≠ j) : (H.set i c')[j]? = some c := by rw [List.getElem?_set_ne ne]; exact h
theorem ha {H H' : AHeap} {j : Nat} {c : ACell} (h : H[j]? = some c) : (H ++ H')[j]? = some c := by rw [List.getElem?_append_left (List.getElem?_eq_some_iff.mp h).1]; exact h
theorem back_st (k : Nat) (v : Option Value) (S : List Value) : (v.map (cv k)).toList ++ S.map (cv k) = (v.toList ++ S).map (cv k) := by cases v <;> rfl
theorem W.callS {idx : Nat} {as : List Value} {S0 : List Value} {ps : List FieldType} {r : Option FieldType} (hd : decode μ.2.1 pc = .ok (.invokestatic idx, 3)) (w1 : Cond.methodLink μ.1.cls idx μ'.1 ∈ tb) (w2 : Cond.static μ'.1 ∈ tb) (w3 : Cond.initialized μ'.1.cls ∈ tb) (w4 : Cond.code μ'.1 μ'.2.1 μ'.2.2.1 μ'.2.2.2 ∈ tb) (hy : plainCls μ')
    (hp : parseMethodDescriptor μ'.1.desc = some ⟨ps, r⟩) (hlen : as.length = ps.length) (hS : S0 = as.reverse ++ S) (hM : M tb K μ' rm' as H Q') (hr : rok rm rm' μ'.2.2.1 S = true)
    (h : ∀ v H', Q' v H' → W tb K μ (less rm rm') (pc + 3) L (v.toList ++ S) H' Q) : W tb K μ rm pc L S0 H Q := by
  intro hL Z a0 p l e R s m args below meth c' T locs cells slots X
  obtain ⟨X0, hx, hZ, hw, hby, hml, hrt, hnm, hlk, hown, hR, hFr, hr1, hr2, hr3, hr4⟩ := X
  obtain ⟨hf, hl, hc, hs⟩ := rok_spec hr
  obtain ⟨_, vm1, ⟨T1, L1, k1, n1⟩, hW1, X1, ⟨Lc, ⟨v', H', rfl, hR', hq', hFr'⟩, l1, y1, z1⟩, st⟩ := Jvm.LawKit.callS X0 hx (y := μ'.1) hown (mvT hZ (hw _ w1)) (mvT hZ (hw _ w2)) (mvT hZ (hw _ w3)) (mvT hZ (hw _ w4)) hy (backOf (R := R) (rm := rm') (h := T.heap) (Q := fun v h L => ∃ v' H', v = Option.map (cv Z.heap.size) v' ∧ Rel Z K h H' ∧ Q' v' H' ∧ Fr Z.heap.size L) (W := wt S) (hM Z a0 hw l T.heap [] hR) hZ (hw _ w4) (hw _ w3) (by omega) (by omega))
    (g := mkF m pc (L.map (cs Z.heap.size)).toArray (S0.map (cv Z.heap.size))) rfl (by simp [hL, hml]) (argsL := as.map (cv Z.heap.size)) (rest := S.map (cv Z.heap.size)) (lenOf hp (by simpa using hlen)) (by rw [hS]; simp) (by show 2 * 0 + _ ≤ _; rw [cat_map]; exact Nat.le_of_eq (by simp)) (hb hby hd) (fun _ _ => ⟨rfl, rfl, by show cells + _ ≤ _; omega, by show slots + _ ≤ _; omega⟩)
  dsimp only [Pt.U, Pt.locs, Pt.cells, Pt.slots] at X1 l1 y1 z1 st hR'
  subst l1 y1 z1
  rw [back_st] at st
  exact (h v' H' hq' hL Z a0 p l e R s m args below meth c' T1 _ _ _ ⟨X1, hx, hZ, hw, hby, hml, hrt, hnm, hlk, hown, hR', Fr.app hFr hFr', hr1, by show cells + _ + (rm.cells - _) ≤ _; omega, by show slots + _ + (rm.slots - _) ≤ _; omega, hr4⟩).steps st
theorem W.callI {idx i : Nat} {as : List Value} {S0 : List Value} {ps : List FieldType} {r : Option FieldType} (hd : decode μ.2.1 pc = .ok (.invokespecial idx, 3)) (hn : μ'.1.name = "<init>") (hr0 : μ'.2.2.2 = none) (w1 : Cond.methodLink μ.1.cls idx μ'.1 ∈ tb) (w2 : Cond.instanceMethod μ'.1 ∈ tb) (w3 : Cond.initialized μ'.1.cls ∈ tb) (w4 : Cond.code μ'.1 μ'.2.1 μ'.2.2.1 μ'.2.2.2 ∈ tb) (hy : plainCls μ')
    (hp : parseMethodDescriptor μ'.1.desc = some ⟨ps, r⟩) (hlen : as.length = ps.length) (hS : S0 = as.reverse ++ .ref i :: S) (hM : M tb K μ' rm' (.ref i :: as) H Q') (hr : rok rm rm' μ'.2.2.1 S = true)
    (h : ∀ v H', Q' v H' → W tb K μ (less rm rm') (pc + 3) L (v.toList ++ S) H' Q) : W tb K μ rm pc L S0 H Q := by
  intro hL Z a0 p l e R s m args below meth c' T locs cells slots X
  obtain ⟨X0, hx, hZ, hw, hby, hml, hrt, hnm, hlk, hown, hR, hFr, hr1, hr2, hr3, hr4⟩ := X
  obtain ⟨hf, hl, hc, hs⟩ := rok_spec hr
  have w4' : (Cond.code μ'.1 μ'.2.1 μ'.2.2.1 none).before a0 Z = true := by have q := hw _ w4; rw [hr0] at q; exact q
  obtain ⟨_, vm1, ⟨T1, L1, k1, n1⟩, hW1, X1, ⟨Lc, ⟨v', H', rfl, hR', hq', hFr'⟩, l1, y1, z1⟩, st⟩ := X0.specialBack hx (y := μ'.1) hn hown (mvT hZ (hw _ w1)) (mvT hZ (hw _ w2)) (mvT hZ w4') hy (backOf (R := R) (rm := rm') (h := T.heap) (Q := fun v h L => ∃ v' H', v = Option.map (cv Z.heap.size) v' ∧ Rel Z K h H' ∧ Q' v' H' ∧ Fr Z.heap.size L) (W := wt S) (hM Z a0 hw l T.heap [] hR) hZ (hw _ w4) (hw _ w3) (by omega) (by omega))
    (g := mkF m pc (L.map (cs Z.heap.size)).toArray (S0.map (cv Z.heap.size))) rfl (by simp [hL, hml]) (Steps.refl _) (a := Z.heap.size + i) (argsL := as.map (cv Z.heap.size)) (rest := S.map (cv Z.heap.size)) (lenOf hp (by simpa using hlen)) (by rw [hS]; simp [cv]) (by show 2 * 0 + _ ≤ _; rw [cat_map]; exact Nat.le_of_eq (by simp)) (hb hby hd) (fun _ _ => ⟨rfl, rfl, by show cells + _ ≤ _; omega, by show slots + _ ≤ _; omega⟩)
  dsimp only [Pt.U, Pt.locs, Pt.cells, Pt.slots] at X1 l1 y1 z1 st hR'
  subst l1 y1 z1
  rw [back_st] at st
  exact (h v' H' hq' hL Z a0 p l e R s m args below meth c' T1 _ _ _ ⟨X1, hx, hZ, hw, hby, hml, hrt, hnm, hlk, hown, hR', Fr.app hFr hFr', hr1, by show cells + _ + (rm.cells - _) ≤ _; omega, by show slots + _ + (rm.slots - _) ≤ _; omega, hr4⟩).steps (fun t ht => st.trans ht)
/-- the opcode that returns nothing -/
def opReturn : UInt8 := 177
/-- java/lang/Object's constructor -/
theorem W.initO {idx i : Nat} (hd : decode μ.2.1 pc = .ok (.invokespecial idx, 3)) (w1 : Cond.methodLink μ.1.cls idx Lib.objectInit ∈ tb) (w2 : Cond.instanceMethod Lib.objectInit ∈ tb) (w3 : Cond.code Lib.objectInit ⟨#[opReturn]⟩ 1 none ∈ tb) (hr : iok rm S = true)
    (h : W tb K μ rm (pc + 3) L S H Q) : W tb K μ rm pc L (.ref i :: S) H Q := by
  intro hL Z a0 p l e R s m args below meth c' T locs cells slots X
  obtain ⟨X0, hx, hZ, hw, hby, hml, hrt, hnm, hlk, hown, hR, hFr, hr1, hr2, hr3, hr4⟩ := X
  simp only [iok, Bool.and_eq_true, Nat.ble_eq] at hr
  obtain ⟨hf, hl⟩ := hr
  obtain ⟨T1, X1, e1, st⟩ := RoadKit.initO X0 hx hZ hown (hw _ w1) (hw _ w2) (hw _ w3) rfl (g := mkF m pc (L.map (cs Z.heap.size)).toArray ((Value.ref i :: S).map (cv Z.heap.size))) rfl (by simp [hL, hml]) rfl (hb hby hd) (by omega) (W := wt S) (by show 2 * 0 + _ ≤ _; rw [cat_map]; exact Nat.le_of_eq (by simp)) (by omega)
  exact (h hL Z a0 p l e R s m args below meth c' T1 locs cells slots ⟨X1, hx, hZ, hw, hby, hml, hrt, hnm, hlk, hown, e1 ▸ hR, hFr, hr1, hr2, hr3, hr4⟩).steps st
theorem W.callV {idx i c n : Nat} {C : String} {fs : List (String × String × String × FieldType)} {vs : List Value} {y : MethodName} {as : List Value} {S0 : List Value} {ps : List FieldType} {r : Option FieldType} (hd : decode μ.2.1 pc = .ok (.invokevirtual idx, 3)) (w1 : Cond.methodLink μ.1.cls idx y ∈ tb) (w2 : Cond.declares y ∈ tb) (w3 : Cond.selects C y μ'.1 ∈ tb) (hnf : y = μ'.1 ∨ ∃ q ∈ K, q.1 = y.cls) (hKO : KOk tb K)
    (w4 : Cond.instanceMethod μ'.1 ∈ tb) (w5 : Cond.initialized μ'.1.cls ∈ tb) (w6 : Cond.code μ'.1 μ'.2.1 μ'.2.2.1 μ'.2.2.2 ∈ tb) (hy : y.cls ≠ "java/lang/invoke/MethodHandle" ∧ y.cls ≠ "java/lang/invoke/VarHandle") (hK : K[c]? = some (C, n, fs)) (hp : parseMethodDescriptor y.desc = some ⟨ps, r⟩) (hlen : as.length = ps.length) (hS : S0 = as.reverse ++ .ref i :: S)
    (hH : H[i]? = some (.inl (c, vs))) (hM : M tb K μ' rm' (.ref i :: as) H Q') (hr : rok rm rm' μ'.2.2.1 S = true)
    (h : ∀ v H', Q' v H' → W tb K μ (less rm rm') (pc + 3) L (v.toList ++ S) H' Q) : W tb K μ rm pc L S0 H Q := by
  intro hL Z a0 p l e R s m args below meth c' T locs cells slots X
  obtain ⟨X0, hx, hZ, hw, hby, hml, hrt, hnm, hlk, hown, hR, hFr, hr1, hr2, hr3, hr4⟩ := X
  obtain ⟨hf, hl, hc, hs⟩ := rok_spec hr
  obtain ⟨C', n', fs', q1, q2, q3, q4⟩ := hR.2 _ _ hH
  cases hK.symm.trans q1
  obtain ⟨cB, kB, b1, b2, b3⟩ := isOf (T := T) hZ rfl q3
  have nf : NotFace s y := by
    rcases hnf with rfl | ⟨q, hq, hqc⟩
    · exact notFace_of_selects (args := #[]) (mvT hZ (hw _ w3))
    · intro r0 h0
      have g1 := findClass_of_methodNamed h0
      obtain ⟨c1, k1, i1, i2, i3, i4, -⟩ := Cond.instantiable_spec (args := #[]) (s := s) (mv hZ (hw _ (hKO q hq).1))
      rw [hqc] at i1
      cases g1.symm.trans i1
      exact ⟨k1, i2, by simp only [Bool.or_eq_false_iff] at i4; exact i4.1⟩
  obtain ⟨_, vm1, ⟨T1, L1, k1, n1⟩, hW1, X1, ⟨Lc, ⟨v', H', rfl, hR', hq', hFr'⟩, l1, y1, z1⟩, st⟩ := X0.virtualBack hx (y := y) (z := μ'.1) hown (mvT hZ (hw _ w1)) (mvT hZ (hw _ w2)) nf (mvT hZ (hw _ w3)) (mvT hZ (hw _ w4)) hy (backOf (R := R) (rm := rm') (h := T.heap) (Q := fun v h L => ∃ v' H', v = Option.map (cv Z.heap.size) v' ∧ Rel Z K h H' ∧ Q' v' H' ∧ Fr Z.heap.size L) (W := wt S) (hM Z a0 hw l T.heap [] hR) hZ (hw _ w6) (hw _ w5) (by omega) (by omega)) b1 b3
    (g := mkF m pc (L.map (cs Z.heap.size)).toArray (S0.map (cv Z.heap.size))) rfl (by simp [hL, hml]) (Steps.refl _) (argsL := as.map (cv Z.heap.size)) (rest := S.map (cv Z.heap.size)) (lenOf hp (by simpa using hlen)) (by rw [hS]; simp [cv]) (by show 2 * 0 + _ ≤ _; rw [cat_map]; exact Nat.le_of_eq (by simp)) (hb hby hd) (fun _ _ => ⟨rfl, rfl, by show cells + _ ≤ _; omega, by show slots + _ ≤ _; omega⟩)
  dsimp only [Pt.U, Pt.locs, Pt.cells, Pt.slots] at X1 l1 y1 z1 st hR'
  subst l1 y1 z1
  rw [back_st] at st
  exact (h v' H' hq' hL Z a0 p l e R s m args below meth c' T1 _ _ _ ⟨X1, hx, hZ, hw, hby, hml, hrt, hnm, hlk, hown, hR', Fr.app hFr hFr', hr1, by show cells + _ + (rm.cells - _) ≤ _; omega, by show slots + _ + (rm.slots - _) ≤ _; omega, hr4⟩).steps (fun t ht => st.trans ht)
/-- a private method, by invokevirtual -/
theorem W.callP {idx i c n : Nat} {C : String} {fs : List (String × String × String × FieldType)} {vs : List Value} {as : List Value} {S0 : List Value} {ps : List FieldType} {r : Option FieldType} (hd : decode μ.2.1 pc = .ok (.invokevirtual idx, 3)) (w1 : Cond.methodLink μ.1.cls idx μ'.1 ∈ tb) (w2 : Cond.privateMethod μ'.1 ∈ tb) (hKO : KOk tb K)
    (w4 : Cond.instanceMethod μ'.1 ∈ tb) (w5 : Cond.initialized μ'.1.cls ∈ tb) (w6 : Cond.code μ'.1 μ'.2.1 μ'.2.2.1 μ'.2.2.2 ∈ tb) (hy : plainCls μ') (hK : K[c]? = some (C, n, fs)) (hC : C = μ'.1.cls) (hp : parseMethodDescriptor μ'.1.desc = some ⟨ps, r⟩) (hlen : as.length = ps.length) (hS : S0 = as.reverse ++ .ref i :: S)
    (hH : H[i]? = some (.inl (c, vs))) (hM : M tb K μ' rm' (.ref i :: as) H Q') (hr : rok rm rm' μ'.2.2.1 S = true)
    (h : ∀ v H', Q' v H' → W tb K μ (less rm rm') (pc + 3) L (v.toList ++ S) H' Q) : W tb K μ rm pc L S0 H Q := by
  intro hL Z a0 p l e R s m args below meth c' T locs cells slots X
  obtain ⟨X0, hx, hZ, hw, hby, hml, hrt, hnm, hlk, hown, hR, hFr, hr1, hr2, hr3, hr4⟩ := X
  obtain ⟨hf, hl, hc, hs⟩ := rok_spec hr
  obtain ⟨C', n', fs', q1, q2, q3, q4⟩ := hR.2 _ _ hH
  cases hK.symm.trans q1
  obtain ⟨cell, c1, c2⟩ := q3.cell
  obtain ⟨mk, methM, m1, m2, m3, m4⟩ := Cond.instanceMethod_spec (args := args) (mv hZ (hw _ w4))
  obtain ⟨methM', cM, hmethM', -, -, -, -, -, -, hsigM⟩ := Cond.code_spec m1 (mv (args := args) hZ (hw _ w6))
  cases m2.symm.trans hmethM'
  obtain ⟨cc, kk, i1, i2, i3, i4, -⟩ := Cond.instantiable_spec (args := args) (s := s) (mv hZ (hw _ (hKO _ (mem_of_get hK)).1))
  have g1 := findClass_of_methodNamed m1
  rw [← hC] at g1
  cases g1.symm.trans i1
  have hni : kk.isInterface = false := by simp only [Bool.or_eq_false_iff] at i4; exact i4.1
  have hpriv : s.PrivateAt μ'.1 := Cond.privateMethod_at (mvP hZ (hw _ w2) (args := #[]))
  have hsel : selectMethod e.platform s.vm cell.cls mk = .method mk := selectMethod_private m2 (hpriv mk methM m1 m2)
  obtain ⟨vm1, X1', st1⟩ := X0.invokevirtual hx hown (mvT hZ (hw _ w1)) m1 m2 m3 i2 hni hy (a := Z.heap.size + i) (cell := cell) c1 c2 hsel m2 m4 i2 hni (g := mkF m pc (L.map (cs Z.heap.size)).toArray (S0.map (cv Z.heap.size))) rfl (argsL := as.map (cv Z.heap.size)) (rest := S.map (cv Z.heap.size)) (lenOf hp (by simpa using hlen) _ hsigM) (by rw [hS]; simp [cv]) (hb hby hd)
  obtain ⟨_, ⟨T1, L1, k1, n1⟩, X1, ⟨Lc, ⟨v', H', rfl, hR', hq', hFr'⟩, l1, y1, z1⟩, st⟩ := (backOf (R := R) (rm := rm') (h := T.heap) (Q := fun v h L => ∃ v' H', v = Option.map (cv Z.heap.size) v' ∧ Rel Z K h H' ∧ Q' v' H' ∧ Fr Z.heap.size L) (W := wt S) (hM Z a0 hw l T.heap [] hR) hZ (hw _ w6) (hw _ w5) (by omega) (by omega)) m meth c' ⟨T.setVm vm1, locs, cells, slots⟩ (mkF m pc (L.map (cs Z.heap.size)).toArray (S.map (cv Z.heap.size))) (.invokevirtual idx) mk (.ref (Z.heap.size + i) :: as.map (cv Z.heap.size)).toArray X1' rfl (by simp [hL, hml]) (hb hby hd) (by show 2 * 0 + _ ≤ _; rw [cat_map]; exact Nat.le_of_eq (by simp)) (X1'.named m1) ⟨rfl, rfl, by show cells + _ ≤ _; omega, by show slots + _ ≤ _; omega⟩
  dsimp only [Pt.U, Pt.locs, Pt.cells, Pt.slots] at X1 l1 y1 z1 st hR'
  subst l1 y1 z1
  rw [back_st] at st
  exact (h v' H' hq' hL Z a0 p l e R s m args below meth c' T1 _ _ _ ⟨X1, hx, hZ, hw, hby, hml, hrt, hnm, hlk, hown, hR', Fr.app hFr hFr', hr1, by show cells + _ + (rm.cells - _) ≤ _; omega, by show slots + _ + (rm.slots - _) ≤ _; omega, hr4⟩).steps (fun t ht => (st1 _ fun acts => by rw [doInvoke_state]; exact Steps.refl _).trans (st.trans ht))
/-- the locals at the entry -/
def ent : List Value → List Slot
  | [] => []
  | v :: r => if v.category = 2 then .val v :: .second :: ent r else .val v :: ent r
theorem ent_map (k : Nat) (as : List Value) : ent (as.map (cv k)) = (ent as).map (cs k) := by
  induction as with
  | nil => rfl
  | cons v r ih => by_cases h : v.category = 2 <;> simp [ent, h, cv_cat, ih, cs]
theorem fold_ent (as : List Value) : ∀ acc : Array Slot, as.foldl (fun acc v => if v.category = 2 then (acc.push (.val v)).push .second else acc.push (.val v)) acc = acc ++ (ent as).toArray := by
  induction as with
  | nil => intro acc; simp [ent]
  | cons v r ih => intro acc; by_cases h : v.category = 2 <;> simp [ent, h, ih]
theorem locals_of (k n : Nat) (as : List Value) : argsToLocals (as.map (cv k)).toArray n = ((ent as ++ List.replicate (n - (ent as).length) Slot.unset).map (cs k)).toArray := by
  have h : (as.map (cv k)).toArray.foldl (fun (acc : Array Slot) v => if v.category = 2 then (acc.push (.val v)).push .second else acc.push (.val v)) #[] = ((ent as).map (cs k)).toArray := by
    rw [List.foldl_toArray, fold_ent, ent_map]; simp
  simp only [argsToLocals]
  rw [h]
  simp [cs]
theorem M.of {as : List Value} (hn : plainFor μ.1 = true) (hl : ent as ++ List.replicate (μ.2.2.1 - (ent as).length) .unset = L) (hl' : L.length = μ.2.2.1) (h : W tb K μ rm 0 L [] H Q) : M tb K μ rm as H Q := by
  intro Z a0 hw l h0 ws hR
  refine MetFree.of_bodySF hn hisR ?_
  intro p e s m args below meth c s₁ Bd hml0 hP hK
  obtain ⟨rfl, hZ, hh⟩ := hP
  have e0 : s₁.heap = h0 := by rw [← hh, Bd.state]; rfl
  obtain ⟨v, H', T, locs, fs, hq, st, hrun, hended, hW, hsame, hFr, hR'⟩ := h hl' Z a0 p l e rm s m _ below meth c s₁ [] 0 0 ⟨Stand.of_body Bd, Bd.exec, hZ, hw, Bd.bytes, hml0, Bd.returns, (name_of_methodNamed Bd.named Bd.method).1, Bd.notSynchronized, findClass_of_methodNamed Bd.named, e0 ▸ hR, Fr.nil _, Nat.le_refl _, Nat.le_of_eq (Nat.zero_add _), Nat.le_of_eq (Nat.zero_add _), Nat.le_refl _⟩
  have q : entryFrame m (as.map (cv Z.heap.size)).toArray μ.2.2.1 = mkF m 0 (L.map (cs Z.heap.size)).toArray [] := by
    rw [← hl, entryFrame, locals_of]
  exact ⟨_, _, castTop q st, hrun, hended, _, locs, rfl, ⟨v, H', rfl, hR', hq, hFr⟩, ⟨_, rfl⟩, hW, hsame⟩
end Logic
end Jvm.Own
namespace Jvm.Pilot.@@N@@
open Jvm Jvm.ClassFile Sem Op Lib Jvm.Free Jvm.Stand Jvm.LawKit Jvm.RoadKit Jvm.Own Bundle Jvm.Pilot.@@N@@.Jvm.D
/-! PRINTED BY gen.py: the classes, the methods, one lemma a site -/
def KT : KTab := [("com/example/bit0/bit0/table/FingerprintTable", 4, [("com/example/bit0/bit0/table/FingerprintTable", "words", "[J", (.array .long)), ("com/example/bit0/bit0/table/FingerprintTable", "size", "J", .long), ("com/example/bit0/bit0/table/FingerprintTable", "width", "I", .int), ("com/example/bit0/bit0/table/FingerprintTable", "mask", "J", .long)])]
theorem kt : KOk tables_1 KT := (KOk.cons (List.mem_of_getElem? (i := 3) rfl) (fokS ⟨Or.inr (List.mem_of_getElem? (i := 18) rfl), by decide⟩ (fokS ⟨Or.inr (List.mem_of_getElem? (i := 20) rfl), by decide⟩ (fokS ⟨Or.inr (List.mem_of_getElem? (i := 22) rfl), by decide⟩ (fokS ⟨Or.inr (List.mem_of_getElem? (i := 24) rfl), by decide⟩ fok0)))) (by decide) KOk.nil)
abbrev μ0 : Mth := (x, code, 28, ret)
abbrev W0 := W tables_1 KT μ0
abbrev M0 := M tables_1 KT μ0
theorem pf0 : plainFor μ0.1 = true := by first | (refine plainFor_of_name ?_; simp [plainName, overriddenIn, x]; done) | decide +kernel
theorem pd0 : parseMethodDescriptor "(IIJJJJ)Z" = some ⟨[.int, .int, .long, .long, .long, .long], some .boolean⟩ := by decide +kernel
abbrev μ1 : Mth := (⟨"com/example/bit0/bit0/table/FingerprintTable", "<init>", "(JI)V"⟩, prog_27_method_1_code, 4, none)
abbrev W1 := W tables_1 KT μ1
abbrev M1 := M tables_1 KT μ1
theorem pf1 : plainFor μ1.1 = true := by first | (refine plainFor_of_name ?_; simp [plainName, overriddenIn, x]; done) | decide +kernel
theorem pd1 : parseMethodDescriptor "(JI)V" = some ⟨[.long, .int], none⟩ := by decide +kernel
abbrev μ2 : Mth := (⟨"com/example/bit0/bit0/table/FingerprintTable", "wordCount", "(JI)I"⟩, prog_27_method_3_code, 3, some .int)
abbrev W2 := W tables_1 KT μ2
abbrev M2 := M tables_1 KT μ2
theorem pf2 : plainFor μ2.1 = true := by first | (refine plainFor_of_name ?_; simp [plainName, overriddenIn, x]; done) | decide +kernel
theorem pd2 : parseMethodDescriptor "(JI)I" = some ⟨[.long, .int], some .int⟩ := by decide +kernel
abbrev μ3 : Mth := (⟨"com/example/bit0/bit0/table/FingerprintTable", "set", "(JJ)V"⟩, prog_27_method_8_code, 9, none)
abbrev W3 := W tables_1 KT μ3
abbrev M3 := M tables_1 KT μ3
theorem pf3 : plainFor μ3.1 = true := by first | (refine plainFor_of_name ?_; simp [plainName, overriddenIn, x]; done) | decide +kernel
theorem pd3 : parseMethodDescriptor "(JJ)V" = some ⟨[.long, .long], none⟩ := by decide +kernel
abbrev μ4 : Mth := (⟨"com/example/bit0/bit0/table/FingerprintTable", "word", "(I)J"⟩, prog_27_method_6_code, 2, some .long)
abbrev W4 := W tables_1 KT μ4
abbrev M4 := M tables_1 KT μ4
theorem pf4 : plainFor μ4.1 = true := by first | (refine plainFor_of_name ?_; simp [plainName, overriddenIn, x]; done) | decide +kernel
theorem pd4 : parseMethodDescriptor "(I)J" = some ⟨[.int], some .long⟩ := by decide +kernel
abbrev μ5 : Mth := (⟨"com/example/bit0/bit0/table/FingerprintTableSetPinLaw", "expected", "(JJJJJI)J"⟩, method_3_code, 11, some .long)
abbrev W5 := W tables_1 KT μ5
abbrev M5 := M tables_1 KT μ5
theorem pf5 : plainFor μ5.1 = true := by first | (refine plainFor_of_name ?_; simp [plainName, overriddenIn, x]; done) | decide +kernel
theorem pd5 : parseMethodDescriptor "(JJJJJI)J" = some ⟨[.long, .long, .long, .long, .long, .int], some .long⟩ := by decide +kernel
abbrev μ6 : Mth := (⟨"com/example/bit0/bit0/table/FingerprintTableSetPinLaw", "part", "(JJI)J"⟩, method_2_code, 9, some .long)
abbrev W6 := W tables_1 KT μ6
abbrev M6 := M tables_1 KT μ6
theorem pf6 : plainFor μ6.1 = true := by first | (refine plainFor_of_name ?_; simp [plainName, overriddenIn, x]; done) | decide +kernel
theorem pd6 : parseMethodDescriptor "(JJI)J" = some ⟨[.long, .long, .int], some .long⟩ := by decide +kernel
theorem e0 {rm : Room} {H : AHeap} {Q : Option Value → AHeap → Prop} {a0 : Int32} {a1 : Int32} {a2 : Int64} {a3 : Int64} {a4 : Int64} {a5 : Int64} (h : W0 rm 0 [.val (.int a0), .val (.int a1), .val (.long a2), .second, .val (.long a3), .second, .val (.long a4), .second, .val (.long a5), .second, .unset, .unset, .unset, .unset, .unset, .unset, .unset, .unset, .unset, .unset, .unset, .unset, .unset, .unset, .unset, .unset, .unset, .unset] [] H Q) : M0 rm [.int a0, .int a1, .long a2, .long a3, .long a4, .long a5] H Q := M.of pf0 rfl rfl h
theorem e0L {rm : Room} {H : AHeap} {Q : Option Value → AHeap → Prop} {L : List Slot} {as : List Value} (h : W0 rm 0 L [] H Q) (hl : ent as ++ List.replicate (28 - (ent as).length) .unset = L := by rfl) (hn : L.length = 28 := by rfl) : M0 rm as H Q := M.of pf0 hl hn h
theorem s0_0 {rm : Room} {S : List Value} {H : AHeap} {Q : Option Value → AHeap → Prop} {l0 l1 l2 l3 l4 l5 l6 l7 l8 l9 l10 l11 l12 l13 l14 l15 l16 l17 l18 l19 l20 l21 l22 l23 l24 l25 l26 l27 : Slot}  (h : W0 rm 1 [l0, l1, l2, l3, l4, l5, l6, l7, l8, l9, l10, l11, l12, l13, l14, l15, l16, l17, l18, l19, l20, l21, l22, l23, l24, l25, l26, l27] (.int 1 :: S) (H) Q) : W0 rm 0 [l0, l1, l2, l3, l4, l5, l6, l7, l8, l9, l10, l11, l12, l13, l14, l15, l16, l17, l18, l19, l20, l21, l22, l23, l24, l25, l26, l27] (S) H Q := W.iconst' at_0 (by decide) h
theorem s0_1 {rm : Room} {S : List Value} {H : AHeap} {Q : Option Value → AHeap → Prop} {l1 l2 l3 l4 l5 l6 l7 l8 l9 l10 l11 l12 l13 l14 l15 l16 l17 l18 l19 l20 l21 l22 l23 l24 l25 l26 l27 : Slot} {x : Int32} (h : W0 rm 2 [.val (.int x), l1, l2, l3, l4, l5, l6, l7, l8, l9, l10, l11, l12, l13, l14, l15, l16, l17, l18, l19, l20, l21, l22, l23, l24, l25, l26, l27] (.int x :: S) (H) Q) : W0 rm 1 [.val (.int x), l1, l2, l3, l4, l5, l6, l7, l8, l9, l10, l11, l12, l13, l14, l15, l16, l17, l18, l19, l20, l21, l22, l23, l24, l25, l26, l27] (S) H Q := W.iload_n at_1 rfl h
theorem s0_2 {rm : Room} {S : List Value} {H : AHeap} {Q : Option Value → AHeap → Prop} {l0 l1 l2 l3 l4 l5 l6 l7 l8 l9 l10 l11 l12 l13 l14 l15 l16 l17 l18 l19 l20 l21 l22 l23 l24 l25 l26 l27 : Slot}  (h : W0 rm 4 [l0, l1, l2, l3, l4, l5, l6, l7, l8, l9, l10, l11, l12, l13, l14, l15, l16, l17, l18, l19, l20, l21, l22, l23, l24, l25, l26, l27] (.int 2147483647 :: S) (H) Q) : W0 rm 2 [l0, l1, l2, l3, l4, l5, l6, l7, l8, l9, l10, l11, l12, l13, l14, l15, l16, l17, l18, l19, l20, l21, l22, l23, l24, l25, l26, l27] (S) H Q := W.ldcInt at_2 (List.mem_of_getElem? (i := 0) rfl) h
theorem s0_4 {rm : Room} {S : List Value} {H : AHeap} {Q : Option Value → AHeap → Prop} {l0 l1 l2 l3 l4 l5 l6 l7 l8 l9 l10 l11 l12 l13 l14 l15 l16 l17 l18 l19 l20 l21 l22 l23 l24 l25 l26 l27 : Slot} {x y : Int32} (h : W0 rm 5 [l0, l1, l2, l3, l4, l5, l6, l7, l8, l9, l10, l11, l12, l13, l14, l15, l16, l17, l18, l19, l20, l21, l22, l23, l24, l25, l26, l27] (.int (x &&& y) :: S) (H) Q) : W0 rm 4 [l0, l1, l2, l3, l4, l5, l6, l7, l8, l9, l10, l11, l12, l13, l14, l15, l16, l17, l18, l19, l20, l21, l22, l23, l24, l25, l26, l27] (.int y :: .int x :: S) H Q := W.iand at_4 h
theorem s0_5 {rm : Room} {S : List Value} {H : AHeap} {Q : Option Value → AHeap → Prop} {l0 l1 l2 l3 l4 l5 l6 l7 l8 l9 l10 l11 l12 l13 l14 l15 l16 l17 l18 l19 l20 l21 l22 l23 l24 l25 l26 l27 : Slot}  (h : W0 rm 7 [l0, l1, l2, l3, l4, l5, l6, l7, l8, l9, l10, l11, l12, l13, l14, l15, l16, l17, l18, l19, l20, l21, l22, l23, l24, l25, l26, l27] (.int 63 :: S) (H) Q) : W0 rm 5 [l0, l1, l2, l3, l4, l5, l6, l7, l8, l9, l10, l11, l12, l13, l14, l15, l16, l17, l18, l19, l20, l21, l22, l23, l24, l25, l26, l27] (S) H Q := W.bipush' at_5 (by decide) h
theorem s0_7 {rm : Room} {S : List Value} {H : AHeap} {Q : Option Value → AHeap → Prop} {l0 l1 l2 l3 l4 l5 l6 l7 l8 l9 l10 l11 l12 l13 l14 l15 l16 l17 l18 l19 l20 l21 l22 l23 l24 l25 l26 l27 : Slot} {x y : Int32} (hy : y ≠ 0) (h : W0 rm 8 [l0, l1, l2, l3, l4, l5, l6, l7, l8, l9, l10, l11, l12, l13, l14, l15, l16, l17, l18, l19, l20, l21, l22, l23, l24, l25, l26, l27] (.int (x % y) :: S) (H) Q) : W0 rm 7 [l0, l1, l2, l3, l4, l5, l6, l7, l8, l9, l10, l11, l12, l13, l14, l15, l16, l17, l18, l19, l20, l21, l22, l23, l24, l25, l26, l27] (.int y :: .int x :: S) H Q := W.irem at_7 hy h
theorem s0_8 {rm : Room} {S : List Value} {H : AHeap} {Q : Option Value → AHeap → Prop} {l0 l1 l2 l3 l4 l5 l6 l7 l8 l9 l10 l11 l12 l13 l14 l15 l16 l17 l18 l19 l20 l21 l22 l23 l24 l25 l26 l27 : Slot} {x y : Int32} (h : W0 rm 9 [l0, l1, l2, l3, l4, l5, l6, l7, l8, l9, l10, l11, l12, l13, l14, l15, l16, l17, l18, l19, l20, l21, l22, l23, l24, l25, l26, l27] (.int (x + y) :: S) (H) Q) : W0 rm 8 [l0, l1, l2, l3, l4, l5, l6, l7, l8, l9, l10, l11, l12, l13, l14, l15, l16, l17, l18, l19, l20, l21, l22, l23, l24, l25, l26, l27] (.int y :: .int x :: S) H Q := W.iadd at_8 h
theorem s0_9 {rm : Room} {S : List Value} {H : AHeap} {Q : Option Value → AHeap → Prop} {l0 l1 l2 l3 l4 l5 l6 l7 l8 l9 l10 l11 l12 l13 l14 l15 l16 l17 l18 l19 l20 l21 l22 l23 l24 l25 l26 l27 : Slot} {x : Int32} (ho : one l10 = true) (h : W0 rm 11 [l0, l1, l2, l3, l4, l5, l6, l7, l8, l9, .val (.int x), l11, l12, l13, l14, l15, l16, l17, l18, l19, l20, l21, l22, l23, l24, l25, l26, l27] (S) (H) Q) : W0 rm 9 [l0, l1, l2, l3, l4, l5, l6, l7, l8, l9, l10, l11, l12, l13, l14, l15, l16, l17, l18, l19, l20, l21, l22, l23, l24, l25, l26, l27] (.int x :: S) H Q := W.istore at_9 rfl ho h
theorem s0_9w {rm : Room} {S : List Value} {H : AHeap} {Q : Option Value → AHeap → Prop} {l0 l1 l2 l3 l4 l5 l6 l7 l8 l9 l11 l12 l13 l14 l15 l16 l17 l18 l19 l20 l21 l22 l23 l24 l25 l26 l27 : Slot} {w : Value} {x : Int32} (ho : w.category = 2) (h : W0 rm 11 [l0, l1, l2, l3, l4, l5, l6, l7, l8, l9, .val (.int x), .unset, l12, l13, l14, l15, l16, l17, l18, l19, l20, l21, l22, l23, l24, l25, l26, l27] (S) (H) Q) : W0 rm 9 [l0, l1, l2, l3, l4, l5, l6, l7, l8, l9, .val w, l11, l12, l13, l14, l15, l16, l17, l18, l19, l20, l21, l22, l23, l24, l25, l26, l27] (.int x :: S) H Q := W.istoreW at_9 rfl ho (Nat.le_of_ble_eq_true rfl) h
theorem s0_9s {rm : Room} {S : List Value} {H : AHeap} {Q : Option Value → AHeap → Prop} {l0 l1 l2 l3 l4 l5 l6 l7 l8 l9 l11 l12 l13 l14 l15 l16 l17 l18 l19 l20 l21 l22 l23 l24 l25 l26 l27 : Slot} {x : Int32} (h : W0 rm 11 [l0, l1, l2, l3, l4, l5, l6, l7, l8, .unset, .val (.int x), l11, l12, l13, l14, l15, l16, l17, l18, l19, l20, l21, l22, l23, l24, l25, l26, l27] (S) (H) Q) : W0 rm 9 [l0, l1, l2, l3, l4, l5, l6, l7, l8, l9, .second, l11, l12, l13, l14, l15, l16, l17, l18, l19, l20, l21, l22, l23, l24, l25, l26, l27] (.int x :: S) H Q := W.istoreS at_9 rfl (by decide) h
theorem s0_11 {rm : Room} {S : List Value} {H : AHeap} {Q : Option Value → AHeap → Prop} {l0 l1 l2 l3 l4 l5 l6 l7 l8 l9 l10 l11 l12 l13 l14 l15 l16 l17 l18 l19 l20 l21 l22 l23 l24 l25 l26 l27 : Slot}  (h : W0 rm 12 [l0, l1, l2, l3, l4, l5, l6, l7, l8, l9, l10, l11, l12, l13, l14, l15, l16, l17, l18, l19, l20, l21, l22, l23, l24, l25, l26, l27] (.long 1 :: S) (H) Q) : W0 rm 11 [l0, l1, l2, l3, l4, l5, l6, l7, l8, l9, l10, l11, l12, l13, l14, l15, l16, l17, l18, l19, l20, l21, l22, l23, l24, l25, l26, l27] (S) H Q := W.lconst' at_11 (by decide) h
theorem s0_12 {rm : Room} {S : List Value} {H : AHeap} {Q : Option Value → AHeap → Prop} {l0 l1 l2 l3 l4 l5 l6 l7 l8 l9 l11 l12 l13 l14 l15 l16 l17 l18 l19 l20 l21 l22 l23 l24 l25 l26 l27 : Slot} {x : Int32} (h : W0 rm 14 [l0, l1, l2, l3, l4, l5, l6, l7, l8, l9, .val (.int x), l11, l12, l13, l14, l15, l16, l17, l18, l19, l20, l21, l22, l23, l24, l25, l26, l27] (.int x :: S) (H) Q) : W0 rm 12 [l0, l1, l2, l3, l4, l5, l6, l7, l8, l9, .val (.int x), l11, l12, l13, l14, l15, l16, l17, l18, l19, l20, l21, l22, l23, l24, l25, l26, l27] (S) H Q := W.iload at_12 rfl h
theorem s0_14 {rm : Room} {S : List Value} {H : AHeap} {Q : Option Value → AHeap → Prop} {l0 l1 l2 l3 l4 l5 l6 l7 l8 l9 l10 l11 l12 l13 l14 l15 l16 l17 l18 l19 l20 l21 l22 l23 l24 l25 l26 l27 : Slot} {x : Int64} {y : Int32} (h : W0 rm 15 [l0, l1, l2, l3, l4, l5, l6, l7, l8, l9, l10, l11, l12, l13, l14, l15, l16, l17, l18, l19, l20, l21, l22, l23, l24, l25, l26, l27] (.long (x <<< (y.toInt64 &&& 63)) :: S) (H) Q) : W0 rm 14 [l0, l1, l2, l3, l4, l5, l6, l7, l8, l9, l10, l11, l12, l13, l14, l15, l16, l17, l18, l19, l20, l21, l22, l23, l24, l25, l26, l27] (.int y :: .long x :: S) H Q := W.lshl at_14 h
theorem s0_15 {rm : Room} {S : List Value} {H : AHeap} {Q : Option Value → AHeap → Prop} {l0 l1 l2 l3 l4 l5 l6 l7 l8 l9 l10 l11 l12 l13 l14 l15 l16 l17 l18 l19 l20 l21 l22 l23 l24 l25 l26 l27 : Slot}  (h : W0 rm 16 [l0, l1, l2, l3, l4, l5, l6, l7, l8, l9, l10, l11, l12, l13, l14, l15, l16, l17, l18, l19, l20, l21, l22, l23, l24, l25, l26, l27] (.long 1 :: S) (H) Q) : W0 rm 15 [l0, l1, l2, l3, l4, l5, l6, l7, l8, l9, l10, l11, l12, l13, l14, l15, l16, l17, l18, l19, l20, l21, l22, l23, l24, l25, l26, l27] (S) H Q := W.lconst' at_15 (by decide) h
theorem s0_16 {rm : Room} {S : List Value} {H : AHeap} {Q : Option Value → AHeap → Prop} {l0 l1 l2 l3 l4 l5 l6 l7 l8 l9 l10 l11 l12 l13 l14 l15 l16 l17 l18 l19 l20 l21 l22 l23 l24 l25 l26 l27 : Slot} {x y : Int64} (h : W0 rm 17 [l0, l1, l2, l3, l4, l5, l6, l7, l8, l9, l10, l11, l12, l13, l14, l15, l16, l17, l18, l19, l20, l21, l22, l23, l24, l25, l26, l27] (.long (x - y) :: S) (H) Q) : W0 rm 16 [l0, l1, l2, l3, l4, l5, l6, l7, l8, l9, l10, l11, l12, l13, l14, l15, l16, l17, l18, l19, l20, l21, l22, l23, l24, l25, l26, l27] (.long y :: .long x :: S) H Q := W.lsub at_16 h
theorem s0_17 {rm : Room} {S : List Value} {H : AHeap} {Q : Option Value → AHeap → Prop} {l0 l1 l2 l3 l4 l5 l6 l7 l8 l9 l10 l11 l12 l13 l14 l15 l16 l17 l18 l19 l20 l21 l22 l23 l24 l25 l26 l27 : Slot} {x : Int64} (ho : two l11 l12 = true) (h : W0 rm 19 [l0, l1, l2, l3, l4, l5, l6, l7, l8, l9, l10, .val (.long x), .second, l13, l14, l15, l16, l17, l18, l19, l20, l21, l22, l23, l24, l25, l26, l27] (S) (H) Q) : W0 rm 17 [l0, l1, l2, l3, l4, l5, l6, l7, l8, l9, l10, l11, l12, l13, l14, l15, l16, l17, l18, l19, l20, l21, l22, l23, l24, l25, l26, l27] (.long x :: S) H Q := W.lstore at_17 rfl rfl ho h
theorem s0_19 {rm : Room} {S : List Value} {H : AHeap} {Q : Option Value → AHeap → Prop} {l0 l1 l2 l3 l4 l5 l6 l7 l8 l9 l10 l11 l12 l13 l14 l15 l16 l17 l18 l19 l20 l21 l22 l23 l24 l25 l26 l27 : Slot}  (h : W0 rm 22 [l0, l1, l2, l3, l4, l5, l6, l7, l8, l9, l10, l11, l12, l13, l14, l15, l16, l17, l18, l19, l20, l21, l22, l23, l24, l25, l26, l27] (.int 256 :: S) (H) Q) : W0 rm 19 [l0, l1, l2, l3, l4, l5, l6, l7, l8, l9, l10, l11, l12, l13, l14, l15, l16, l17, l18, l19, l20, l21, l22, l23, l24, l25, l26, l27] (S) H Q := W.sipush' at_19 (by decide) h
theorem s0_22 {rm : Room} {S : List Value} {H : AHeap} {Q : Option Value → AHeap → Prop} {l0 l1 l2 l3 l4 l5 l6 l7 l8 l9 l11 l12 l13 l14 l15 l16 l17 l18 l19 l20 l21 l22 l23 l24 l25 l26 l27 : Slot} {x : Int32} (h : W0 rm 24 [l0, l1, l2, l3, l4, l5, l6, l7, l8, l9, .val (.int x), l11, l12, l13, l14, l15, l16, l17, l18, l19, l20, l21, l22, l23, l24, l25, l26, l27] (.int x :: S) (H) Q) : W0 rm 22 [l0, l1, l2, l3, l4, l5, l6, l7, l8, l9, .val (.int x), l11, l12, l13, l14, l15, l16, l17, l18, l19, l20, l21, l22, l23, l24, l25, l26, l27] (S) H Q := W.iload at_22 rfl h
theorem s0_24 {rm : Room} {S : List Value} {H : AHeap} {Q : Option Value → AHeap → Prop} {l0 l1 l2 l3 l4 l5 l6 l7 l8 l9 l10 l11 l12 l13 l14 l15 l16 l17 l18 l19 l20 l21 l22 l23 l24 l25 l26 l27 : Slot} {x y : Int32} (hy : y ≠ 0) (h : W0 rm 25 [l0, l1, l2, l3, l4, l5, l6, l7, l8, l9, l10, l11, l12, l13, l14, l15, l16, l17, l18, l19, l20, l21, l22, l23, l24, l25, l26, l27] (.int (x / y) :: S) (H) Q) : W0 rm 24 [l0, l1, l2, l3, l4, l5, l6, l7, l8, l9, l10, l11, l12, l13, l14, l15, l16, l17, l18, l19, l20, l21, l22, l23, l24, l25, l26, l27] (.int y :: .int x :: S) H Q := W.idiv at_24 hy h
theorem s0_25 {rm : Room} {S : List Value} {H : AHeap} {Q : Option Value → AHeap → Prop} {l0 l1 l2 l3 l4 l5 l6 l7 l8 l9 l10 l11 l12 l13 l14 l15 l16 l17 l18 l19 l20 l21 l22 l23 l24 l25 l26 l27 : Slot} {x : Int32} (h : W0 rm 26 [l0, l1, l2, l3, l4, l5, l6, l7, l8, l9, l10, l11, l12, l13, l14, l15, l16, l17, l18, l19, l20, l21, l22, l23, l24, l25, l26, l27] (.long x.toInt64 :: S) (H) Q) : W0 rm 25 [l0, l1, l2, l3, l4, l5, l6, l7, l8, l9, l10, l11, l12, l13, l14, l15, l16, l17, l18, l19, l20, l21, l22, l23, l24, l25, l26, l27] (.int x :: S) H Q := W.i2l at_25 h
theorem s0_26 {rm : Room} {S : List Value} {H : AHeap} {Q : Option Value → AHeap → Prop} {l0 l1 l2 l3 l4 l5 l6 l7 l8 l9 l10 l11 l12 l13 l14 l15 l16 l17 l18 l19 l20 l21 l22 l23 l24 l25 l26 l27 : Slot} {x : Int64} (ho : two l13 l14 = true) (h : W0 rm 28 [l0, l1, l2, l3, l4, l5, l6, l7, l8, l9, l10, l11, l12, .val (.long x), .second, l15, l16, l17, l18, l19, l20, l21, l22, l23, l24, l25, l26, l27] (S) (H) Q) : W0 rm 26 [l0, l1, l2, l3, l4, l5, l6, l7, l8, l9, l10, l11, l12, l13, l14, l15, l16, l17, l18, l19, l20, l21, l22, l23, l24, l25, l26, l27] (.long x :: S) H Q := W.lstore at_26 rfl rfl ho h
theorem s0_28 {rm : Room} {S : List Value} {H : AHeap} {Q : Option Value → AHeap → Prop} {l0 l1 l2 l3 l4 l5 l6 l7 l8 l9 l10 l11 l12 l13 l14 l15 l16 l17 l18 l19 l20 l21 l22 l23 l24 l25 l26 l27 : Slot}  (h : W0 rm 29 [l0, l1, l2, l3, l4, l5, l6, l7, l8, l9, l10, l11, l12, l13, l14, l15, l16, l17, l18, l19, l20, l21, l22, l23, l24, l25, l26, l27] (.long 1 :: S) (H) Q) : W0 rm 28 [l0, l1, l2, l3, l4, l5, l6, l7, l8, l9, l10, l11, l12, l13, l14, l15, l16, l17, l18, l19, l20, l21, l22, l23, l24, l25, l26, l27] (S) H Q := W.lconst' at_28 (by decide) h
theorem s0_29 {rm : Room} {S : List Value} {H : AHeap} {Q : Option Value → AHeap → Prop} {l0 l2 l3 l4 l5 l6 l7 l8 l9 l10 l11 l12 l13 l14 l15 l16 l17 l18 l19 l20 l21 l22 l23 l24 l25 l26 l27 : Slot} {x : Int32} (h : W0 rm 30 [l0, .val (.int x), l2, l3, l4, l5, l6, l7, l8, l9, l10, l11, l12, l13, l14, l15, l16, l17, l18, l19, l20, l21, l22, l23, l24, l25, l26, l27] (.int x :: S) (H) Q) : W0 rm 29 [l0, .val (.int x), l2, l3, l4, l5, l6, l7, l8, l9, l10, l11, l12, l13, l14, l15, l16, l17, l18, l19, l20, l21, l22, l23, l24, l25, l26, l27] (S) H Q := W.iload_n at_29 rfl h
theorem s0_30 {rm : Room} {S : List Value} {H : AHeap} {Q : Option Value → AHeap → Prop} {l0 l1 l2 l3 l4 l5 l6 l7 l8 l9 l10 l11 l12 l13 l14 l15 l16 l17 l18 l19 l20 l21 l22 l23 l24 l25 l26 l27 : Slot}  (h : W0 rm 32 [l0, l1, l2, l3, l4, l5, l6, l7, l8, l9, l10, l11, l12, l13, l14, l15, l16, l17, l18, l19, l20, l21, l22, l23, l24, l25, l26, l27] (.int 2147483647 :: S) (H) Q) : W0 rm 30 [l0, l1, l2, l3, l4, l5, l6, l7, l8, l9, l10, l11, l12, l13, l14, l15, l16, l17, l18, l19, l20, l21, l22, l23, l24, l25, l26, l27] (S) H Q := W.ldcInt at_30 (List.mem_of_getElem? (i := 0) rfl) h
theorem s0_32 {rm : Room} {S : List Value} {H : AHeap} {Q : Option Value → AHeap → Prop} {l0 l1 l2 l3 l4 l5 l6 l7 l8 l9 l10 l11 l12 l13 l14 l15 l16 l17 l18 l19 l20 l21 l22 l23 l24 l25 l26 l27 : Slot} {x y : Int32} (h : W0 rm 33 [l0, l1, l2, l3, l4, l5, l6, l7, l8, l9, l10, l11, l12, l13, l14, l15, l16, l17, l18, l19, l20, l21, l22, l23, l24, l25, l26, l27] (.int (x &&& y) :: S) (H) Q) : W0 rm 32 [l0, l1, l2, l3, l4, l5, l6, l7, l8, l9, l10, l11, l12, l13, l14, l15, l16, l17, l18, l19, l20, l21, l22, l23, l24, l25, l26, l27] (.int y :: .int x :: S) H Q := W.iand at_32 h
theorem s0_33 {rm : Room} {S : List Value} {H : AHeap} {Q : Option Value → AHeap → Prop} {l0 l1 l2 l3 l4 l5 l6 l7 l8 l9 l10 l11 l12 l14 l15 l16 l17 l18 l19 l20 l21 l22 l23 l24 l25 l26 l27 : Slot} {x : Int64} (h : W0 rm 35 [l0, l1, l2, l3, l4, l5, l6, l7, l8, l9, l10, l11, l12, .val (.long x), l14, l15, l16, l17, l18, l19, l20, l21, l22, l23, l24, l25, l26, l27] (.long x :: S) (H) Q) : W0 rm 33 [l0, l1, l2, l3, l4, l5, l6, l7, l8, l9, l10, l11, l12, .val (.long x), l14, l15, l16, l17, l18, l19, l20, l21, l22, l23, l24, l25, l26, l27] (S) H Q := W.lload at_33 rfl h
theorem s0_35 {rm : Room} {S : List Value} {H : AHeap} {Q : Option Value → AHeap → Prop} {l0 l1 l2 l3 l4 l5 l6 l7 l8 l9 l10 l11 l12 l13 l14 l15 l16 l17 l18 l19 l20 l21 l22 l23 l24 l25 l26 l27 : Slot}  (h : W0 rm 38 [l0, l1, l2, l3, l4, l5, l6, l7, l8, l9, l10, l11, l12, l13, l14, l15, l16, l17, l18, l19, l20, l21, l22, l23, l24, l25, l26, l27] (.long 2 :: S) (H) Q) : W0 rm 35 [l0, l1, l2, l3, l4, l5, l6, l7, l8, l9, l10, l11, l12, l13, l14, l15, l16, l17, l18, l19, l20, l21, l22, l23, l24, l25, l26, l27] (S) H Q := W.ldcLong at_35 (List.mem_of_getElem? (i := 1) rfl) h
theorem s0_38 {rm : Room} {S : List Value} {H : AHeap} {Q : Option Value → AHeap → Prop} {l0 l1 l2 l3 l4 l5 l6 l7 l8 l9 l10 l11 l12 l13 l14 l15 l16 l17 l18 l19 l20 l21 l22 l23 l24 l25 l26 l27 : Slot} {x y : Int64} (h : W0 rm 39 [l0, l1, l2, l3, l4, l5, l6, l7, l8, l9, l10, l11, l12, l13, l14, l15, l16, l17, l18, l19, l20, l21, l22, l23, l24, l25, l26, l27] (.long (x - y) :: S) (H) Q) : W0 rm 38 [l0, l1, l2, l3, l4, l5, l6, l7, l8, l9, l10, l11, l12, l13, l14, l15, l16, l17, l18, l19, l20, l21, l22, l23, l24, l25, l26, l27] (.long y :: .long x :: S) H Q := W.lsub at_38 h
theorem s0_39 {rm : Room} {S : List Value} {H : AHeap} {Q : Option Value → AHeap → Prop} {l0 l1 l2 l3 l4 l5 l6 l7 l8 l9 l10 l11 l12 l13 l14 l15 l16 l17 l18 l19 l20 l21 l22 l23 l24 l25 l26 l27 : Slot} {x : Int64} (h : W0 rm 40 [l0, l1, l2, l3, l4, l5, l6, l7, l8, l9, l10, l11, l12, l13, l14, l15, l16, l17, l18, l19, l20, l21, l22, l23, l24, l25, l26, l27] (.int x.toInt32 :: S) (H) Q) : W0 rm 39 [l0, l1, l2, l3, l4, l5, l6, l7, l8, l9, l10, l11, l12, l13, l14, l15, l16, l17, l18, l19, l20, l21, l22, l23, l24, l25, l26, l27] (.long x :: S) H Q := W.l2i at_39 h
theorem s0_40 {rm : Room} {S : List Value} {H : AHeap} {Q : Option Value → AHeap → Prop} {l0 l1 l2 l3 l4 l5 l6 l7 l8 l9 l10 l11 l12 l13 l14 l15 l16 l17 l18 l19 l20 l21 l22 l23 l24 l25 l26 l27 : Slot} {x y : Int32} (hy : y ≠ 0) (h : W0 rm 41 [l0, l1, l2, l3, l4, l5, l6, l7, l8, l9, l10, l11, l12, l13, l14, l15, l16, l17, l18, l19, l20, l21, l22, l23, l24, l25, l26, l27] (.int (x % y) :: S) (H) Q) : W0 rm 40 [l0, l1, l2, l3, l4, l5, l6, l7, l8, l9, l10, l11, l12, l13, l14, l15, l16, l17, l18, l19, l20, l21, l22, l23, l24, l25, l26, l27] (.int y :: .int x :: S) H Q := W.irem at_40 hy h
theorem s0_41 {rm : Room} {S : List Value} {H : AHeap} {Q : Option Value → AHeap → Prop} {l0 l1 l2 l3 l4 l5 l6 l7 l8 l9 l10 l11 l12 l13 l14 l15 l16 l17 l18 l19 l20 l21 l22 l23 l24 l25 l26 l27 : Slot} {x : Int32} (h : W0 rm 42 [l0, l1, l2, l3, l4, l5, l6, l7, l8, l9, l10, l11, l12, l13, l14, l15, l16, l17, l18, l19, l20, l21, l22, l23, l24, l25, l26, l27] (.long x.toInt64 :: S) (H) Q) : W0 rm 41 [l0, l1, l2, l3, l4, l5, l6, l7, l8, l9, l10, l11, l12, l13, l14, l15, l16, l17, l18, l19, l20, l21, l22, l23, l24, l25, l26, l27] (.int x :: S) H Q := W.i2l at_41 h
theorem s0_42 {rm : Room} {S : List Value} {H : AHeap} {Q : Option Value → AHeap → Prop} {l0 l1 l2 l3 l4 l5 l6 l7 l8 l9 l10 l11 l12 l13 l14 l15 l16 l17 l18 l19 l20 l21 l22 l23 l24 l25 l26 l27 : Slot} {x y : Int64} (h : W0 rm 43 [l0, l1, l2, l3, l4, l5, l6, l7, l8, l9, l10, l11, l12, l13, l14, l15, l16, l17, l18, l19, l20, l21, l22, l23, l24, l25, l26, l27] (.long (x + y) :: S) (H) Q) : W0 rm 42 [l0, l1, l2, l3, l4, l5, l6, l7, l8, l9, l10, l11, l12, l13, l14, l15, l16, l17, l18, l19, l20, l21, l22, l23, l24, l25, l26, l27] (.long y :: .long x :: S) H Q := W.ladd at_42 h
theorem s0_43 {rm : Room} {S : List Value} {H : AHeap} {Q : Option Value → AHeap → Prop} {l0 l1 l2 l3 l4 l5 l6 l7 l8 l9 l10 l11 l12 l13 l14 l15 l16 l17 l18 l19 l20 l21 l22 l23 l24 l25 l26 l27 : Slot} {x : Int64} (ho : two l15 l16 = true) (h : W0 rm 45 [l0, l1, l2, l3, l4, l5, l6, l7, l8, l9, l10, l11, l12, l13, l14, .val (.long x), .second, l17, l18, l19, l20, l21, l22, l23, l24, l25, l26, l27] (S) (H) Q) : W0 rm 43 [l0, l1, l2, l3, l4, l5, l6, l7, l8, l9, l10, l11, l12, l13, l14, l15, l16, l17, l18, l19, l20, l21, l22, l23, l24, l25, l26, l27] (.long x :: S) H Q := W.lstore at_43 rfl rfl ho h
theorem s0_45 {rm : Room} {S : List Value} {H : AHeap} {Q : Option Value → AHeap → Prop} {l0 l1 l3 l4 l5 l6 l7 l8 l9 l10 l11 l12 l13 l14 l15 l16 l17 l18 l19 l20 l21 l22 l23 l24 l25 l26 l27 : Slot} {x : Int64} (h : W0 rm 46 [l0, l1, .val (.long x), l3, l4, l5, l6, l7, l8, l9, l10, l11, l12, l13, l14, l15, l16, l17, l18, l19, l20, l21, l22, l23, l24, l25, l26, l27] (.long x :: S) (H) Q) : W0 rm 45 [l0, l1, .val (.long x), l3, l4, l5, l6, l7, l8, l9, l10, l11, l12, l13, l14, l15, l16, l17, l18, l19, l20, l21, l22, l23, l24, l25, l26, l27] (S) H Q := W.lload_n at_45 rfl h
theorem s0_46 {rm : Room} {S : List Value} {H : AHeap} {Q : Option Value → AHeap → Prop} {l0 l1 l2 l3 l4 l5 l6 l7 l8 l9 l10 l12 l13 l14 l15 l16 l17 l18 l19 l20 l21 l22 l23 l24 l25 l26 l27 : Slot} {x : Int64} (h : W0 rm 48 [l0, l1, l2, l3, l4, l5, l6, l7, l8, l9, l10, .val (.long x), l12, l13, l14, l15, l16, l17, l18, l19, l20, l21, l22, l23, l24, l25, l26, l27] (.long x :: S) (H) Q) : W0 rm 46 [l0, l1, l2, l3, l4, l5, l6, l7, l8, l9, l10, .val (.long x), l12, l13, l14, l15, l16, l17, l18, l19, l20, l21, l22, l23, l24, l25, l26, l27] (S) H Q := W.lload at_46 rfl h
theorem s0_48 {rm : Room} {S : List Value} {H : AHeap} {Q : Option Value → AHeap → Prop} {l0 l1 l2 l3 l4 l5 l6 l7 l8 l9 l10 l11 l12 l13 l14 l15 l16 l17 l18 l19 l20 l21 l22 l23 l24 l25 l26 l27 : Slot} {x y : Int64} (h : W0 rm 49 [l0, l1, l2, l3, l4, l5, l6, l7, l8, l9, l10, l11, l12, l13, l14, l15, l16, l17, l18, l19, l20, l21, l22, l23, l24, l25, l26, l27] (.long (x &&& y) :: S) (H) Q) : W0 rm 48 [l0, l1, l2, l3, l4, l5, l6, l7, l8, l9, l10, l11, l12, l13, l14, l15, l16, l17, l18, l19, l20, l21, l22, l23, l24, l25, l26, l27] (.long y :: .long x :: S) H Q := W.land at_48 h
theorem s0_49 {rm : Room} {S : List Value} {H : AHeap} {Q : Option Value → AHeap → Prop} {l0 l1 l2 l3 l4 l5 l6 l7 l8 l9 l10 l11 l12 l13 l14 l15 l16 l17 l18 l19 l20 l21 l22 l23 l24 l25 l26 l27 : Slot} {x : Int64} (ho : two l17 l18 = true) (h : W0 rm 51 [l0, l1, l2, l3, l4, l5, l6, l7, l8, l9, l10, l11, l12, l13, l14, l15, l16, .val (.long x), .second, l19, l20, l21, l22, l23, l24, l25, l26, l27] (S) (H) Q) : W0 rm 49 [l0, l1, l2, l3, l4, l5, l6, l7, l8, l9, l10, l11, l12, l13, l14, l15, l16, l17, l18, l19, l20, l21, l22, l23, l24, l25, l26, l27] (.long x :: S) H Q := W.lstore at_49 rfl rfl ho h
theorem s0_51 {rm : Room} {S : List Value} {H : AHeap} {Q : Option Value → AHeap → Prop} {l0 l1 l2 l3 l5 l6 l7 l8 l9 l10 l11 l12 l13 l14 l15 l16 l17 l18 l19 l20 l21 l22 l23 l24 l25 l26 l27 : Slot} {x : Int64} (h : W0 rm 53 [l0, l1, l2, l3, .val (.long x), l5, l6, l7, l8, l9, l10, l11, l12, l13, l14, l15, l16, l17, l18, l19, l20, l21, l22, l23, l24, l25, l26, l27] (.long x :: S) (H) Q) : W0 rm 51 [l0, l1, l2, l3, .val (.long x), l5, l6, l7, l8, l9, l10, l11, l12, l13, l14, l15, l16, l17, l18, l19, l20, l21, l22, l23, l24, l25, l26, l27] (S) H Q := W.lload at_51 rfl h
theorem s0_53 {rm : Room} {S : List Value} {H : AHeap} {Q : Option Value → AHeap → Prop} {l0 l1 l2 l3 l4 l5 l6 l7 l8 l9 l10 l12 l13 l14 l15 l16 l17 l18 l19 l20 l21 l22 l23 l24 l25 l26 l27 : Slot} {x : Int64} (h : W0 rm 55 [l0, l1, l2, l3, l4, l5, l6, l7, l8, l9, l10, .val (.long x), l12, l13, l14, l15, l16, l17, l18, l19, l20, l21, l22, l23, l24, l25, l26, l27] (.long x :: S) (H) Q) : W0 rm 53 [l0, l1, l2, l3, l4, l5, l6, l7, l8, l9, l10, .val (.long x), l12, l13, l14, l15, l16, l17, l18, l19, l20, l21, l22, l23, l24, l25, l26, l27] (S) H Q := W.lload at_53 rfl h
theorem s0_55 {rm : Room} {S : List Value} {H : AHeap} {Q : Option Value → AHeap → Prop} {l0 l1 l2 l3 l4 l5 l6 l7 l8 l9 l10 l11 l12 l13 l14 l15 l16 l17 l18 l19 l20 l21 l22 l23 l24 l25 l26 l27 : Slot} {x y : Int64} (h : W0 rm 56 [l0, l1, l2, l3, l4, l5, l6, l7, l8, l9, l10, l11, l12, l13, l14, l15, l16, l17, l18, l19, l20, l21, l22, l23, l24, l25, l26, l27] (.long (x &&& y) :: S) (H) Q) : W0 rm 55 [l0, l1, l2, l3, l4, l5, l6, l7, l8, l9, l10, l11, l12, l13, l14, l15, l16, l17, l18, l19, l20, l21, l22, l23, l24, l25, l26, l27] (.long y :: .long x :: S) H Q := W.land at_55 h
theorem s0_56 {rm : Room} {S : List Value} {H : AHeap} {Q : Option Value → AHeap → Prop} {l0 l1 l2 l3 l4 l5 l6 l7 l8 l9 l10 l11 l12 l13 l14 l15 l16 l17 l18 l19 l20 l21 l22 l23 l24 l25 l26 l27 : Slot} {x : Int64} (ho : two l19 l20 = true) (h : W0 rm 58 [l0, l1, l2, l3, l4, l5, l6, l7, l8, l9, l10, l11, l12, l13, l14, l15, l16, l17, l18, .val (.long x), .second, l21, l22, l23, l24, l25, l26, l27] (S) (H) Q) : W0 rm 56 [l0, l1, l2, l3, l4, l5, l6, l7, l8, l9, l10, l11, l12, l13, l14, l15, l16, l17, l18, l19, l20, l21, l22, l23, l24, l25, l26, l27] (.long x :: S) H Q := W.lstore at_56 rfl rfl ho h
theorem s0_58 {rm : Room} {S : List Value} {H : AHeap} {Q : Option Value → AHeap → Prop} {l0 l1 l2 l3 l4 l5 l7 l8 l9 l10 l11 l12 l13 l14 l15 l16 l17 l18 l19 l20 l21 l22 l23 l24 l25 l26 l27 : Slot} {x : Int64} (h : W0 rm 60 [l0, l1, l2, l3, l4, l5, .val (.long x), l7, l8, l9, l10, l11, l12, l13, l14, l15, l16, l17, l18, l19, l20, l21, l22, l23, l24, l25, l26, l27] (.long x :: S) (H) Q) : W0 rm 58 [l0, l1, l2, l3, l4, l5, .val (.long x), l7, l8, l9, l10, l11, l12, l13, l14, l15, l16, l17, l18, l19, l20, l21, l22, l23, l24, l25, l26, l27] (S) H Q := W.lload at_58 rfl h
theorem s0_60 {rm : Room} {S : List Value} {H : AHeap} {Q : Option Value → AHeap → Prop} {l0 l1 l2 l3 l4 l5 l6 l7 l8 l9 l10 l12 l13 l14 l15 l16 l17 l18 l19 l20 l21 l22 l23 l24 l25 l26 l27 : Slot} {x : Int64} (h : W0 rm 62 [l0, l1, l2, l3, l4, l5, l6, l7, l8, l9, l10, .val (.long x), l12, l13, l14, l15, l16, l17, l18, l19, l20, l21, l22, l23, l24, l25, l26, l27] (.long x :: S) (H) Q) : W0 rm 60 [l0, l1, l2, l3, l4, l5, l6, l7, l8, l9, l10, .val (.long x), l12, l13, l14, l15, l16, l17, l18, l19, l20, l21, l22, l23, l24, l25, l26, l27] (S) H Q := W.lload at_60 rfl h
theorem s0_62 {rm : Room} {S : List Value} {H : AHeap} {Q : Option Value → AHeap → Prop} {l0 l1 l2 l3 l4 l5 l6 l7 l8 l9 l10 l11 l12 l13 l14 l15 l16 l17 l18 l19 l20 l21 l22 l23 l24 l25 l26 l27 : Slot} {x y : Int64} (h : W0 rm 63 [l0, l1, l2, l3, l4, l5, l6, l7, l8, l9, l10, l11, l12, l13, l14, l15, l16, l17, l18, l19, l20, l21, l22, l23, l24, l25, l26, l27] (.long (x &&& y) :: S) (H) Q) : W0 rm 62 [l0, l1, l2, l3, l4, l5, l6, l7, l8, l9, l10, l11, l12, l13, l14, l15, l16, l17, l18, l19, l20, l21, l22, l23, l24, l25, l26, l27] (.long y :: .long x :: S) H Q := W.land at_62 h
theorem s0_63 {rm : Room} {S : List Value} {H : AHeap} {Q : Option Value → AHeap → Prop} {l0 l1 l2 l3 l4 l5 l6 l7 l8 l9 l10 l11 l12 l13 l14 l15 l16 l17 l18 l19 l20 l21 l22 l23 l24 l25 l26 l27 : Slot} {x : Int64} (ho : two l21 l22 = true) (h : W0 rm 65 [l0, l1, l2, l3, l4, l5, l6, l7, l8, l9, l10, l11, l12, l13, l14, l15, l16, l17, l18, l19, l20, .val (.long x), .second, l23, l24, l25, l26, l27] (S) (H) Q) : W0 rm 63 [l0, l1, l2, l3, l4, l5, l6, l7, l8, l9, l10, l11, l12, l13, l14, l15, l16, l17, l18, l19, l20, l21, l22, l23, l24, l25, l26, l27] (.long x :: S) H Q := W.lstore at_63 rfl rfl ho h
theorem s0_65 {rm : Room} {S : List Value} {H : AHeap} {Q : Option Value → AHeap → Prop} {l0 l1 l2 l3 l4 l5 l6 l7 l9 l10 l11 l12 l13 l14 l15 l16 l17 l18 l19 l20 l21 l22 l23 l24 l25 l26 l27 : Slot} {x : Int64} (h : W0 rm 67 [l0, l1, l2, l3, l4, l5, l6, l7, .val (.long x), l9, l10, l11, l12, l13, l14, l15, l16, l17, l18, l19, l20, l21, l22, l23, l24, l25, l26, l27] (.long x :: S) (H) Q) : W0 rm 65 [l0, l1, l2, l3, l4, l5, l6, l7, .val (.long x), l9, l10, l11, l12, l13, l14, l15, l16, l17, l18, l19, l20, l21, l22, l23, l24, l25, l26, l27] (S) H Q := W.lload at_65 rfl h
theorem s0_67 {rm : Room} {S : List Value} {H : AHeap} {Q : Option Value → AHeap → Prop} {l0 l1 l2 l3 l4 l5 l6 l7 l8 l9 l10 l12 l13 l14 l15 l16 l17 l18 l19 l20 l21 l22 l23 l24 l25 l26 l27 : Slot} {x : Int64} (h : W0 rm 69 [l0, l1, l2, l3, l4, l5, l6, l7, l8, l9, l10, .val (.long x), l12, l13, l14, l15, l16, l17, l18, l19, l20, l21, l22, l23, l24, l25, l26, l27] (.long x :: S) (H) Q) : W0 rm 67 [l0, l1, l2, l3, l4, l5, l6, l7, l8, l9, l10, .val (.long x), l12, l13, l14, l15, l16, l17, l18, l19, l20, l21, l22, l23, l24, l25, l26, l27] (S) H Q := W.lload at_67 rfl h
theorem s0_69 {rm : Room} {S : List Value} {H : AHeap} {Q : Option Value → AHeap → Prop} {l0 l1 l2 l3 l4 l5 l6 l7 l8 l9 l10 l11 l12 l13 l14 l15 l16 l17 l18 l19 l20 l21 l22 l23 l24 l25 l26 l27 : Slot} {x y : Int64} (h : W0 rm 70 [l0, l1, l2, l3, l4, l5, l6, l7, l8, l9, l10, l11, l12, l13, l14, l15, l16, l17, l18, l19, l20, l21, l22, l23, l24, l25, l26, l27] (.long (x &&& y) :: S) (H) Q) : W0 rm 69 [l0, l1, l2, l3, l4, l5, l6, l7, l8, l9, l10, l11, l12, l13, l14, l15, l16, l17, l18, l19, l20, l21, l22, l23, l24, l25, l26, l27] (.long y :: .long x :: S) H Q := W.land at_69 h
theorem s0_70 {rm : Room} {S : List Value} {H : AHeap} {Q : Option Value → AHeap → Prop} {l0 l1 l2 l3 l4 l5 l6 l7 l8 l9 l10 l11 l12 l13 l14 l15 l16 l17 l18 l19 l20 l21 l22 l23 l24 l25 l26 l27 : Slot} {x : Int64} (ho : two l23 l24 = true) (h : W0 rm 72 [l0, l1, l2, l3, l4, l5, l6, l7, l8, l9, l10, l11, l12, l13, l14, l15, l16, l17, l18, l19, l20, l21, l22, .val (.long x), .second, l25, l26, l27] (S) (H) Q) : W0 rm 70 [l0, l1, l2, l3, l4, l5, l6, l7, l8, l9, l10, l11, l12, l13, l14, l15, l16, l17, l18, l19, l20, l21, l22, l23, l24, l25, l26, l27] (.long x :: S) H Q := W.lstore at_70 rfl rfl ho h
theorem s0_72 {rm : Room} {S : List Value} {H : AHeap} {Q : Option Value → AHeap → Prop} {l0 l1 l2 l3 l4 l5 l6 l7 l8 l9 l10 l11 l12 l13 l14 l15 l16 l17 l18 l19 l20 l21 l22 l23 l24 l25 l26 l27 : Slot} (i : Nat) (hi : H.length = i) (hr : nok rm 4 = true) (h : W0 ⟨rm.frames, rm.cells - 1, rm.slots - 4, rm.locals⟩ 75 [l0, l1, l2, l3, l4, l5, l6, l7, l8, l9, l10, l11, l12, l13, l14, l15, l16, l17, l18, l19, l20, l21, l22, l23, l24, l25, l26, l27] (.ref i :: S) (H ++ [.inl (0, [.null, .long 0, .int 0, .long 0])]) Q) : W0 rm 72 [l0, l1, l2, l3, l4, l5, l6, l7, l8, l9, l10, l11, l12, l13, l14, l15, l16, l17, l18, l19, l20, l21, l22, l23, l24, l25, l26, l27] (S) H Q := W.new (c := 0) kt at_72 (List.mem_of_getElem? (i := 2) rfl) (List.mem_of_getElem? (i := 4) rfl) rfl hi hr h
theorem s0_75 {rm : Room} {S : List Value} {H : AHeap} {Q : Option Value → AHeap → Prop} {l0 l1 l2 l3 l4 l5 l6 l7 l8 l9 l10 l11 l12 l13 l14 l15 l16 l17 l18 l19 l20 l21 l22 l23 l24 l25 l26 l27 : Slot} {v : Value} (hc : v.category = 1) (h : W0 rm 76 [l0, l1, l2, l3, l4, l5, l6, l7, l8, l9, l10, l11, l12, l13, l14, l15, l16, l17, l18, l19, l20, l21, l22, l23, l24, l25, l26, l27] (v :: v :: S) (H) Q) : W0 rm 75 [l0, l1, l2, l3, l4, l5, l6, l7, l8, l9, l10, l11, l12, l13, l14, l15, l16, l17, l18, l19, l20, l21, l22, l23, l24, l25, l26, l27] (v :: S) H Q := W.dup at_75 hc h
theorem s0_76 {rm : Room} {S : List Value} {H : AHeap} {Q : Option Value → AHeap → Prop} {l0 l1 l2 l3 l4 l5 l6 l7 l8 l9 l10 l11 l12 l14 l15 l16 l17 l18 l19 l20 l21 l22 l23 l24 l25 l26 l27 : Slot} {x : Int64} (h : W0 rm 78 [l0, l1, l2, l3, l4, l5, l6, l7, l8, l9, l10, l11, l12, .val (.long x), l14, l15, l16, l17, l18, l19, l20, l21, l22, l23, l24, l25, l26, l27] (.long x :: S) (H) Q) : W0 rm 76 [l0, l1, l2, l3, l4, l5, l6, l7, l8, l9, l10, l11, l12, .val (.long x), l14, l15, l16, l17, l18, l19, l20, l21, l22, l23, l24, l25, l26, l27] (S) H Q := W.lload at_76 rfl h
theorem s0_78 {rm : Room} {S : List Value} {H : AHeap} {Q : Option Value → AHeap → Prop} {l0 l1 l2 l3 l4 l5 l6 l7 l8 l9 l11 l12 l13 l14 l15 l16 l17 l18 l19 l20 l21 l22 l23 l24 l25 l26 l27 : Slot} {x : Int32} (h : W0 rm 80 [l0, l1, l2, l3, l4, l5, l6, l7, l8, l9, .val (.int x), l11, l12, l13, l14, l15, l16, l17, l18, l19, l20, l21, l22, l23, l24, l25, l26, l27] (.int x :: S) (H) Q) : W0 rm 78 [l0, l1, l2, l3, l4, l5, l6, l7, l8, l9, .val (.int x), l11, l12, l13, l14, l15, l16, l17, l18, l19, l20, l21, l22, l23, l24, l25, l26, l27] (S) H Q := W.iload at_78 rfl h
theorem s0_80 {rm : Room} {S : List Value} {H : AHeap} {Q : Option Value → AHeap → Prop} {l0 l1 l2 l3 l4 l5 l6 l7 l8 l9 l10 l11 l12 l13 l14 l15 l16 l17 l18 l19 l20 l21 l22 l23 l24 l25 l26 l27 : Slot} {rm' : Room} {H' : AHeap} {i : Nat} {a0 : Int64} {a1 : Int32}  (hM : M1 rm' [.ref i, .long a0, .int a1] H (Is none H')) (hr : rok rm rm' 4 S = true) (h : W0 (less rm rm') 83 [l0, l1, l2, l3, l4, l5, l6, l7, l8, l9, l10, l11, l12, l13, l14, l15, l16, l17, l18, l19, l20, l21, l22, l23, l24, l25, l26, l27] (S) H' Q) : W0 rm 80 [l0, l1, l2, l3, l4, l5, l6, l7, l8, l9, l10, l11, l12, l13, l14, l15, l16, l17, l18, l19, l20, l21, l22, l23, l24, l25, l26, l27] (.int a1 :: .long a0 :: .ref i :: S) H Q := W.callI (S := S) (as := [.long a0, .int a1]) (rm' := rm') at_80 rfl rfl (List.mem_of_getElem? (i := 5) rfl) (List.mem_of_getElem? (i := 6) rfl) (List.mem_of_getElem? (i := 4) rfl) (List.mem_of_getElem? (i := 7) rfl) (by decide) pd1 rfl rfl hM hr (fun _ _ q => by obtain ⟨rfl, rfl⟩ := q; exact h)
theorem s0_80q {rm : Room} {S : List Value} {H : AHeap} {Q : Option Value → AHeap → Prop} {l0 l1 l2 l3 l4 l5 l6 l7 l8 l9 l10 l11 l12 l13 l14 l15 l16 l17 l18 l19 l20 l21 l22 l23 l24 l25 l26 l27 : Slot} {rm' : Room} {Q' : Option Value → AHeap → Prop} {i : Nat} {a0 a1 : Value} (hM : M1 rm' [.ref i, a0, a1] H Q') (hr : rok rm rm' 4 S = true) (h : ∀ v H', Q' v H' → W0 (less rm rm') 83 [l0, l1, l2, l3, l4, l5, l6, l7, l8, l9, l10, l11, l12, l13, l14, l15, l16, l17, l18, l19, l20, l21, l22, l23, l24, l25, l26, l27] (v.toList ++ S) H' Q) : W0 rm 80 [l0, l1, l2, l3, l4, l5, l6, l7, l8, l9, l10, l11, l12, l13, l14, l15, l16, l17, l18, l19, l20, l21, l22, l23, l24, l25, l26, l27] (a1 :: a0 :: .ref i :: S) H Q := W.callI (S := S) (as := [a0, a1]) (rm' := rm') at_80 rfl rfl (List.mem_of_getElem? (i := 5) rfl) (List.mem_of_getElem? (i := 6) rfl) (List.mem_of_getElem? (i := 4) rfl) (List.mem_of_getElem? (i := 7) rfl) (by decide) pd1 rfl rfl hM hr h
theorem s0_83 {rm : Room} {S : List Value} {H : AHeap} {Q : Option Value → AHeap → Prop} {l0 l1 l2 l3 l4 l5 l6 l7 l8 l9 l10 l11 l12 l13 l14 l15 l16 l17 l18 l19 l20 l21 l22 l23 l24 l25 l26 l27 : Slot} {i : Nat} (ho : one l25 = true) (h : W0 rm 85 [l0, l1, l2, l3, l4, l5, l6, l7, l8, l9, l10, l11, l12, l13, l14, l15, l16, l17, l18, l19, l20, l21, l22, l23, l24, .val (.ref i), l26, l27] (S) (H) Q) : W0 rm 83 [l0, l1, l2, l3, l4, l5, l6, l7, l8, l9, l10, l11, l12, l13, l14, l15, l16, l17, l18, l19, l20, l21, l22, l23, l24, l25, l26, l27] (.ref i :: S) H Q := W.astore at_83 rfl ho rfl h
theorem s0_85 {rm : Room} {S : List Value} {H : AHeap} {Q : Option Value → AHeap → Prop} {l0 l1 l2 l3 l4 l5 l6 l7 l8 l9 l10 l11 l12 l13 l14 l15 l16 l17 l18 l19 l20 l21 l22 l23 l24 l26 l27 : Slot} {i : Nat} (h : W0 rm 87 [l0, l1, l2, l3, l4, l5, l6, l7, l8, l9, l10, l11, l12, l13, l14, l15, l16, l17, l18, l19, l20, l21, l22, l23, l24, .val (.ref i), l26, l27] (.ref i :: S) (H) Q) : W0 rm 85 [l0, l1, l2, l3, l4, l5, l6, l7, l8, l9, l10, l11, l12, l13, l14, l15, l16, l17, l18, l19, l20, l21, l22, l23, l24, .val (.ref i), l26, l27] (S) H Q := W.aload at_85 rfl rfl h
theorem s0_85n {rm : Room} {S : List Value} {H : AHeap} {Q : Option Value → AHeap → Prop} {l0 l1 l2 l3 l4 l5 l6 l7 l8 l9 l10 l11 l12 l13 l14 l15 l16 l17 l18 l19 l20 l21 l22 l23 l24 l26 l27 : Slot}  (h : W0 rm 87 [l0, l1, l2, l3, l4, l5, l6, l7, l8, l9, l10, l11, l12, l13, l14, l15, l16, l17, l18, l19, l20, l21, l22, l23, l24, .val .null, l26, l27] (.null :: S) (H) Q) : W0 rm 85 [l0, l1, l2, l3, l4, l5, l6, l7, l8, l9, l10, l11, l12, l13, l14, l15, l16, l17, l18, l19, l20, l21, l22, l23, l24, .val .null, l26, l27] (S) H Q := W.aload at_85 rfl rfl h
theorem s0_87 {rm : Room} {S : List Value} {H : AHeap} {Q : Option Value → AHeap → Prop} {l0 l1 l2 l3 l4 l5 l6 l7 l8 l9 l10 l11 l12 l13 l14 l16 l17 l18 l19 l20 l21 l22 l23 l24 l25 l26 l27 : Slot} {x : Int64} (h : W0 rm 89 [l0, l1, l2, l3, l4, l5, l6, l7, l8, l9, l10, l11, l12, l13, l14, .val (.long x), l16, l17, l18, l19, l20, l21, l22, l23, l24, l25, l26, l27] (.long x :: S) (H) Q) : W0 rm 87 [l0, l1, l2, l3, l4, l5, l6, l7, l8, l9, l10, l11, l12, l13, l14, .val (.long x), l16, l17, l18, l19, l20, l21, l22, l23, l24, l25, l26, l27] (S) H Q := W.lload at_87 rfl h
theorem s0_89 {rm : Room} {S : List Value} {H : AHeap} {Q : Option Value → AHeap → Prop} {l0 l1 l2 l3 l4 l5 l6 l7 l8 l9 l10 l11 l12 l13 l14 l15 l16 l17 l18 l19 l20 l21 l22 l23 l24 l25 l26 l27 : Slot}  (h : W0 rm 90 [l0, l1, l2, l3, l4, l5, l6, l7, l8, l9, l10, l11, l12, l13, l14, l15, l16, l17, l18, l19, l20, l21, l22, l23, l24, l25, l26, l27] (.long 1 :: S) (H) Q) : W0 rm 89 [l0, l1, l2, l3, l4, l5, l6, l7, l8, l9, l10, l11, l12, l13, l14, l15, l16, l17, l18, l19, l20, l21, l22, l23, l24, l25, l26, l27] (S) H Q := W.lconst' at_89 (by decide) h
theorem s0_90 {rm : Room} {S : List Value} {H : AHeap} {Q : Option Value → AHeap → Prop} {l0 l1 l2 l3 l4 l5 l6 l7 l8 l9 l10 l11 l12 l13 l14 l15 l16 l17 l18 l19 l20 l21 l22 l23 l24 l25 l26 l27 : Slot} {x y : Int64} (h : W0 rm 91 [l0, l1, l2, l3, l4, l5, l6, l7, l8, l9, l10, l11, l12, l13, l14, l15, l16, l17, l18, l19, l20, l21, l22, l23, l24, l25, l26, l27] (.long (x - y) :: S) (H) Q) : W0 rm 90 [l0, l1, l2, l3, l4, l5, l6, l7, l8, l9, l10, l11, l12, l13, l14, l15, l16, l17, l18, l19, l20, l21, l22, l23, l24, l25, l26, l27] (.long y :: .long x :: S) H Q := W.lsub at_90 h
theorem s0_91 {rm : Room} {S : List Value} {H : AHeap} {Q : Option Value → AHeap → Prop} {l0 l1 l2 l3 l4 l5 l6 l7 l8 l9 l10 l11 l12 l13 l14 l15 l16 l18 l19 l20 l21 l22 l23 l24 l25 l26 l27 : Slot} {x : Int64} (h : W0 rm 93 [l0, l1, l2, l3, l4, l5, l6, l7, l8, l9, l10, l11, l12, l13, l14, l15, l16, .val (.long x), l18, l19, l20, l21, l22, l23, l24, l25, l26, l27] (.long x :: S) (H) Q) : W0 rm 91 [l0, l1, l2, l3, l4, l5, l6, l7, l8, l9, l10, l11, l12, l13, l14, l15, l16, .val (.long x), l18, l19, l20, l21, l22, l23, l24, l25, l26, l27] (S) H Q := W.lload at_91 rfl h
theorem s0_93 {rm : Room} {S : List Value} {H : AHeap} {Q : Option Value → AHeap → Prop} {l0 l1 l2 l3 l4 l5 l6 l7 l8 l9 l10 l11 l12 l13 l14 l15 l16 l17 l18 l19 l20 l21 l22 l23 l24 l25 l26 l27 : Slot} {rm' : Room} {H' : AHeap} {i : Nat} {vs : List Value} {a0 : Int64} {a1 : Int64}  (hH : H[i]? = some (.inl (0, vs))) (hM : M3 rm' [.ref i, .long a0, .long a1] H (Is none H')) (hr : rok rm rm' 9 S = true) (h : W0 (less rm rm') 96 [l0, l1, l2, l3, l4, l5, l6, l7, l8, l9, l10, l11, l12, l13, l14, l15, l16, l17, l18, l19, l20, l21, l22, l23, l24, l25, l26, l27] (S) H' Q) : W0 rm 93 [l0, l1, l2, l3, l4, l5, l6, l7, l8, l9, l10, l11, l12, l13, l14, l15, l16, l17, l18, l19, l20, l21, l22, l23, l24, l25, l26, l27] (.long a1 :: .long a0 :: .ref i :: S) H Q := W.callV (c := 0) (S := S) (as := [.long a0, .long a1]) (rm' := rm') at_93 (List.mem_of_getElem? (i := 25) rfl) (List.mem_of_getElem? (i := 26) rfl) (List.mem_of_getElem? (i := 28) rfl) (Or.inl rfl) kt (List.mem_of_getElem? (i := 27) rfl) (List.mem_of_getElem? (i := 4) rfl) (List.mem_of_getElem? (i := 29) rfl) (by decide) rfl pd3 rfl rfl hH hM hr (fun _ _ q => by obtain ⟨rfl, rfl⟩ := q; exact h)
theorem s0_93q {rm : Room} {S : List Value} {H : AHeap} {Q : Option Value → AHeap → Prop} {l0 l1 l2 l3 l4 l5 l6 l7 l8 l9 l10 l11 l12 l13 l14 l15 l16 l17 l18 l19 l20 l21 l22 l23 l24 l25 l26 l27 : Slot} {rm' : Room} {Q' : Option Value → AHeap → Prop} {i : Nat} {vs : List Value} {a0 a1 : Value} (hH : H[i]? = some (.inl (0, vs))) (hM : M3 rm' [.ref i, a0, a1] H Q') (hr : rok rm rm' 9 S = true) (h : ∀ v H', Q' v H' → W0 (less rm rm') 96 [l0, l1, l2, l3, l4, l5, l6, l7, l8, l9, l10, l11, l12, l13, l14, l15, l16, l17, l18, l19, l20, l21, l22, l23, l24, l25, l26, l27] (v.toList ++ S) H' Q) : W0 rm 93 [l0, l1, l2, l3, l4, l5, l6, l7, l8, l9, l10, l11, l12, l13, l14, l15, l16, l17, l18, l19, l20, l21, l22, l23, l24, l25, l26, l27] (a1 :: a0 :: .ref i :: S) H Q := W.callV (c := 0) (S := S) (as := [a0, a1]) (rm' := rm') at_93 (List.mem_of_getElem? (i := 25) rfl) (List.mem_of_getElem? (i := 26) rfl) (List.mem_of_getElem? (i := 28) rfl) (Or.inl rfl) kt (List.mem_of_getElem? (i := 27) rfl) (List.mem_of_getElem? (i := 4) rfl) (List.mem_of_getElem? (i := 29) rfl) (by decide) rfl pd3 rfl rfl hH hM hr h
theorem s0_96 {rm : Room} {S : List Value} {H : AHeap} {Q : Option Value → AHeap → Prop} {l0 l1 l2 l3 l4 l5 l6 l7 l8 l9 l10 l11 l12 l13 l14 l15 l16 l17 l18 l19 l20 l21 l22 l23 l24 l26 l27 : Slot} {i : Nat} (h : W0 rm 98 [l0, l1, l2, l3, l4, l5, l6, l7, l8, l9, l10, l11, l12, l13, l14, l15, l16, l17, l18, l19, l20, l21, l22, l23, l24, .val (.ref i), l26, l27] (.ref i :: S) (H) Q) : W0 rm 96 [l0, l1, l2, l3, l4, l5, l6, l7, l8, l9, l10, l11, l12, l13, l14, l15, l16, l17, l18, l19, l20, l21, l22, l23, l24, .val (.ref i), l26, l27] (S) H Q := W.aload at_96 rfl rfl h
theorem s0_96n {rm : Room} {S : List Value} {H : AHeap} {Q : Option Value → AHeap → Prop} {l0 l1 l2 l3 l4 l5 l6 l7 l8 l9 l10 l11 l12 l13 l14 l15 l16 l17 l18 l19 l20 l21 l22 l23 l24 l26 l27 : Slot}  (h : W0 rm 98 [l0, l1, l2, l3, l4, l5, l6, l7, l8, l9, l10, l11, l12, l13, l14, l15, l16, l17, l18, l19, l20, l21, l22, l23, l24, .val .null, l26, l27] (.null :: S) (H) Q) : W0 rm 96 [l0, l1, l2, l3, l4, l5, l6, l7, l8, l9, l10, l11, l12, l13, l14, l15, l16, l17, l18, l19, l20, l21, l22, l23, l24, .val .null, l26, l27] (S) H Q := W.aload at_96 rfl rfl h
theorem s0_98 {rm : Room} {S : List Value} {H : AHeap} {Q : Option Value → AHeap → Prop} {l0 l1 l2 l3 l4 l5 l6 l7 l8 l9 l10 l11 l12 l13 l14 l16 l17 l18 l19 l20 l21 l22 l23 l24 l25 l26 l27 : Slot} {x : Int64} (h : W0 rm 100 [l0, l1, l2, l3, l4, l5, l6, l7, l8, l9, l10, l11, l12, l13, l14, .val (.long x), l16, l17, l18, l19, l20, l21, l22, l23, l24, l25, l26, l27] (.long x :: S) (H) Q) : W0 rm 98 [l0, l1, l2, l3, l4, l5, l6, l7, l8, l9, l10, l11, l12, l13, l14, .val (.long x), l16, l17, l18, l19, l20, l21, l22, l23, l24, l25, l26, l27] (S) H Q := W.lload at_98 rfl h
theorem s0_100 {rm : Room} {S : List Value} {H : AHeap} {Q : Option Value → AHeap → Prop} {l0 l1 l2 l3 l4 l5 l6 l7 l8 l9 l10 l11 l12 l13 l14 l15 l16 l17 l18 l19 l20 l21 l22 l23 l24 l25 l26 l27 : Slot}  (h : W0 rm 101 [l0, l1, l2, l3, l4, l5, l6, l7, l8, l9, l10, l11, l12, l13, l14, l15, l16, l17, l18, l19, l20, l21, l22, l23, l24, l25, l26, l27] (.long 1 :: S) (H) Q) : W0 rm 100 [l0, l1, l2, l3, l4, l5, l6, l7, l8, l9, l10, l11, l12, l13, l14, l15, l16, l17, l18, l19, l20, l21, l22, l23, l24, l25, l26, l27] (S) H Q := W.lconst' at_100 (by decide) h
theorem s0_101 {rm : Room} {S : List Value} {H : AHeap} {Q : Option Value → AHeap → Prop} {l0 l1 l2 l3 l4 l5 l6 l7 l8 l9 l10 l11 l12 l13 l14 l15 l16 l17 l18 l19 l20 l21 l22 l23 l24 l25 l26 l27 : Slot} {x y : Int64} (h : W0 rm 102 [l0, l1, l2, l3, l4, l5, l6, l7, l8, l9, l10, l11, l12, l13, l14, l15, l16, l17, l18, l19, l20, l21, l22, l23, l24, l25, l26, l27] (.long (x + y) :: S) (H) Q) : W0 rm 101 [l0, l1, l2, l3, l4, l5, l6, l7, l8, l9, l10, l11, l12, l13, l14, l15, l16, l17, l18, l19, l20, l21, l22, l23, l24, l25, l26, l27] (.long y :: .long x :: S) H Q := W.ladd at_101 h
theorem s0_102 {rm : Room} {S : List Value} {H : AHeap} {Q : Option Value → AHeap → Prop} {l0 l1 l2 l3 l4 l5 l6 l7 l8 l9 l10 l11 l12 l13 l14 l15 l16 l17 l18 l20 l21 l22 l23 l24 l25 l26 l27 : Slot} {x : Int64} (h : W0 rm 104 [l0, l1, l2, l3, l4, l5, l6, l7, l8, l9, l10, l11, l12, l13, l14, l15, l16, l17, l18, .val (.long x), l20, l21, l22, l23, l24, l25, l26, l27] (.long x :: S) (H) Q) : W0 rm 102 [l0, l1, l2, l3, l4, l5, l6, l7, l8, l9, l10, l11, l12, l13, l14, l15, l16, l17, l18, .val (.long x), l20, l21, l22, l23, l24, l25, l26, l27] (S) H Q := W.lload at_102 rfl h
theorem s0_104 {rm : Room} {S : List Value} {H : AHeap} {Q : Option Value → AHeap → Prop} {l0 l1 l2 l3 l4 l5 l6 l7 l8 l9 l10 l11 l12 l13 l14 l15 l16 l17 l18 l19 l20 l21 l22 l23 l24 l25 l26 l27 : Slot} {rm' : Room} {H' : AHeap} {i : Nat} {vs : List Value} {a0 : Int64} {a1 : Int64}  (hH : H[i]? = some (.inl (0, vs))) (hM : M3 rm' [.ref i, .long a0, .long a1] H (Is none H')) (hr : rok rm rm' 9 S = true) (h : W0 (less rm rm') 107 [l0, l1, l2, l3, l4, l5, l6, l7, l8, l9, l10, l11, l12, l13, l14, l15, l16, l17, l18, l19, l20, l21, l22, l23, l24, l25, l26, l27] (S) H' Q) : W0 rm 104 [l0, l1, l2, l3, l4, l5, l6, l7, l8, l9, l10, l11, l12, l13, l14, l15, l16, l17, l18, l19, l20, l21, l22, l23, l24, l25, l26, l27] (.long a1 :: .long a0 :: .ref i :: S) H Q := W.callV (c := 0) (S := S) (as := [.long a0, .long a1]) (rm' := rm') at_104 (List.mem_of_getElem? (i := 25) rfl) (List.mem_of_getElem? (i := 26) rfl) (List.mem_of_getElem? (i := 28) rfl) (Or.inl rfl) kt (List.mem_of_getElem? (i := 27) rfl) (List.mem_of_getElem? (i := 4) rfl) (List.mem_of_getElem? (i := 29) rfl) (by decide) rfl pd3 rfl rfl hH hM hr (fun _ _ q => by obtain ⟨rfl, rfl⟩ := q; exact h)
theorem s0_104q {rm : Room} {S : List Value} {H : AHeap} {Q : Option Value → AHeap → Prop} {l0 l1 l2 l3 l4 l5 l6 l7 l8 l9 l10 l11 l12 l13 l14 l15 l16 l17 l18 l19 l20 l21 l22 l23 l24 l25 l26 l27 : Slot} {rm' : Room} {Q' : Option Value → AHeap → Prop} {i : Nat} {vs : List Value} {a0 a1 : Value} (hH : H[i]? = some (.inl (0, vs))) (hM : M3 rm' [.ref i, a0, a1] H Q') (hr : rok rm rm' 9 S = true) (h : ∀ v H', Q' v H' → W0 (less rm rm') 107 [l0, l1, l2, l3, l4, l5, l6, l7, l8, l9, l10, l11, l12, l13, l14, l15, l16, l17, l18, l19, l20, l21, l22, l23, l24, l25, l26, l27] (v.toList ++ S) H' Q) : W0 rm 104 [l0, l1, l2, l3, l4, l5, l6, l7, l8, l9, l10, l11, l12, l13, l14, l15, l16, l17, l18, l19, l20, l21, l22, l23, l24, l25, l26, l27] (a1 :: a0 :: .ref i :: S) H Q := W.callV (c := 0) (S := S) (as := [a0, a1]) (rm' := rm') at_104 (List.mem_of_getElem? (i := 25) rfl) (List.mem_of_getElem? (i := 26) rfl) (List.mem_of_getElem? (i := 28) rfl) (Or.inl rfl) kt (List.mem_of_getElem? (i := 27) rfl) (List.mem_of_getElem? (i := 4) rfl) (List.mem_of_getElem? (i := 29) rfl) (by decide) rfl pd3 rfl rfl hH hM hr h
theorem s0_107 {rm : Room} {S : List Value} {H : AHeap} {Q : Option Value → AHeap → Prop} {l0 l1 l2 l3 l4 l5 l6 l7 l8 l9 l10 l11 l12 l13 l14 l15 l16 l17 l18 l19 l20 l21 l22 l23 l24 l26 l27 : Slot} {i : Nat} (h : W0 rm 109 [l0, l1, l2, l3, l4, l5, l6, l7, l8, l9, l10, l11, l12, l13, l14, l15, l16, l17, l18, l19, l20, l21, l22, l23, l24, .val (.ref i), l26, l27] (.ref i :: S) (H) Q) : W0 rm 107 [l0, l1, l2, l3, l4, l5, l6, l7, l8, l9, l10, l11, l12, l13, l14, l15, l16, l17, l18, l19, l20, l21, l22, l23, l24, .val (.ref i), l26, l27] (S) H Q := W.aload at_107 rfl rfl h
theorem s0_107n {rm : Room} {S : List Value} {H : AHeap} {Q : Option Value → AHeap → Prop} {l0 l1 l2 l3 l4 l5 l6 l7 l8 l9 l10 l11 l12 l13 l14 l15 l16 l17 l18 l19 l20 l21 l22 l23 l24 l26 l27 : Slot}  (h : W0 rm 109 [l0, l1, l2, l3, l4, l5, l6, l7, l8, l9, l10, l11, l12, l13, l14, l15, l16, l17, l18, l19, l20, l21, l22, l23, l24, .val .null, l26, l27] (.null :: S) (H) Q) : W0 rm 107 [l0, l1, l2, l3, l4, l5, l6, l7, l8, l9, l10, l11, l12, l13, l14, l15, l16, l17, l18, l19, l20, l21, l22, l23, l24, .val .null, l26, l27] (S) H Q := W.aload at_107 rfl rfl h
theorem s0_109 {rm : Room} {S : List Value} {H : AHeap} {Q : Option Value → AHeap → Prop} {l0 l1 l2 l3 l4 l5 l6 l7 l8 l9 l10 l11 l12 l13 l14 l16 l17 l18 l19 l20 l21 l22 l23 l24 l25 l26 l27 : Slot} {x : Int64} (h : W0 rm 111 [l0, l1, l2, l3, l4, l5, l6, l7, l8, l9, l10, l11, l12, l13, l14, .val (.long x), l16, l17, l18, l19, l20, l21, l22, l23, l24, l25, l26, l27] (.long x :: S) (H) Q) : W0 rm 109 [l0, l1, l2, l3, l4, l5, l6, l7, l8, l9, l10, l11, l12, l13, l14, .val (.long x), l16, l17, l18, l19, l20, l21, l22, l23, l24, l25, l26, l27] (S) H Q := W.lload at_109 rfl h
theorem s0_111 {rm : Room} {S : List Value} {H : AHeap} {Q : Option Value → AHeap → Prop} {l0 l1 l2 l3 l4 l5 l6 l7 l8 l9 l10 l11 l12 l13 l14 l15 l16 l17 l18 l19 l20 l22 l23 l24 l25 l26 l27 : Slot} {x : Int64} (h : W0 rm 113 [l0, l1, l2, l3, l4, l5, l6, l7, l8, l9, l10, l11, l12, l13, l14, l15, l16, l17, l18, l19, l20, .val (.long x), l22, l23, l24, l25, l26, l27] (.long x :: S) (H) Q) : W0 rm 111 [l0, l1, l2, l3, l4, l5, l6, l7, l8, l9, l10, l11, l12, l13, l14, l15, l16, l17, l18, l19, l20, .val (.long x), l22, l23, l24, l25, l26, l27] (S) H Q := W.lload at_111 rfl h
theorem s0_113 {rm : Room} {S : List Value} {H : AHeap} {Q : Option Value → AHeap → Prop} {l0 l1 l2 l3 l4 l5 l6 l7 l8 l9 l10 l11 l12 l13 l14 l15 l16 l17 l18 l19 l20 l21 l22 l23 l24 l25 l26 l27 : Slot} {rm' : Room} {H' : AHeap} {i : Nat} {vs : List Value} {a0 : Int64} {a1 : Int64}  (hH : H[i]? = some (.inl (0, vs))) (hM : M3 rm' [.ref i, .long a0, .long a1] H (Is none H')) (hr : rok rm rm' 9 S = true) (h : W0 (less rm rm') 116 [l0, l1, l2, l3, l4, l5, l6, l7, l8, l9, l10, l11, l12, l13, l14, l15, l16, l17, l18, l19, l20, l21, l22, l23, l24, l25, l26, l27] (S) H' Q) : W0 rm 113 [l0, l1, l2, l3, l4, l5, l6, l7, l8, l9, l10, l11, l12, l13, l14, l15, l16, l17, l18, l19, l20, l21, l22, l23, l24, l25, l26, l27] (.long a1 :: .long a0 :: .ref i :: S) H Q := W.callV (c := 0) (S := S) (as := [.long a0, .long a1]) (rm' := rm') at_113 (List.mem_of_getElem? (i := 25) rfl) (List.mem_of_getElem? (i := 26) rfl) (List.mem_of_getElem? (i := 28) rfl) (Or.inl rfl) kt (List.mem_of_getElem? (i := 27) rfl) (List.mem_of_getElem? (i := 4) rfl) (List.mem_of_getElem? (i := 29) rfl) (by decide) rfl pd3 rfl rfl hH hM hr (fun _ _ q => by obtain ⟨rfl, rfl⟩ := q; exact h)
theorem s0_113q {rm : Room} {S : List Value} {H : AHeap} {Q : Option Value → AHeap → Prop} {l0 l1 l2 l3 l4 l5 l6 l7 l8 l9 l10 l11 l12 l13 l14 l15 l16 l17 l18 l19 l20 l21 l22 l23 l24 l25 l26 l27 : Slot} {rm' : Room} {Q' : Option Value → AHeap → Prop} {i : Nat} {vs : List Value} {a0 a1 : Value} (hH : H[i]? = some (.inl (0, vs))) (hM : M3 rm' [.ref i, a0, a1] H Q') (hr : rok rm rm' 9 S = true) (h : ∀ v H', Q' v H' → W0 (less rm rm') 116 [l0, l1, l2, l3, l4, l5, l6, l7, l8, l9, l10, l11, l12, l13, l14, l15, l16, l17, l18, l19, l20, l21, l22, l23, l24, l25, l26, l27] (v.toList ++ S) H' Q) : W0 rm 113 [l0, l1, l2, l3, l4, l5, l6, l7, l8, l9, l10, l11, l12, l13, l14, l15, l16, l17, l18, l19, l20, l21, l22, l23, l24, l25, l26, l27] (a1 :: a0 :: .ref i :: S) H Q := W.callV (c := 0) (S := S) (as := [a0, a1]) (rm' := rm') at_113 (List.mem_of_getElem? (i := 25) rfl) (List.mem_of_getElem? (i := 26) rfl) (List.mem_of_getElem? (i := 28) rfl) (Or.inl rfl) kt (List.mem_of_getElem? (i := 27) rfl) (List.mem_of_getElem? (i := 4) rfl) (List.mem_of_getElem? (i := 29) rfl) (by decide) rfl pd3 rfl rfl hH hM hr h
theorem s0_116 {rm : Room} {S : List Value} {H : AHeap} {Q : Option Value → AHeap → Prop} {l0 l1 l2 l3 l4 l5 l6 l7 l8 l9 l10 l11 l12 l13 l14 l15 l16 l17 l18 l19 l20 l21 l22 l23 l24 l26 l27 : Slot} {i : Nat} (h : W0 rm 118 [l0, l1, l2, l3, l4, l5, l6, l7, l8, l9, l10, l11, l12, l13, l14, l15, l16, l17, l18, l19, l20, l21, l22, l23, l24, .val (.ref i), l26, l27] (.ref i :: S) (H) Q) : W0 rm 116 [l0, l1, l2, l3, l4, l5, l6, l7, l8, l9, l10, l11, l12, l13, l14, l15, l16, l17, l18, l19, l20, l21, l22, l23, l24, .val (.ref i), l26, l27] (S) H Q := W.aload at_116 rfl rfl h
theorem s0_116n {rm : Room} {S : List Value} {H : AHeap} {Q : Option Value → AHeap → Prop} {l0 l1 l2 l3 l4 l5 l6 l7 l8 l9 l10 l11 l12 l13 l14 l15 l16 l17 l18 l19 l20 l21 l22 l23 l24 l26 l27 : Slot}  (h : W0 rm 118 [l0, l1, l2, l3, l4, l5, l6, l7, l8, l9, l10, l11, l12, l13, l14, l15, l16, l17, l18, l19, l20, l21, l22, l23, l24, .val .null, l26, l27] (.null :: S) (H) Q) : W0 rm 116 [l0, l1, l2, l3, l4, l5, l6, l7, l8, l9, l10, l11, l12, l13, l14, l15, l16, l17, l18, l19, l20, l21, l22, l23, l24, .val .null, l26, l27] (S) H Q := W.aload at_116 rfl rfl h
theorem s0_118 {rm : Room} {S : List Value} {H : AHeap} {Q : Option Value → AHeap → Prop} {l0 l1 l2 l3 l4 l5 l6 l7 l8 l9 l10 l11 l12 l13 l14 l16 l17 l18 l19 l20 l21 l22 l23 l24 l25 l26 l27 : Slot} {x : Int64} (h : W0 rm 120 [l0, l1, l2, l3, l4, l5, l6, l7, l8, l9, l10, l11, l12, l13, l14, .val (.long x), l16, l17, l18, l19, l20, l21, l22, l23, l24, l25, l26, l27] (.long x :: S) (H) Q) : W0 rm 118 [l0, l1, l2, l3, l4, l5, l6, l7, l8, l9, l10, l11, l12, l13, l14, .val (.long x), l16, l17, l18, l19, l20, l21, l22, l23, l24, l25, l26, l27] (S) H Q := W.lload at_118 rfl h
theorem s0_120 {rm : Room} {S : List Value} {H : AHeap} {Q : Option Value → AHeap → Prop} {l0 l1 l2 l3 l4 l5 l6 l7 l8 l9 l10 l11 l12 l13 l14 l15 l16 l17 l18 l19 l20 l21 l22 l24 l25 l26 l27 : Slot} {x : Int64} (h : W0 rm 122 [l0, l1, l2, l3, l4, l5, l6, l7, l8, l9, l10, l11, l12, l13, l14, l15, l16, l17, l18, l19, l20, l21, l22, .val (.long x), l24, l25, l26, l27] (.long x :: S) (H) Q) : W0 rm 120 [l0, l1, l2, l3, l4, l5, l6, l7, l8, l9, l10, l11, l12, l13, l14, l15, l16, l17, l18, l19, l20, l21, l22, .val (.long x), l24, l25, l26, l27] (S) H Q := W.lload at_120 rfl h
theorem s0_122 {rm : Room} {S : List Value} {H : AHeap} {Q : Option Value → AHeap → Prop} {l0 l1 l2 l3 l4 l5 l6 l7 l8 l9 l10 l11 l12 l13 l14 l15 l16 l17 l18 l19 l20 l21 l22 l23 l24 l25 l26 l27 : Slot} {rm' : Room} {H' : AHeap} {i : Nat} {vs : List Value} {a0 : Int64} {a1 : Int64}  (hH : H[i]? = some (.inl (0, vs))) (hM : M3 rm' [.ref i, .long a0, .long a1] H (Is none H')) (hr : rok rm rm' 9 S = true) (h : W0 (less rm rm') 125 [l0, l1, l2, l3, l4, l5, l6, l7, l8, l9, l10, l11, l12, l13, l14, l15, l16, l17, l18, l19, l20, l21, l22, l23, l24, l25, l26, l27] (S) H' Q) : W0 rm 122 [l0, l1, l2, l3, l4, l5, l6, l7, l8, l9, l10, l11, l12, l13, l14, l15, l16, l17, l18, l19, l20, l21, l22, l23, l24, l25, l26, l27] (.long a1 :: .long a0 :: .ref i :: S) H Q := W.callV (c := 0) (S := S) (as := [.long a0, .long a1]) (rm' := rm') at_122 (List.mem_of_getElem? (i := 25) rfl) (List.mem_of_getElem? (i := 26) rfl) (List.mem_of_getElem? (i := 28) rfl) (Or.inl rfl) kt (List.mem_of_getElem? (i := 27) rfl) (List.mem_of_getElem? (i := 4) rfl) (List.mem_of_getElem? (i := 29) rfl) (by decide) rfl pd3 rfl rfl hH hM hr (fun _ _ q => by obtain ⟨rfl, rfl⟩ := q; exact h)
theorem s0_122q {rm : Room} {S : List Value} {H : AHeap} {Q : Option Value → AHeap → Prop} {l0 l1 l2 l3 l4 l5 l6 l7 l8 l9 l10 l11 l12 l13 l14 l15 l16 l17 l18 l19 l20 l21 l22 l23 l24 l25 l26 l27 : Slot} {rm' : Room} {Q' : Option Value → AHeap → Prop} {i : Nat} {vs : List Value} {a0 a1 : Value} (hH : H[i]? = some (.inl (0, vs))) (hM : M3 rm' [.ref i, a0, a1] H Q') (hr : rok rm rm' 9 S = true) (h : ∀ v H', Q' v H' → W0 (less rm rm') 125 [l0, l1, l2, l3, l4, l5, l6, l7, l8, l9, l10, l11, l12, l13, l14, l15, l16, l17, l18, l19, l20, l21, l22, l23, l24, l25, l26, l27] (v.toList ++ S) H' Q) : W0 rm 122 [l0, l1, l2, l3, l4, l5, l6, l7, l8, l9, l10, l11, l12, l13, l14, l15, l16, l17, l18, l19, l20, l21, l22, l23, l24, l25, l26, l27] (a1 :: a0 :: .ref i :: S) H Q := W.callV (c := 0) (S := S) (as := [a0, a1]) (rm' := rm') at_122 (List.mem_of_getElem? (i := 25) rfl) (List.mem_of_getElem? (i := 26) rfl) (List.mem_of_getElem? (i := 28) rfl) (Or.inl rfl) kt (List.mem_of_getElem? (i := 27) rfl) (List.mem_of_getElem? (i := 4) rfl) (List.mem_of_getElem? (i := 29) rfl) (by decide) rfl pd3 rfl rfl hH hM hr h
theorem s0_125 {rm : Room} {S : List Value} {H : AHeap} {Q : Option Value → AHeap → Prop} {l0 l1 l2 l3 l4 l5 l6 l7 l8 l9 l10 l11 l12 l14 l15 l16 l17 l18 l19 l20 l21 l22 l23 l24 l25 l26 l27 : Slot} {x : Int64} (h : W0 rm 127 [l0, l1, l2, l3, l4, l5, l6, l7, l8, l9, l10, l11, l12, .val (.long x), l14, l15, l16, l17, l18, l19, l20, l21, l22, l23, l24, l25, l26, l27] (.long x :: S) (H) Q) : W0 rm 125 [l0, l1, l2, l3, l4, l5, l6, l7, l8, l9, l10, l11, l12, .val (.long x), l14, l15, l16, l17, l18, l19, l20, l21, l22, l23, l24, l25, l26, l27] (S) H Q := W.lload at_125 rfl h
theorem s0_127 {rm : Room} {S : List Value} {H : AHeap} {Q : Option Value → AHeap → Prop} {l0 l1 l2 l3 l4 l5 l6 l7 l8 l9 l11 l12 l13 l14 l15 l16 l17 l18 l19 l20 l21 l22 l23 l24 l25 l26 l27 : Slot} {x : Int32} (h : W0 rm 129 [l0, l1, l2, l3, l4, l5, l6, l7, l8, l9, .val (.int x), l11, l12, l13, l14, l15, l16, l17, l18, l19, l20, l21, l22, l23, l24, l25, l26, l27] (.int x :: S) (H) Q) : W0 rm 127 [l0, l1, l2, l3, l4, l5, l6, l7, l8, l9, .val (.int x), l11, l12, l13, l14, l15, l16, l17, l18, l19, l20, l21, l22, l23, l24, l25, l26, l27] (S) H Q := W.iload at_127 rfl h
theorem s0_129 {rm : Room} {S : List Value} {H : AHeap} {Q : Option Value → AHeap → Prop} {l0 l1 l2 l3 l4 l5 l6 l7 l8 l9 l10 l11 l12 l13 l14 l15 l16 l17 l18 l19 l20 l21 l22 l23 l24 l25 l26 l27 : Slot} {x : Int32} (h : W0 rm 130 [l0, l1, l2, l3, l4, l5, l6, l7, l8, l9, l10, l11, l12, l13, l14, l15, l16, l17, l18, l19, l20, l21, l22, l23, l24, l25, l26, l27] (.long x.toInt64 :: S) (H) Q) : W0 rm 129 [l0, l1, l2, l3, l4, l5, l6, l7, l8, l9, l10, l11, l12, l13, l14, l15, l16, l17, l18, l19, l20, l21, l22, l23, l24, l25, l26, l27] (.int x :: S) H Q := W.i2l at_129 h
theorem s0_130 {rm : Room} {S : List Value} {H : AHeap} {Q : Option Value → AHeap → Prop} {l0 l1 l2 l3 l4 l5 l6 l7 l8 l9 l10 l11 l12 l13 l14 l15 l16 l17 l18 l19 l20 l21 l22 l23 l24 l25 l26 l27 : Slot} {x y : Int64} (h : W0 rm 131 [l0, l1, l2, l3, l4, l5, l6, l7, l8, l9, l10, l11, l12, l13, l14, l15, l16, l17, l18, l19, l20, l21, l22, l23, l24, l25, l26, l27] (.long (x * y) :: S) (H) Q) : W0 rm 130 [l0, l1, l2, l3, l4, l5, l6, l7, l8, l9, l10, l11, l12, l13, l14, l15, l16, l17, l18, l19, l20, l21, l22, l23, l24, l25, l26, l27] (.long y :: .long x :: S) H Q := W.lmul at_130 h
theorem s0_131 {rm : Room} {S : List Value} {H : AHeap} {Q : Option Value → AHeap → Prop} {l0 l1 l2 l3 l4 l5 l6 l7 l8 l9 l10 l11 l12 l13 l14 l15 l16 l17 l18 l19 l20 l21 l22 l23 l24 l25 l26 l27 : Slot}  (h : W0 rm 134 [l0, l1, l2, l3, l4, l5, l6, l7, l8, l9, l10, l11, l12, l13, l14, l15, l16, l17, l18, l19, l20, l21, l22, l23, l24, l25, l26, l27] (.long 63 :: S) (H) Q) : W0 rm 131 [l0, l1, l2, l3, l4, l5, l6, l7, l8, l9, l10, l11, l12, l13, l14, l15, l16, l17, l18, l19, l20, l21, l22, l23, l24, l25, l26, l27] (S) H Q := W.ldcLong at_131 (List.mem_of_getElem? (i := 31) rfl) h
theorem s0_134 {rm : Room} {S : List Value} {H : AHeap} {Q : Option Value → AHeap → Prop} {l0 l1 l2 l3 l4 l5 l6 l7 l8 l9 l10 l11 l12 l13 l14 l15 l16 l17 l18 l19 l20 l21 l22 l23 l24 l25 l26 l27 : Slot} {x y : Int64} (h : W0 rm 135 [l0, l1, l2, l3, l4, l5, l6, l7, l8, l9, l10, l11, l12, l13, l14, l15, l16, l17, l18, l19, l20, l21, l22, l23, l24, l25, l26, l27] (.long (x + y) :: S) (H) Q) : W0 rm 134 [l0, l1, l2, l3, l4, l5, l6, l7, l8, l9, l10, l11, l12, l13, l14, l15, l16, l17, l18, l19, l20, l21, l22, l23, l24, l25, l26, l27] (.long y :: .long x :: S) H Q := W.ladd at_134 h
theorem s0_135 {rm : Room} {S : List Value} {H : AHeap} {Q : Option Value → AHeap → Prop} {l0 l1 l2 l3 l4 l5 l6 l7 l8 l9 l10 l11 l12 l13 l14 l15 l16 l17 l18 l19 l20 l21 l22 l23 l24 l25 l26 l27 : Slot}  (h : W0 rm 138 [l0, l1, l2, l3, l4, l5, l6, l7, l8, l9, l10, l11, l12, l13, l14, l15, l16, l17, l18, l19, l20, l21, l22, l23, l24, l25, l26, l27] (.long 64 :: S) (H) Q) : W0 rm 135 [l0, l1, l2, l3, l4, l5, l6, l7, l8, l9, l10, l11, l12, l13, l14, l15, l16, l17, l18, l19, l20, l21, l22, l23, l24, l25, l26, l27] (S) H Q := W.ldcLong at_135 (List.mem_of_getElem? (i := 32) rfl) h
theorem s0_138 {rm : Room} {S : List Value} {H : AHeap} {Q : Option Value → AHeap → Prop} {l0 l1 l2 l3 l4 l5 l6 l7 l8 l9 l10 l11 l12 l13 l14 l15 l16 l17 l18 l19 l20 l21 l22 l23 l24 l25 l26 l27 : Slot} {x y : Int64} (hy : y ≠ 0) (h : W0 rm 139 [l0, l1, l2, l3, l4, l5, l6, l7, l8, l9, l10, l11, l12, l13, l14, l15, l16, l17, l18, l19, l20, l21, l22, l23, l24, l25, l26, l27] (.long (x / y) :: S) (H) Q) : W0 rm 138 [l0, l1, l2, l3, l4, l5, l6, l7, l8, l9, l10, l11, l12, l13, l14, l15, l16, l17, l18, l19, l20, l21, l22, l23, l24, l25, l26, l27] (.long y :: .long x :: S) H Q := W.ldiv at_138 hy h
theorem s0_139 {rm : Room} {S : List Value} {H : AHeap} {Q : Option Value → AHeap → Prop} {l0 l1 l2 l3 l4 l5 l6 l7 l8 l9 l10 l11 l12 l13 l14 l15 l16 l17 l18 l19 l20 l21 l22 l23 l24 l25 l26 l27 : Slot} {x : Int64} (h : W0 rm 140 [l0, l1, l2, l3, l4, l5, l6, l7, l8, l9, l10, l11, l12, l13, l14, l15, l16, l17, l18, l19, l20, l21, l22, l23, l24, l25, l26, l27] (.int x.toInt32 :: S) (H) Q) : W0 rm 139 [l0, l1, l2, l3, l4, l5, l6, l7, l8, l9, l10, l11, l12, l13, l14, l15, l16, l17, l18, l19, l20, l21, l22, l23, l24, l25, l26, l27] (.long x :: S) H Q := W.l2i at_139 h
theorem s0_140 {rm : Room} {S : List Value} {H : AHeap} {Q : Option Value → AHeap → Prop} {l0 l1 l2 l3 l4 l5 l6 l7 l8 l9 l10 l11 l12 l13 l14 l15 l16 l17 l18 l19 l20 l21 l22 l23 l24 l25 l26 l27 : Slot} {x : Int32} (ho : one l26 = true) (h : W0 rm 142 [l0, l1, l2, l3, l4, l5, l6, l7, l8, l9, l10, l11, l12, l13, l14, l15, l16, l17, l18, l19, l20, l21, l22, l23, l24, l25, .val (.int x), l27] (S) (H) Q) : W0 rm 140 [l0, l1, l2, l3, l4, l5, l6, l7, l8, l9, l10, l11, l12, l13, l14, l15, l16, l17, l18, l19, l20, l21, l22, l23, l24, l25, l26, l27] (.int x :: S) H Q := W.istore at_140 rfl ho h
theorem s0_140w {rm : Room} {S : List Value} {H : AHeap} {Q : Option Value → AHeap → Prop} {l0 l1 l2 l3 l4 l5 l6 l7 l8 l9 l10 l11 l12 l13 l14 l15 l16 l17 l18 l19 l20 l21 l22 l23 l24 l25 l27 : Slot} {w : Value} {x : Int32} (ho : w.category = 2) (h : W0 rm 142 [l0, l1, l2, l3, l4, l5, l6, l7, l8, l9, l10, l11, l12, l13, l14, l15, l16, l17, l18, l19, l20, l21, l22, l23, l24, l25, .val (.int x), .unset] (S) (H) Q) : W0 rm 140 [l0, l1, l2, l3, l4, l5, l6, l7, l8, l9, l10, l11, l12, l13, l14, l15, l16, l17, l18, l19, l20, l21, l22, l23, l24, l25, .val w, l27] (.int x :: S) H Q := W.istoreW at_140 rfl ho (Nat.le_of_ble_eq_true rfl) h
theorem s0_140s {rm : Room} {S : List Value} {H : AHeap} {Q : Option Value → AHeap → Prop} {l0 l1 l2 l3 l4 l5 l6 l7 l8 l9 l10 l11 l12 l13 l14 l15 l16 l17 l18 l19 l20 l21 l22 l23 l24 l25 l27 : Slot} {x : Int32} (h : W0 rm 142 [l0, l1, l2, l3, l4, l5, l6, l7, l8, l9, l10, l11, l12, l13, l14, l15, l16, l17, l18, l19, l20, l21, l22, l23, l24, .unset, .val (.int x), l27] (S) (H) Q) : W0 rm 140 [l0, l1, l2, l3, l4, l5, l6, l7, l8, l9, l10, l11, l12, l13, l14, l15, l16, l17, l18, l19, l20, l21, l22, l23, l24, l25, .second, l27] (.int x :: S) H Q := W.istoreS at_140 rfl (by decide) h
theorem s0_142 {rm : Room} {S : List Value} {H : AHeap} {Q : Option Value → AHeap → Prop} {l0 l1 l2 l3 l4 l5 l6 l7 l8 l9 l10 l11 l12 l13 l14 l15 l16 l17 l18 l19 l20 l21 l22 l23 l24 l25 l26 l27 : Slot}  (h : W0 rm 143 [l0, l1, l2, l3, l4, l5, l6, l7, l8, l9, l10, l11, l12, l13, l14, l15, l16, l17, l18, l19, l20, l21, l22, l23, l24, l25, l26, l27] (.int 1 :: S) (H) Q) : W0 rm 142 [l0, l1, l2, l3, l4, l5, l6, l7, l8, l9, l10, l11, l12, l13, l14, l15, l16, l17, l18, l19, l20, l21, l22, l23, l24, l25, l26, l27] (S) H Q := W.iconst' at_142 (by decide) h
theorem s0_143 {rm : Room} {S : List Value} {H : AHeap} {Q : Option Value → AHeap → Prop} {l0 l1 l2 l3 l4 l5 l6 l7 l8 l9 l10 l11 l12 l13 l14 l15 l16 l17 l18 l19 l20 l21 l22 l23 l24 l25 l26 l27 : Slot} {x : Int32} (ho : one l27 = true) (h : W0 rm 145 [l0, l1, l2, l3, l4, l5, l6, l7, l8, l9, l10, l11, l12, l13, l14, l15, l16, l17, l18, l19, l20, l21, l22, l23, l24, l25, l26, .val (.int x)] (S) (H) Q) : W0 rm 143 [l0, l1, l2, l3, l4, l5, l6, l7, l8, l9, l10, l11, l12, l13, l14, l15, l16, l17, l18, l19, l20, l21, l22, l23, l24, l25, l26, l27] (.int x :: S) H Q := W.istore at_143 rfl ho h
theorem s0_143s {rm : Room} {S : List Value} {H : AHeap} {Q : Option Value → AHeap → Prop} {l0 l1 l2 l3 l4 l5 l6 l7 l8 l9 l10 l11 l12 l13 l14 l15 l16 l17 l18 l19 l20 l21 l22 l23 l24 l25 l26 : Slot} {x : Int32} (h : W0 rm 145 [l0, l1, l2, l3, l4, l5, l6, l7, l8, l9, l10, l11, l12, l13, l14, l15, l16, l17, l18, l19, l20, l21, l22, l23, l24, l25, .unset, .val (.int x)] (S) (H) Q) : W0 rm 143 [l0, l1, l2, l3, l4, l5, l6, l7, l8, l9, l10, l11, l12, l13, l14, l15, l16, l17, l18, l19, l20, l21, l22, l23, l24, l25, l26, .second] (.int x :: S) H Q := W.istoreS at_143 rfl (by decide) h
theorem s0_145 {rm : Room} {S : List Value} {H : AHeap} {Q : Option Value → AHeap → Prop} {l0 l1 l2 l3 l4 l5 l6 l7 l8 l9 l10 l11 l12 l13 l14 l15 l16 l17 l18 l19 l20 l21 l22 l23 l24 l25 l26 l27 : Slot}  (h : W0 rm 146 [l0, l1, l2, l3, l4, l5, l6, l7, l8, l9, l10, l11, l12, l13, l14, l15, l16, l17, l18, l19, l20, l21, l22, l23, l24, l25, l26, l27] (.int 0 :: S) (H) Q) : W0 rm 145 [l0, l1, l2, l3, l4, l5, l6, l7, l8, l9, l10, l11, l12, l13, l14, l15, l16, l17, l18, l19, l20, l21, l22, l23, l24, l25, l26, l27] (S) H Q := W.iconst' at_145 (by decide) h
theorem s0_146 {rm : Room} {S : List Value} {H : AHeap} {Q : Option Value → AHeap → Prop} {l0 l1 l2 l3 l4 l5 l6 l7 l8 l9 l10 l11 l12 l13 l14 l15 l16 l17 l18 l19 l20 l21 l22 l23 l24 l25 l27 : Slot} {x : Int32} (h : W0 rm 148 [l0, l1, l2, l3, l4, l5, l6, l7, l8, l9, l10, l11, l12, l13, l14, l15, l16, l17, l18, l19, l20, l21, l22, l23, l24, l25, .val (.int x), l27] (.int x :: S) (H) Q) : W0 rm 146 [l0, l1, l2, l3, l4, l5, l6, l7, l8, l9, l10, l11, l12, l13, l14, l15, l16, l17, l18, l19, l20, l21, l22, l23, l24, l25, .val (.int x), l27] (S) H Q := W.iload at_146 rfl h
theorem s0_148 {rm : Room} {S : List Value} {H : AHeap} {Q : Option Value → AHeap → Prop} {l0 l1 l2 l3 l4 l5 l6 l7 l8 l9 l10 l11 l12 l13 l14 l15 l16 l17 l18 l19 l20 l21 l22 l23 l24 l25 l26 l27 : Slot} {x y : Int32} (h1 : ¬ x < y → W0 rm 188 [l0, l1, l2, l3, l4, l5, l6, l7, l8, l9, l10, l11, l12, l13, l14, l15, l16, l17, l18, l19, l20, l21, l22, l23, l24, l25, l26, l27] S H Q) (h2 : x < y → W0 rm 151 [l0, l1, l2, l3, l4, l5, l6, l7, l8, l9, l10, l11, l12, l13, l14, l15, l16, l17, l18, l19, l20, l21, l22, l23, l24, l25, l26, l27] S H Q) : W0 rm 148 [l0, l1, l2, l3, l4, l5, l6, l7, l8, l9, l10, l11, l12, l13, l14, l15, l16, l17, l18, l19, l20, l21, l22, l23, l24, l25, l26, l27] (.int y :: .int x :: S) H Q := W.icmp at_148 (by decide) (by decide) h1 h2
theorem s0_151 {rm : Room} {S : List Value} {H : AHeap} {Q : Option Value → AHeap → Prop} {l0 l1 l2 l3 l4 l5 l6 l7 l8 l9 l10 l11 l12 l13 l14 l15 l16 l17 l18 l19 l20 l21 l22 l23 l24 l25 l26 : Slot} {x : Int32} (h : W0 rm 153 [l0, l1, l2, l3, l4, l5, l6, l7, l8, l9, l10, l11, l12, l13, l14, l15, l16, l17, l18, l19, l20, l21, l22, l23, l24, l25, l26, .val (.int x)] (.int x :: S) (H) Q) : W0 rm 151 [l0, l1, l2, l3, l4, l5, l6, l7, l8, l9, l10, l11, l12, l13, l14, l15, l16, l17, l18, l19, l20, l21, l22, l23, l24, l25, l26, .val (.int x)] (S) H Q := W.iload at_151 rfl h
theorem s0_153 {rm : Room} {S : List Value} {H : AHeap} {Q : Option Value → AHeap → Prop} {l0 l1 l2 l3 l4 l5 l6 l7 l8 l9 l10 l11 l12 l13 l14 l15 l16 l17 l18 l19 l20 l21 l22 l23 l24 l25 l26 l27 : Slot} {x : Int32} (h1 : x = 0 → W0 rm 185 [l0, l1, l2, l3, l4, l5, l6, l7, l8, l9, l10, l11, l12, l13, l14, l15, l16, l17, l18, l19, l20, l21, l22, l23, l24, l25, l26, l27] S H Q) (h2 : ¬ x = 0 → W0 rm 156 [l0, l1, l2, l3, l4, l5, l6, l7, l8, l9, l10, l11, l12, l13, l14, l15, l16, l17, l18, l19, l20, l21, l22, l23, l24, l25, l26, l27] S H Q) : W0 rm 153 [l0, l1, l2, l3, l4, l5, l6, l7, l8, l9, l10, l11, l12, l13, l14, l15, l16, l17, l18, l19, l20, l21, l22, l23, l24, l25, l26, l27] (.int x :: S) H Q := W.ifc at_153 (by decide) (by decide) h1 h2
theorem s0_156 {rm : Room} {S : List Value} {H : AHeap} {Q : Option Value → AHeap → Prop} {l0 l1 l2 l3 l4 l5 l6 l7 l8 l9 l10 l11 l12 l13 l14 l15 l16 l17 l18 l19 l20 l21 l22 l23 l24 l26 l27 : Slot} {i : Nat} (h : W0 rm 158 [l0, l1, l2, l3, l4, l5, l6, l7, l8, l9, l10, l11, l12, l13, l14, l15, l16, l17, l18, l19, l20, l21, l22, l23, l24, .val (.ref i), l26, l27] (.ref i :: S) (H) Q) : W0 rm 156 [l0, l1, l2, l3, l4, l5, l6, l7, l8, l9, l10, l11, l12, l13, l14, l15, l16, l17, l18, l19, l20, l21, l22, l23, l24, .val (.ref i), l26, l27] (S) H Q := W.aload at_156 rfl rfl h
theorem s0_156n {rm : Room} {S : List Value} {H : AHeap} {Q : Option Value → AHeap → Prop} {l0 l1 l2 l3 l4 l5 l6 l7 l8 l9 l10 l11 l12 l13 l14 l15 l16 l17 l18 l19 l20 l21 l22 l23 l24 l26 l27 : Slot}  (h : W0 rm 158 [l0, l1, l2, l3, l4, l5, l6, l7, l8, l9, l10, l11, l12, l13, l14, l15, l16, l17, l18, l19, l20, l21, l22, l23, l24, .val .null, l26, l27] (.null :: S) (H) Q) : W0 rm 156 [l0, l1, l2, l3, l4, l5, l6, l7, l8, l9, l10, l11, l12, l13, l14, l15, l16, l17, l18, l19, l20, l21, l22, l23, l24, .val .null, l26, l27] (S) H Q := W.aload at_156 rfl rfl h
theorem s0_158 {rm : Room} {S : List Value} {H : AHeap} {Q : Option Value → AHeap → Prop} {l0 l1 l2 l3 l4 l5 l6 l7 l8 l9 l10 l11 l12 l13 l14 l15 l16 l17 l18 l19 l20 l21 l22 l23 l24 l25 l26 l27 : Slot}  (h : W0 rm 159 [l0, l1, l2, l3, l4, l5, l6, l7, l8, l9, l10, l11, l12, l13, l14, l15, l16, l17, l18, l19, l20, l21, l22, l23, l24, l25, l26, l27] (.int 0 :: S) (H) Q) : W0 rm 158 [l0, l1, l2, l3, l4, l5, l6, l7, l8, l9, l10, l11, l12, l13, l14, l15, l16, l17, l18, l19, l20, l21, l22, l23, l24, l25, l26, l27] (S) H Q := W.iconst' at_158 (by decide) h
theorem s0_159 {rm : Room} {S : List Value} {H : AHeap} {Q : Option Value → AHeap → Prop} {l0 l1 l2 l3 l4 l5 l6 l7 l8 l9 l10 l11 l12 l13 l14 l15 l16 l17 l18 l19 l20 l21 l22 l23 l24 l25 l26 l27 : Slot} {rm' : Room} {H' : AHeap} {i : Nat} {vs : List Value} {a0 : Int32} {r : Int64} (hH : H[i]? = some (.inl (0, vs))) (hM : M4 rm' [.ref i, .int a0] H (Is (some (.long r)) H')) (hr : rok rm rm' 2 S = true) (h : W0 (less rm rm') 162 [l0, l1, l2, l3, l4, l5, l6, l7, l8, l9, l10, l11, l12, l13, l14, l15, l16, l17, l18, l19, l20, l21, l22, l23, l24, l25, l26, l27] (.long r :: S) H' Q) : W0 rm 159 [l0, l1, l2, l3, l4, l5, l6, l7, l8, l9, l10, l11, l12, l13, l14, l15, l16, l17, l18, l19, l20, l21, l22, l23, l24, l25, l26, l27] (.int a0 :: .ref i :: S) H Q := W.callV (c := 0) (S := S) (as := [.int a0]) (rm' := rm') at_159 (List.mem_of_getElem? (i := 33) rfl) (List.mem_of_getElem? (i := 34) rfl) (List.mem_of_getElem? (i := 36) rfl) (Or.inl rfl) kt (List.mem_of_getElem? (i := 35) rfl) (List.mem_of_getElem? (i := 4) rfl) (List.mem_of_getElem? (i := 37) rfl) (by decide) rfl pd4 rfl rfl hH hM hr (fun _ _ q => by obtain ⟨rfl, rfl⟩ := q; exact h)
theorem s0_159q {rm : Room} {S : List Value} {H : AHeap} {Q : Option Value → AHeap → Prop} {l0 l1 l2 l3 l4 l5 l6 l7 l8 l9 l10 l11 l12 l13 l14 l15 l16 l17 l18 l19 l20 l21 l22 l23 l24 l25 l26 l27 : Slot} {rm' : Room} {Q' : Option Value → AHeap → Prop} {i : Nat} {vs : List Value} {a0 : Value} (hH : H[i]? = some (.inl (0, vs))) (hM : M4 rm' [.ref i, a0] H Q') (hr : rok rm rm' 2 S = true) (h : ∀ v H', Q' v H' → W0 (less rm rm') 162 [l0, l1, l2, l3, l4, l5, l6, l7, l8, l9, l10, l11, l12, l13, l14, l15, l16, l17, l18, l19, l20, l21, l22, l23, l24, l25, l26, l27] (v.toList ++ S) H' Q) : W0 rm 159 [l0, l1, l2, l3, l4, l5, l6, l7, l8, l9, l10, l11, l12, l13, l14, l15, l16, l17, l18, l19, l20, l21, l22, l23, l24, l25, l26, l27] (a0 :: .ref i :: S) H Q := W.callV (c := 0) (S := S) (as := [a0]) (rm' := rm') at_159 (List.mem_of_getElem? (i := 33) rfl) (List.mem_of_getElem? (i := 34) rfl) (List.mem_of_getElem? (i := 36) rfl) (Or.inl rfl) kt (List.mem_of_getElem? (i := 35) rfl) (List.mem_of_getElem? (i := 4) rfl) (List.mem_of_getElem? (i := 37) rfl) (by decide) rfl pd4 rfl rfl hH hM hr h
theorem s0_162 {rm : Room} {S : List Value} {H : AHeap} {Q : Option Value → AHeap → Prop} {l0 l1 l2 l3 l4 l5 l6 l7 l8 l9 l10 l11 l12 l13 l14 l15 l16 l18 l19 l20 l21 l22 l23 l24 l25 l26 l27 : Slot} {x : Int64} (h : W0 rm 164 [l0, l1, l2, l3, l4, l5, l6, l7, l8, l9, l10, l11, l12, l13, l14, l15, l16, .val (.long x), l18, l19, l20, l21, l22, l23, l24, l25, l26, l27] (.long x :: S) (H) Q) : W0 rm 162 [l0, l1, l2, l3, l4, l5, l6, l7, l8, l9, l10, l11, l12, l13, l14, l15, l16, .val (.long x), l18, l19, l20, l21, l22, l23, l24, l25, l26, l27] (S) H Q := W.lload at_162 rfl h
theorem s0_164 {rm : Room} {S : List Value} {H : AHeap} {Q : Option Value → AHeap → Prop} {l0 l1 l2 l3 l4 l5 l6 l7 l8 l9 l10 l11 l12 l13 l14 l15 l16 l17 l18 l19 l20 l21 l22 l24 l25 l26 l27 : Slot} {x : Int64} (h : W0 rm 166 [l0, l1, l2, l3, l4, l5, l6, l7, l8, l9, l10, l11, l12, l13, l14, l15, l16, l17, l18, l19, l20, l21, l22, .val (.long x), l24, l25, l26, l27] (.long x :: S) (H) Q) : W0 rm 164 [l0, l1, l2, l3, l4, l5, l6, l7, l8, l9, l10, l11, l12, l13, l14, l15, l16, l17, l18, l19, l20, l21, l22, .val (.long x), l24, l25, l26, l27] (S) H Q := W.lload at_164 rfl h
theorem s0_166 {rm : Room} {S : List Value} {H : AHeap} {Q : Option Value → AHeap → Prop} {l0 l1 l2 l3 l4 l5 l6 l7 l8 l9 l10 l11 l12 l13 l14 l15 l16 l17 l18 l20 l21 l22 l23 l24 l25 l26 l27 : Slot} {x : Int64} (h : W0 rm 168 [l0, l1, l2, l3, l4, l5, l6, l7, l8, l9, l10, l11, l12, l13, l14, l15, l16, l17, l18, .val (.long x), l20, l21, l22, l23, l24, l25, l26, l27] (.long x :: S) (H) Q) : W0 rm 166 [l0, l1, l2, l3, l4, l5, l6, l7, l8, l9, l10, l11, l12, l13, l14, l15, l16, l17, l18, .val (.long x), l20, l21, l22, l23, l24, l25, l26, l27] (S) H Q := W.lload at_166 rfl h
theorem s0_168 {rm : Room} {S : List Value} {H : AHeap} {Q : Option Value → AHeap → Prop} {l0 l1 l2 l3 l4 l5 l6 l7 l8 l9 l11 l12 l13 l14 l15 l16 l17 l18 l19 l20 l21 l22 l23 l24 l25 l26 l27 : Slot} {x : Int32} (h : W0 rm 170 [l0, l1, l2, l3, l4, l5, l6, l7, l8, l9, .val (.int x), l11, l12, l13, l14, l15, l16, l17, l18, l19, l20, l21, l22, l23, l24, l25, l26, l27] (.int x :: S) (H) Q) : W0 rm 168 [l0, l1, l2, l3, l4, l5, l6, l7, l8, l9, .val (.int x), l11, l12, l13, l14, l15, l16, l17, l18, l19, l20, l21, l22, l23, l24, l25, l26, l27] (S) H Q := W.iload at_168 rfl h
theorem s0_170 {rm : Room} {S : List Value} {H : AHeap} {Q : Option Value → AHeap → Prop} {l0 l1 l2 l3 l4 l5 l6 l7 l8 l9 l10 l11 l12 l13 l14 l15 l16 l17 l18 l19 l20 l21 l22 l23 l24 l25 l26 l27 : Slot} {x : Int32} (h : W0 rm 171 [l0, l1, l2, l3, l4, l5, l6, l7, l8, l9, l10, l11, l12, l13, l14, l15, l16, l17, l18, l19, l20, l21, l22, l23, l24, l25, l26, l27] (.long x.toInt64 :: S) (H) Q) : W0 rm 170 [l0, l1, l2, l3, l4, l5, l6, l7, l8, l9, l10, l11, l12, l13, l14, l15, l16, l17, l18, l19, l20, l21, l22, l23, l24, l25, l26, l27] (.int x :: S) H Q := W.i2l at_170 h
theorem s0_171 {rm : Room} {S : List Value} {H : AHeap} {Q : Option Value → AHeap → Prop} {l0 l1 l2 l3 l4 l5 l6 l7 l8 l9 l10 l11 l12 l13 l14 l16 l17 l18 l19 l20 l21 l22 l23 l24 l25 l26 l27 : Slot} {x : Int64} (h : W0 rm 173 [l0, l1, l2, l3, l4, l5, l6, l7, l8, l9, l10, l11, l12, l13, l14, .val (.long x), l16, l17, l18, l19, l20, l21, l22, l23, l24, l25, l26, l27] (.long x :: S) (H) Q) : W0 rm 171 [l0, l1, l2, l3, l4, l5, l6, l7, l8, l9, l10, l11, l12, l13, l14, .val (.long x), l16, l17, l18, l19, l20, l21, l22, l23, l24, l25, l26, l27] (S) H Q := W.lload at_171 rfl h
theorem s0_173 {rm : Room} {S : List Value} {H : AHeap} {Q : Option Value → AHeap → Prop} {l0 l1 l2 l3 l4 l5 l6 l7 l8 l9 l10 l11 l12 l13 l14 l15 l16 l17 l18 l19 l20 l21 l22 l23 l24 l25 l26 l27 : Slot}  (h : W0 rm 174 [l0, l1, l2, l3, l4, l5, l6, l7, l8, l9, l10, l11, l12, l13, l14, l15, l16, l17, l18, l19, l20, l21, l22, l23, l24, l25, l26, l27] (.int 0 :: S) (H) Q) : W0 rm 173 [l0, l1, l2, l3, l4, l5, l6, l7, l8, l9, l10, l11, l12, l13, l14, l15, l16, l17, l18, l19, l20, l21, l22, l23, l24, l25, l26, l27] (S) H Q := W.iconst' at_173 (by decide) h
theorem s0_174 {rm : Room} {S : List Value} {H : AHeap} {Q : Option Value → AHeap → Prop} {l0 l1 l2 l3 l4 l5 l6 l7 l8 l9 l10 l11 l12 l13 l14 l15 l16 l17 l18 l19 l20 l21 l22 l23 l24 l25 l26 l27 : Slot} {rm' : Room} {H' : AHeap} {a0 : Int64} {a1 : Int64} {a2 : Int64} {a3 : Int64} {a4 : Int64} {a5 : Int32} {r : Int64} (hM : M5 rm' [.long a0, .long a1, .long a2, .long a3, .long a4, .int a5] H (Is (some (.long r)) H')) (hr : rok rm rm' 11 S = true) (h : W0 (less rm rm') 177 [l0, l1, l2, l3, l4, l5, l6, l7, l8, l9, l10, l11, l12, l13, l14, l15, l16, l17, l18, l19, l20, l21, l22, l23, l24, l25, l26, l27] (.long r :: S) H' Q) : W0 rm 174 [l0, l1, l2, l3, l4, l5, l6, l7, l8, l9, l10, l11, l12, l13, l14, l15, l16, l17, l18, l19, l20, l21, l22, l23, l24, l25, l26, l27] (.int a5 :: .long a4 :: .long a3 :: .long a2 :: .long a1 :: .long a0 :: S) H Q := W.callS (S := S) (as := [.long a0, .long a1, .long a2, .long a3, .long a4, .int a5]) (rm' := rm') at_174 (List.mem_of_getElem? (i := 38) rfl) (List.mem_of_getElem? (i := 39) rfl) (List.mem_of_getElem? (i := 40) rfl) (List.mem_of_getElem? (i := 41) rfl) (by decide) pd5 rfl rfl hM hr (fun _ _ q => by obtain ⟨rfl, rfl⟩ := q; exact h)
theorem s0_174q {rm : Room} {S : List Value} {H : AHeap} {Q : Option Value → AHeap → Prop} {l0 l1 l2 l3 l4 l5 l6 l7 l8 l9 l10 l11 l12 l13 l14 l15 l16 l17 l18 l19 l20 l21 l22 l23 l24 l25 l26 l27 : Slot} {rm' : Room} {Q' : Option Value → AHeap → Prop} {a0 a1 a2 a3 a4 a5 : Value} (hM : M5 rm' [a0, a1, a2, a3, a4, a5] H Q') (hr : rok rm rm' 11 S = true) (h : ∀ v H', Q' v H' → W0 (less rm rm') 177 [l0, l1, l2, l3, l4, l5, l6, l7, l8, l9, l10, l11, l12, l13, l14, l15, l16, l17, l18, l19, l20, l21, l22, l23, l24, l25, l26, l27] (v.toList ++ S) H' Q) : W0 rm 174 [l0, l1, l2, l3, l4, l5, l6, l7, l8, l9, l10, l11, l12, l13, l14, l15, l16, l17, l18, l19, l20, l21, l22, l23, l24, l25, l26, l27] (a5 :: a4 :: a3 :: a2 :: a1 :: a0 :: S) H Q := W.callS (S := S) (as := [a0, a1, a2, a3, a4, a5]) (rm' := rm') at_174 (List.mem_of_getElem? (i := 38) rfl) (List.mem_of_getElem? (i := 39) rfl) (List.mem_of_getElem? (i := 40) rfl) (List.mem_of_getElem? (i := 41) rfl) (by decide) pd5 rfl rfl hM hr h
theorem s0_178 {rm : Room} {S : List Value} {H : AHeap} {Q : Option Value → AHeap → Prop} {l0 l1 l2 l3 l4 l5 l6 l7 l8 l9 l10 l11 l12 l13 l14 l15 l16 l17 l18 l19 l20 l21 l22 l23 l24 l25 l26 l27 : Slot} {x : Int32} (h1 : ¬ x = 0 → W0 rm 185 [l0, l1, l2, l3, l4, l5, l6, l7, l8, l9, l10, l11, l12, l13, l14, l15, l16, l17, l18, l19, l20, l21, l22, l23, l24, l25, l26, l27] S H Q) (h2 : x = 0 → W0 rm 181 [l0, l1, l2, l3, l4, l5, l6, l7, l8, l9, l10, l11, l12, l13, l14, l15, l16, l17, l18, l19, l20, l21, l22, l23, l24, l25, l26, l27] S H Q) : W0 rm 178 [l0, l1, l2, l3, l4, l5, l6, l7, l8, l9, l10, l11, l12, l13, l14, l15, l16, l17, l18, l19, l20, l21, l22, l23, l24, l25, l26, l27] (.int x :: S) H Q := W.ifc at_178 (by decide) (by decide) h1 h2
theorem s0_177c {rm : Room} {S : List Value} {H : AHeap} {Q : Option Value → AHeap → Prop} {l0 l1 l2 l3 l4 l5 l6 l7 l8 l9 l10 l11 l12 l13 l14 l15 l16 l17 l18 l19 l20 l21 l22 l23 l24 l25 l26 l27 : Slot} {x y : Int64} (h1 : ¬ x = y → W0 rm 185 [l0, l1, l2, l3, l4, l5, l6, l7, l8, l9, l10, l11, l12, l13, l14, l15, l16, l17, l18, l19, l20, l21, l22, l23, l24, l25, l26, l27] S H Q) (h2 : x = y → W0 rm 181 [l0, l1, l2, l3, l4, l5, l6, l7, l8, l9, l10, l11, l12, l13, l14, l15, l16, l17, l18, l19, l20, l21, l22, l23, l24, l25, l26, l27] S H Q) : W0 rm 177 [l0, l1, l2, l3, l4, l5, l6, l7, l8, l9, l10, l11, l12, l13, l14, l15, l16, l17, l18, l19, l20, l21, l22, l23, l24, l25, l26, l27] (.long y :: .long x :: S) H Q := W.lcif at_177 rfl at_178 (by decide) (by decide) h1 h2
theorem s0_181 {rm : Room} {S : List Value} {H : AHeap} {Q : Option Value → AHeap → Prop} {l0 l1 l2 l3 l4 l5 l6 l7 l8 l9 l10 l11 l12 l13 l14 l15 l16 l17 l18 l19 l20 l21 l22 l23 l24 l25 l26 l27 : Slot}  (h : W0 rm 182 [l0, l1, l2, l3, l4, l5, l6, l7, l8, l9, l10, l11, l12, l13, l14, l15, l16, l17, l18, l19, l20, l21, l22, l23, l24, l25, l26, l27] (.int 1 :: S) (H) Q) : W0 rm 181 [l0, l1, l2, l3, l4, l5, l6, l7, l8, l9, l10, l11, l12, l13, l14, l15, l16, l17, l18, l19, l20, l21, l22, l23, l24, l25, l26, l27] (S) H Q := W.iconst' at_181 (by decide) h
theorem s0_182 {rm : Room} {S : List Value} {H : AHeap} {Q : Option Value → AHeap → Prop} {l0 l1 l2 l3 l4 l5 l6 l7 l8 l9 l10 l11 l12 l13 l14 l15 l16 l17 l18 l19 l20 l21 l22 l23 l24 l25 l26 l27 : Slot}  (h : W0 rm 186 [l0, l1, l2, l3, l4, l5, l6, l7, l8, l9, l10, l11, l12, l13, l14, l15, l16, l17, l18, l19, l20, l21, l22, l23, l24, l25, l26, l27] (S) (H) Q) : W0 rm 182 [l0, l1, l2, l3, l4, l5, l6, l7, l8, l9, l10, l11, l12, l13, l14, l15, l16, l17, l18, l19, l20, l21, l22, l23, l24, l25, l26, l27] (S) H Q := W.goto at_182 (by decide) (by decide) h
theorem s0_185 {rm : Room} {S : List Value} {H : AHeap} {Q : Option Value → AHeap → Prop} {l0 l1 l2 l3 l4 l5 l6 l7 l8 l9 l10 l11 l12 l13 l14 l15 l16 l17 l18 l19 l20 l21 l22 l23 l24 l25 l26 l27 : Slot}  (h : W0 rm 186 [l0, l1, l2, l3, l4, l5, l6, l7, l8, l9, l10, l11, l12, l13, l14, l15, l16, l17, l18, l19, l20, l21, l22, l23, l24, l25, l26, l27] (.int 0 :: S) (H) Q) : W0 rm 185 [l0, l1, l2, l3, l4, l5, l6, l7, l8, l9, l10, l11, l12, l13, l14, l15, l16, l17, l18, l19, l20, l21, l22, l23, l24, l25, l26, l27] (S) H Q := W.iconst' at_185 (by decide) h
theorem s0_186 {rm : Room} {S : List Value} {H : AHeap} {Q : Option Value → AHeap → Prop} {l0 l1 l2 l3 l4 l5 l6 l7 l8 l9 l10 l11 l12 l13 l14 l15 l16 l17 l18 l19 l20 l21 l22 l23 l24 l25 l26 l27 : Slot} {x : Int32} (ho : one l27 = true) (h : W0 rm 188 [l0, l1, l2, l3, l4, l5, l6, l7, l8, l9, l10, l11, l12, l13, l14, l15, l16, l17, l18, l19, l20, l21, l22, l23, l24, l25, l26, .val (.int x)] (S) (H) Q) : W0 rm 186 [l0, l1, l2, l3, l4, l5, l6, l7, l8, l9, l10, l11, l12, l13, l14, l15, l16, l17, l18, l19, l20, l21, l22, l23, l24, l25, l26, l27] (.int x :: S) H Q := W.istore at_186 rfl ho h
theorem s0_186s {rm : Room} {S : List Value} {H : AHeap} {Q : Option Value → AHeap → Prop} {l0 l1 l2 l3 l4 l5 l6 l7 l8 l9 l10 l11 l12 l13 l14 l15 l16 l17 l18 l19 l20 l21 l22 l23 l24 l25 l26 : Slot} {x : Int32} (h : W0 rm 188 [l0, l1, l2, l3, l4, l5, l6, l7, l8, l9, l10, l11, l12, l13, l14, l15, l16, l17, l18, l19, l20, l21, l22, l23, l24, l25, .unset, .val (.int x)] (S) (H) Q) : W0 rm 186 [l0, l1, l2, l3, l4, l5, l6, l7, l8, l9, l10, l11, l12, l13, l14, l15, l16, l17, l18, l19, l20, l21, l22, l23, l24, l25, l26, .second] (.int x :: S) H Q := W.istoreS at_186 rfl (by decide) h
theorem s0_188 {rm : Room} {S : List Value} {H : AHeap} {Q : Option Value → AHeap → Prop} {l0 l1 l2 l3 l4 l5 l6 l7 l8 l9 l10 l11 l12 l13 l14 l15 l16 l17 l18 l19 l20 l21 l22 l23 l24 l25 l26 l27 : Slot}  (h : W0 rm 189 [l0, l1, l2, l3, l4, l5, l6, l7, l8, l9, l10, l11, l12, l13, l14, l15, l16, l17, l18, l19, l20, l21, l22, l23, l24, l25, l26, l27] (.int 1 :: S) (H) Q) : W0 rm 188 [l0, l1, l2, l3, l4, l5, l6, l7, l8, l9, l10, l11, l12, l13, l14, l15, l16, l17, l18, l19, l20, l21, l22, l23, l24, l25, l26, l27] (S) H Q := W.iconst' at_188 (by decide) h
theorem s0_189 {rm : Room} {S : List Value} {H : AHeap} {Q : Option Value → AHeap → Prop} {l0 l1 l2 l3 l4 l5 l6 l7 l8 l9 l10 l11 l12 l13 l14 l15 l16 l17 l18 l19 l20 l21 l22 l23 l24 l25 l27 : Slot} {x : Int32} (h : W0 rm 191 [l0, l1, l2, l3, l4, l5, l6, l7, l8, l9, l10, l11, l12, l13, l14, l15, l16, l17, l18, l19, l20, l21, l22, l23, l24, l25, .val (.int x), l27] (.int x :: S) (H) Q) : W0 rm 189 [l0, l1, l2, l3, l4, l5, l6, l7, l8, l9, l10, l11, l12, l13, l14, l15, l16, l17, l18, l19, l20, l21, l22, l23, l24, l25, .val (.int x), l27] (S) H Q := W.iload at_189 rfl h
theorem s0_191 {rm : Room} {S : List Value} {H : AHeap} {Q : Option Value → AHeap → Prop} {l0 l1 l2 l3 l4 l5 l6 l7 l8 l9 l10 l11 l12 l13 l14 l15 l16 l17 l18 l19 l20 l21 l22 l23 l24 l25 l26 l27 : Slot} {x y : Int32} (h1 : ¬ x < y → W0 rm 231 [l0, l1, l2, l3, l4, l5, l6, l7, l8, l9, l10, l11, l12, l13, l14, l15, l16, l17, l18, l19, l20, l21, l22, l23, l24, l25, l26, l27] S H Q) (h2 : x < y → W0 rm 194 [l0, l1, l2, l3, l4, l5, l6, l7, l8, l9, l10, l11, l12, l13, l14, l15, l16, l17, l18, l19, l20, l21, l22, l23, l24, l25, l26, l27] S H Q) : W0 rm 191 [l0, l1, l2, l3, l4, l5, l6, l7, l8, l9, l10, l11, l12, l13, l14, l15, l16, l17, l18, l19, l20, l21, l22, l23, l24, l25, l26, l27] (.int y :: .int x :: S) H Q := W.icmp at_191 (by decide) (by decide) h1 h2
theorem s0_194 {rm : Room} {S : List Value} {H : AHeap} {Q : Option Value → AHeap → Prop} {l0 l1 l2 l3 l4 l5 l6 l7 l8 l9 l10 l11 l12 l13 l14 l15 l16 l17 l18 l19 l20 l21 l22 l23 l24 l25 l26 : Slot} {x : Int32} (h : W0 rm 196 [l0, l1, l2, l3, l4, l5, l6, l7, l8, l9, l10, l11, l12, l13, l14, l15, l16, l17, l18, l19, l20, l21, l22, l23, l24, l25, l26, .val (.int x)] (.int x :: S) (H) Q) : W0 rm 194 [l0, l1, l2, l3, l4, l5, l6, l7, l8, l9, l10, l11, l12, l13, l14, l15, l16, l17, l18, l19, l20, l21, l22, l23, l24, l25, l26, .val (.int x)] (S) H Q := W.iload at_194 rfl h
theorem s0_196 {rm : Room} {S : List Value} {H : AHeap} {Q : Option Value → AHeap → Prop} {l0 l1 l2 l3 l4 l5 l6 l7 l8 l9 l10 l11 l12 l13 l14 l15 l16 l17 l18 l19 l20 l21 l22 l23 l24 l25 l26 l27 : Slot} {x : Int32} (h1 : x = 0 → W0 rm 228 [l0, l1, l2, l3, l4, l5, l6, l7, l8, l9, l10, l11, l12, l13, l14, l15, l16, l17, l18, l19, l20, l21, l22, l23, l24, l25, l26, l27] S H Q) (h2 : ¬ x = 0 → W0 rm 199 [l0, l1, l2, l3, l4, l5, l6, l7, l8, l9, l10, l11, l12, l13, l14, l15, l16, l17, l18, l19, l20, l21, l22, l23, l24, l25, l26, l27] S H Q) : W0 rm 196 [l0, l1, l2, l3, l4, l5, l6, l7, l8, l9, l10, l11, l12, l13, l14, l15, l16, l17, l18, l19, l20, l21, l22, l23, l24, l25, l26, l27] (.int x :: S) H Q := W.ifc at_196 (by decide) (by decide) h1 h2
theorem s0_199 {rm : Room} {S : List Value} {H : AHeap} {Q : Option Value → AHeap → Prop} {l0 l1 l2 l3 l4 l5 l6 l7 l8 l9 l10 l11 l12 l13 l14 l15 l16 l17 l18 l19 l20 l21 l22 l23 l24 l26 l27 : Slot} {i : Nat} (h : W0 rm 201 [l0, l1, l2, l3, l4, l5, l6, l7, l8, l9, l10, l11, l12, l13, l14, l15, l16, l17, l18, l19, l20, l21, l22, l23, l24, .val (.ref i), l26, l27] (.ref i :: S) (H) Q) : W0 rm 199 [l0, l1, l2, l3, l4, l5, l6, l7, l8, l9, l10, l11, l12, l13, l14, l15, l16, l17, l18, l19, l20, l21, l22, l23, l24, .val (.ref i), l26, l27] (S) H Q := W.aload at_199 rfl rfl h
theorem s0_199n {rm : Room} {S : List Value} {H : AHeap} {Q : Option Value → AHeap → Prop} {l0 l1 l2 l3 l4 l5 l6 l7 l8 l9 l10 l11 l12 l13 l14 l15 l16 l17 l18 l19 l20 l21 l22 l23 l24 l26 l27 : Slot}  (h : W0 rm 201 [l0, l1, l2, l3, l4, l5, l6, l7, l8, l9, l10, l11, l12, l13, l14, l15, l16, l17, l18, l19, l20, l21, l22, l23, l24, .val .null, l26, l27] (.null :: S) (H) Q) : W0 rm 199 [l0, l1, l2, l3, l4, l5, l6, l7, l8, l9, l10, l11, l12, l13, l14, l15, l16, l17, l18, l19, l20, l21, l22, l23, l24, .val .null, l26, l27] (S) H Q := W.aload at_199 rfl rfl h
theorem s0_201 {rm : Room} {S : List Value} {H : AHeap} {Q : Option Value → AHeap → Prop} {l0 l1 l2 l3 l4 l5 l6 l7 l8 l9 l10 l11 l12 l13 l14 l15 l16 l17 l18 l19 l20 l21 l22 l23 l24 l25 l26 l27 : Slot}  (h : W0 rm 202 [l0, l1, l2, l3, l4, l5, l6, l7, l8, l9, l10, l11, l12, l13, l14, l15, l16, l17, l18, l19, l20, l21, l22, l23, l24, l25, l26, l27] (.int 1 :: S) (H) Q) : W0 rm 201 [l0, l1, l2, l3, l4, l5, l6, l7, l8, l9, l10, l11, l12, l13, l14, l15, l16, l17, l18, l19, l20, l21, l22, l23, l24, l25, l26, l27] (S) H Q := W.iconst' at_201 (by decide) h
theorem s0_202 {rm : Room} {S : List Value} {H : AHeap} {Q : Option Value → AHeap → Prop} {l0 l1 l2 l3 l4 l5 l6 l7 l8 l9 l10 l11 l12 l13 l14 l15 l16 l17 l18 l19 l20 l21 l22 l23 l24 l25 l26 l27 : Slot} {rm' : Room} {H' : AHeap} {i : Nat} {vs : List Value} {a0 : Int32} {r : Int64} (hH : H[i]? = some (.inl (0, vs))) (hM : M4 rm' [.ref i, .int a0] H (Is (some (.long r)) H')) (hr : rok rm rm' 2 S = true) (h : W0 (less rm rm') 205 [l0, l1, l2, l3, l4, l5, l6, l7, l8, l9, l10, l11, l12, l13, l14, l15, l16, l17, l18, l19, l20, l21, l22, l23, l24, l25, l26, l27] (.long r :: S) H' Q) : W0 rm 202 [l0, l1, l2, l3, l4, l5, l6, l7, l8, l9, l10, l11, l12, l13, l14, l15, l16, l17, l18, l19, l20, l21, l22, l23, l24, l25, l26, l27] (.int a0 :: .ref i :: S) H Q := W.callV (c := 0) (S := S) (as := [.int a0]) (rm' := rm') at_202 (List.mem_of_getElem? (i := 33) rfl) (List.mem_of_getElem? (i := 34) rfl) (List.mem_of_getElem? (i := 36) rfl) (Or.inl rfl) kt (List.mem_of_getElem? (i := 35) rfl) (List.mem_of_getElem? (i := 4) rfl) (List.mem_of_getElem? (i := 37) rfl) (by decide) rfl pd4 rfl rfl hH hM hr (fun _ _ q => by obtain ⟨rfl, rfl⟩ := q; exact h)
theorem s0_202q {rm : Room} {S : List Value} {H : AHeap} {Q : Option Value → AHeap → Prop} {l0 l1 l2 l3 l4 l5 l6 l7 l8 l9 l10 l11 l12 l13 l14 l15 l16 l17 l18 l19 l20 l21 l22 l23 l24 l25 l26 l27 : Slot} {rm' : Room} {Q' : Option Value → AHeap → Prop} {i : Nat} {vs : List Value} {a0 : Value} (hH : H[i]? = some (.inl (0, vs))) (hM : M4 rm' [.ref i, a0] H Q') (hr : rok rm rm' 2 S = true) (h : ∀ v H', Q' v H' → W0 (less rm rm') 205 [l0, l1, l2, l3, l4, l5, l6, l7, l8, l9, l10, l11, l12, l13, l14, l15, l16, l17, l18, l19, l20, l21, l22, l23, l24, l25, l26, l27] (v.toList ++ S) H' Q) : W0 rm 202 [l0, l1, l2, l3, l4, l5, l6, l7, l8, l9, l10, l11, l12, l13, l14, l15, l16, l17, l18, l19, l20, l21, l22, l23, l24, l25, l26, l27] (a0 :: .ref i :: S) H Q := W.callV (c := 0) (S := S) (as := [a0]) (rm' := rm') at_202 (List.mem_of_getElem? (i := 33) rfl) (List.mem_of_getElem? (i := 34) rfl) (List.mem_of_getElem? (i := 36) rfl) (Or.inl rfl) kt (List.mem_of_getElem? (i := 35) rfl) (List.mem_of_getElem? (i := 4) rfl) (List.mem_of_getElem? (i := 37) rfl) (by decide) rfl pd4 rfl rfl hH hM hr h
theorem s0_205 {rm : Room} {S : List Value} {H : AHeap} {Q : Option Value → AHeap → Prop} {l0 l1 l2 l3 l4 l5 l6 l7 l8 l9 l10 l11 l12 l13 l14 l15 l16 l18 l19 l20 l21 l22 l23 l24 l25 l26 l27 : Slot} {x : Int64} (h : W0 rm 207 [l0, l1, l2, l3, l4, l5, l6, l7, l8, l9, l10, l11, l12, l13, l14, l15, l16, .val (.long x), l18, l19, l20, l21, l22, l23, l24, l25, l26, l27] (.long x :: S) (H) Q) : W0 rm 205 [l0, l1, l2, l3, l4, l5, l6, l7, l8, l9, l10, l11, l12, l13, l14, l15, l16, .val (.long x), l18, l19, l20, l21, l22, l23, l24, l25, l26, l27] (S) H Q := W.lload at_205 rfl h
theorem s0_207 {rm : Room} {S : List Value} {H : AHeap} {Q : Option Value → AHeap → Prop} {l0 l1 l2 l3 l4 l5 l6 l7 l8 l9 l10 l11 l12 l13 l14 l15 l16 l17 l18 l19 l20 l21 l22 l24 l25 l26 l27 : Slot} {x : Int64} (h : W0 rm 209 [l0, l1, l2, l3, l4, l5, l6, l7, l8, l9, l10, l11, l12, l13, l14, l15, l16, l17, l18, l19, l20, l21, l22, .val (.long x), l24, l25, l26, l27] (.long x :: S) (H) Q) : W0 rm 207 [l0, l1, l2, l3, l4, l5, l6, l7, l8, l9, l10, l11, l12, l13, l14, l15, l16, l17, l18, l19, l20, l21, l22, .val (.long x), l24, l25, l26, l27] (S) H Q := W.lload at_207 rfl h
theorem s0_209 {rm : Room} {S : List Value} {H : AHeap} {Q : Option Value → AHeap → Prop} {l0 l1 l2 l3 l4 l5 l6 l7 l8 l9 l10 l11 l12 l13 l14 l15 l16 l17 l18 l20 l21 l22 l23 l24 l25 l26 l27 : Slot} {x : Int64} (h : W0 rm 211 [l0, l1, l2, l3, l4, l5, l6, l7, l8, l9, l10, l11, l12, l13, l14, l15, l16, l17, l18, .val (.long x), l20, l21, l22, l23, l24, l25, l26, l27] (.long x :: S) (H) Q) : W0 rm 209 [l0, l1, l2, l3, l4, l5, l6, l7, l8, l9, l10, l11, l12, l13, l14, l15, l16, l17, l18, .val (.long x), l20, l21, l22, l23, l24, l25, l26, l27] (S) H Q := W.lload at_209 rfl h
theorem s0_211 {rm : Room} {S : List Value} {H : AHeap} {Q : Option Value → AHeap → Prop} {l0 l1 l2 l3 l4 l5 l6 l7 l8 l9 l11 l12 l13 l14 l15 l16 l17 l18 l19 l20 l21 l22 l23 l24 l25 l26 l27 : Slot} {x : Int32} (h : W0 rm 213 [l0, l1, l2, l3, l4, l5, l6, l7, l8, l9, .val (.int x), l11, l12, l13, l14, l15, l16, l17, l18, l19, l20, l21, l22, l23, l24, l25, l26, l27] (.int x :: S) (H) Q) : W0 rm 211 [l0, l1, l2, l3, l4, l5, l6, l7, l8, l9, .val (.int x), l11, l12, l13, l14, l15, l16, l17, l18, l19, l20, l21, l22, l23, l24, l25, l26, l27] (S) H Q := W.iload at_211 rfl h
theorem s0_213 {rm : Room} {S : List Value} {H : AHeap} {Q : Option Value → AHeap → Prop} {l0 l1 l2 l3 l4 l5 l6 l7 l8 l9 l10 l11 l12 l13 l14 l15 l16 l17 l18 l19 l20 l21 l22 l23 l24 l25 l26 l27 : Slot} {x : Int32} (h : W0 rm 214 [l0, l1, l2, l3, l4, l5, l6, l7, l8, l9, l10, l11, l12, l13, l14, l15, l16, l17, l18, l19, l20, l21, l22, l23, l24, l25, l26, l27] (.long x.toInt64 :: S) (H) Q) : W0 rm 213 [l0, l1, l2, l3, l4, l5, l6, l7, l8, l9, l10, l11, l12, l13, l14, l15, l16, l17, l18, l19, l20, l21, l22, l23, l24, l25, l26, l27] (.int x :: S) H Q := W.i2l at_213 h
theorem s0_214 {rm : Room} {S : List Value} {H : AHeap} {Q : Option Value → AHeap → Prop} {l0 l1 l2 l3 l4 l5 l6 l7 l8 l9 l10 l11 l12 l13 l14 l16 l17 l18 l19 l20 l21 l22 l23 l24 l25 l26 l27 : Slot} {x : Int64} (h : W0 rm 216 [l0, l1, l2, l3, l4, l5, l6, l7, l8, l9, l10, l11, l12, l13, l14, .val (.long x), l16, l17, l18, l19, l20, l21, l22, l23, l24, l25, l26, l27] (.long x :: S) (H) Q) : W0 rm 214 [l0, l1, l2, l3, l4, l5, l6, l7, l8, l9, l10, l11, l12, l13, l14, .val (.long x), l16, l17, l18, l19, l20, l21, l22, l23, l24, l25, l26, l27] (S) H Q := W.lload at_214 rfl h
theorem s0_216 {rm : Room} {S : List Value} {H : AHeap} {Q : Option Value → AHeap → Prop} {l0 l1 l2 l3 l4 l5 l6 l7 l8 l9 l10 l11 l12 l13 l14 l15 l16 l17 l18 l19 l20 l21 l22 l23 l24 l25 l26 l27 : Slot}  (h : W0 rm 217 [l0, l1, l2, l3, l4, l5, l6, l7, l8, l9, l10, l11, l12, l13, l14, l15, l16, l17, l18, l19, l20, l21, l22, l23, l24, l25, l26, l27] (.int 1 :: S) (H) Q) : W0 rm 216 [l0, l1, l2, l3, l4, l5, l6, l7, l8, l9, l10, l11, l12, l13, l14, l15, l16, l17, l18, l19, l20, l21, l22, l23, l24, l25, l26, l27] (S) H Q := W.iconst' at_216 (by decide) h
theorem s0_217 {rm : Room} {S : List Value} {H : AHeap} {Q : Option Value → AHeap → Prop} {l0 l1 l2 l3 l4 l5 l6 l7 l8 l9 l10 l11 l12 l13 l14 l15 l16 l17 l18 l19 l20 l21 l22 l23 l24 l25 l26 l27 : Slot} {rm' : Room} {H' : AHeap} {a0 : Int64} {a1 : Int64} {a2 : Int64} {a3 : Int64} {a4 : Int64} {a5 : Int32} {r : Int64} (hM : M5 rm' [.long a0, .long a1, .long a2, .long a3, .long a4, .int a5] H (Is (some (.long r)) H')) (hr : rok rm rm' 11 S = true) (h : W0 (less rm rm') 220 [l0, l1, l2, l3, l4, l5, l6, l7, l8, l9, l10, l11, l12, l13, l14, l15, l16, l17, l18, l19, l20, l21, l22, l23, l24, l25, l26, l27] (.long r :: S) H' Q) : W0 rm 217 [l0, l1, l2, l3, l4, l5, l6, l7, l8, l9, l10, l11, l12, l13, l14, l15, l16, l17, l18, l19, l20, l21, l22, l23, l24, l25, l26, l27] (.int a5 :: .long a4 :: .long a3 :: .long a2 :: .long a1 :: .long a0 :: S) H Q := W.callS (S := S) (as := [.long a0, .long a1, .long a2, .long a3, .long a4, .int a5]) (rm' := rm') at_217 (List.mem_of_getElem? (i := 38) rfl) (List.mem_of_getElem? (i := 39) rfl) (List.mem_of_getElem? (i := 40) rfl) (List.mem_of_getElem? (i := 41) rfl) (by decide) pd5 rfl rfl hM hr (fun _ _ q => by obtain ⟨rfl, rfl⟩ := q; exact h)
theorem s0_217q {rm : Room} {S : List Value} {H : AHeap} {Q : Option Value → AHeap → Prop} {l0 l1 l2 l3 l4 l5 l6 l7 l8 l9 l10 l11 l12 l13 l14 l15 l16 l17 l18 l19 l20 l21 l22 l23 l24 l25 l26 l27 : Slot} {rm' : Room} {Q' : Option Value → AHeap → Prop} {a0 a1 a2 a3 a4 a5 : Value} (hM : M5 rm' [a0, a1, a2, a3, a4, a5] H Q') (hr : rok rm rm' 11 S = true) (h : ∀ v H', Q' v H' → W0 (less rm rm') 220 [l0, l1, l2, l3, l4, l5, l6, l7, l8, l9, l10, l11, l12, l13, l14, l15, l16, l17, l18, l19, l20, l21, l22, l23, l24, l25, l26, l27] (v.toList ++ S) H' Q) : W0 rm 217 [l0, l1, l2, l3, l4, l5, l6, l7, l8, l9, l10, l11, l12, l13, l14, l15, l16, l17, l18, l19, l20, l21, l22, l23, l24, l25, l26, l27] (a5 :: a4 :: a3 :: a2 :: a1 :: a0 :: S) H Q := W.callS (S := S) (as := [a0, a1, a2, a3, a4, a5]) (rm' := rm') at_217 (List.mem_of_getElem? (i := 38) rfl) (List.mem_of_getElem? (i := 39) rfl) (List.mem_of_getElem? (i := 40) rfl) (List.mem_of_getElem? (i := 41) rfl) (by decide) pd5 rfl rfl hM hr h
theorem s0_221 {rm : Room} {S : List Value} {H : AHeap} {Q : Option Value → AHeap → Prop} {l0 l1 l2 l3 l4 l5 l6 l7 l8 l9 l10 l11 l12 l13 l14 l15 l16 l17 l18 l19 l20 l21 l22 l23 l24 l25 l26 l27 : Slot} {x : Int32} (h1 : ¬ x = 0 → W0 rm 228 [l0, l1, l2, l3, l4, l5, l6, l7, l8, l9, l10, l11, l12, l13, l14, l15, l16, l17, l18, l19, l20, l21, l22, l23, l24, l25, l26, l27] S H Q) (h2 : x = 0 → W0 rm 224 [l0, l1, l2, l3, l4, l5, l6, l7, l8, l9, l10, l11, l12, l13, l14, l15, l16, l17, l18, l19, l20, l21, l22, l23, l24, l25, l26, l27] S H Q) : W0 rm 221 [l0, l1, l2, l3, l4, l5, l6, l7, l8, l9, l10, l11, l12, l13, l14, l15, l16, l17, l18, l19, l20, l21, l22, l23, l24, l25, l26, l27] (.int x :: S) H Q := W.ifc at_221 (by decide) (by decide) h1 h2
theorem s0_220c {rm : Room} {S : List Value} {H : AHeap} {Q : Option Value → AHeap → Prop} {l0 l1 l2 l3 l4 l5 l6 l7 l8 l9 l10 l11 l12 l13 l14 l15 l16 l17 l18 l19 l20 l21 l22 l23 l24 l25 l26 l27 : Slot} {x y : Int64} (h1 : ¬ x = y → W0 rm 228 [l0, l1, l2, l3, l4, l5, l6, l7, l8, l9, l10, l11, l12, l13, l14, l15, l16, l17, l18, l19, l20, l21, l22, l23, l24, l25, l26, l27] S H Q) (h2 : x = y → W0 rm 224 [l0, l1, l2, l3, l4, l5, l6, l7, l8, l9, l10, l11, l12, l13, l14, l15, l16, l17, l18, l19, l20, l21, l22, l23, l24, l25, l26, l27] S H Q) : W0 rm 220 [l0, l1, l2, l3, l4, l5, l6, l7, l8, l9, l10, l11, l12, l13, l14, l15, l16, l17, l18, l19, l20, l21, l22, l23, l24, l25, l26, l27] (.long y :: .long x :: S) H Q := W.lcif at_220 rfl at_221 (by decide) (by decide) h1 h2
theorem s0_224 {rm : Room} {S : List Value} {H : AHeap} {Q : Option Value → AHeap → Prop} {l0 l1 l2 l3 l4 l5 l6 l7 l8 l9 l10 l11 l12 l13 l14 l15 l16 l17 l18 l19 l20 l21 l22 l23 l24 l25 l26 l27 : Slot}  (h : W0 rm 225 [l0, l1, l2, l3, l4, l5, l6, l7, l8, l9, l10, l11, l12, l13, l14, l15, l16, l17, l18, l19, l20, l21, l22, l23, l24, l25, l26, l27] (.int 1 :: S) (H) Q) : W0 rm 224 [l0, l1, l2, l3, l4, l5, l6, l7, l8, l9, l10, l11, l12, l13, l14, l15, l16, l17, l18, l19, l20, l21, l22, l23, l24, l25, l26, l27] (S) H Q := W.iconst' at_224 (by decide) h
theorem s0_225 {rm : Room} {S : List Value} {H : AHeap} {Q : Option Value → AHeap → Prop} {l0 l1 l2 l3 l4 l5 l6 l7 l8 l9 l10 l11 l12 l13 l14 l15 l16 l17 l18 l19 l20 l21 l22 l23 l24 l25 l26 l27 : Slot}  (h : W0 rm 229 [l0, l1, l2, l3, l4, l5, l6, l7, l8, l9, l10, l11, l12, l13, l14, l15, l16, l17, l18, l19, l20, l21, l22, l23, l24, l25, l26, l27] (S) (H) Q) : W0 rm 225 [l0, l1, l2, l3, l4, l5, l6, l7, l8, l9, l10, l11, l12, l13, l14, l15, l16, l17, l18, l19, l20, l21, l22, l23, l24, l25, l26, l27] (S) H Q := W.goto at_225 (by decide) (by decide) h
theorem s0_228 {rm : Room} {S : List Value} {H : AHeap} {Q : Option Value → AHeap → Prop} {l0 l1 l2 l3 l4 l5 l6 l7 l8 l9 l10 l11 l12 l13 l14 l15 l16 l17 l18 l19 l20 l21 l22 l23 l24 l25 l26 l27 : Slot}  (h : W0 rm 229 [l0, l1, l2, l3, l4, l5, l6, l7, l8, l9, l10, l11, l12, l13, l14, l15, l16, l17, l18, l19, l20, l21, l22, l23, l24, l25, l26, l27] (.int 0 :: S) (H) Q) : W0 rm 228 [l0, l1, l2, l3, l4, l5, l6, l7, l8, l9, l10, l11, l12, l13, l14, l15, l16, l17, l18, l19, l20, l21, l22, l23, l24, l25, l26, l27] (S) H Q := W.iconst' at_228 (by decide) h
theorem s0_229 {rm : Room} {S : List Value} {H : AHeap} {Q : Option Value → AHeap → Prop} {l0 l1 l2 l3 l4 l5 l6 l7 l8 l9 l10 l11 l12 l13 l14 l15 l16 l17 l18 l19 l20 l21 l22 l23 l24 l25 l26 l27 : Slot} {x : Int32} (ho : one l27 = true) (h : W0 rm 231 [l0, l1, l2, l3, l4, l5, l6, l7, l8, l9, l10, l11, l12, l13, l14, l15, l16, l17, l18, l19, l20, l21, l22, l23, l24, l25, l26, .val (.int x)] (S) (H) Q) : W0 rm 229 [l0, l1, l2, l3, l4, l5, l6, l7, l8, l9, l10, l11, l12, l13, l14, l15, l16, l17, l18, l19, l20, l21, l22, l23, l24, l25, l26, l27] (.int x :: S) H Q := W.istore at_229 rfl ho h
theorem s0_229s {rm : Room} {S : List Value} {H : AHeap} {Q : Option Value → AHeap → Prop} {l0 l1 l2 l3 l4 l5 l6 l7 l8 l9 l10 l11 l12 l13 l14 l15 l16 l17 l18 l19 l20 l21 l22 l23 l24 l25 l26 : Slot} {x : Int32} (h : W0 rm 231 [l0, l1, l2, l3, l4, l5, l6, l7, l8, l9, l10, l11, l12, l13, l14, l15, l16, l17, l18, l19, l20, l21, l22, l23, l24, l25, .unset, .val (.int x)] (S) (H) Q) : W0 rm 229 [l0, l1, l2, l3, l4, l5, l6, l7, l8, l9, l10, l11, l12, l13, l14, l15, l16, l17, l18, l19, l20, l21, l22, l23, l24, l25, l26, .second] (.int x :: S) H Q := W.istoreS at_229 rfl (by decide) h
theorem s0_231 {rm : Room} {S : List Value} {H : AHeap} {Q : Option Value → AHeap → Prop} {l0 l1 l2 l3 l4 l5 l6 l7 l8 l9 l10 l11 l12 l13 l14 l15 l16 l17 l18 l19 l20 l21 l22 l23 l24 l25 l26 l27 : Slot}  (h : W0 rm 232 [l0, l1, l2, l3, l4, l5, l6, l7, l8, l9, l10, l11, l12, l13, l14, l15, l16, l17, l18, l19, l20, l21, l22, l23, l24, l25, l26, l27] (.int 2 :: S) (H) Q) : W0 rm 231 [l0, l1, l2, l3, l4, l5, l6, l7, l8, l9, l10, l11, l12, l13, l14, l15, l16, l17, l18, l19, l20, l21, l22, l23, l24, l25, l26, l27] (S) H Q := W.iconst' at_231 (by decide) h
theorem s0_232 {rm : Room} {S : List Value} {H : AHeap} {Q : Option Value → AHeap → Prop} {l0 l1 l2 l3 l4 l5 l6 l7 l8 l9 l10 l11 l12 l13 l14 l15 l16 l17 l18 l19 l20 l21 l22 l23 l24 l25 l27 : Slot} {x : Int32} (h : W0 rm 234 [l0, l1, l2, l3, l4, l5, l6, l7, l8, l9, l10, l11, l12, l13, l14, l15, l16, l17, l18, l19, l20, l21, l22, l23, l24, l25, .val (.int x), l27] (.int x :: S) (H) Q) : W0 rm 232 [l0, l1, l2, l3, l4, l5, l6, l7, l8, l9, l10, l11, l12, l13, l14, l15, l16, l17, l18, l19, l20, l21, l22, l23, l24, l25, .val (.int x), l27] (S) H Q := W.iload at_232 rfl h
theorem s0_234 {rm : Room} {S : List Value} {H : AHeap} {Q : Option Value → AHeap → Prop} {l0 l1 l2 l3 l4 l5 l6 l7 l8 l9 l10 l11 l12 l13 l14 l15 l16 l17 l18 l19 l20 l21 l22 l23 l24 l25 l26 l27 : Slot} {x y : Int32} (h1 : ¬ x < y → W0 rm 274 [l0, l1, l2, l3, l4, l5, l6, l7, l8, l9, l10, l11, l12, l13, l14, l15, l16, l17, l18, l19, l20, l21, l22, l23, l24, l25, l26, l27] S H Q) (h2 : x < y → W0 rm 237 [l0, l1, l2, l3, l4, l5, l6, l7, l8, l9, l10, l11, l12, l13, l14, l15, l16, l17, l18, l19, l20, l21, l22, l23, l24, l25, l26, l27] S H Q) : W0 rm 234 [l0, l1, l2, l3, l4, l5, l6, l7, l8, l9, l10, l11, l12, l13, l14, l15, l16, l17, l18, l19, l20, l21, l22, l23, l24, l25, l26, l27] (.int y :: .int x :: S) H Q := W.icmp at_234 (by decide) (by decide) h1 h2
theorem s0_237 {rm : Room} {S : List Value} {H : AHeap} {Q : Option Value → AHeap → Prop} {l0 l1 l2 l3 l4 l5 l6 l7 l8 l9 l10 l11 l12 l13 l14 l15 l16 l17 l18 l19 l20 l21 l22 l23 l24 l25 l26 : Slot} {x : Int32} (h : W0 rm 239 [l0, l1, l2, l3, l4, l5, l6, l7, l8, l9, l10, l11, l12, l13, l14, l15, l16, l17, l18, l19, l20, l21, l22, l23, l24, l25, l26, .val (.int x)] (.int x :: S) (H) Q) : W0 rm 237 [l0, l1, l2, l3, l4, l5, l6, l7, l8, l9, l10, l11, l12, l13, l14, l15, l16, l17, l18, l19, l20, l21, l22, l23, l24, l25, l26, .val (.int x)] (S) H Q := W.iload at_237 rfl h
theorem s0_239 {rm : Room} {S : List Value} {H : AHeap} {Q : Option Value → AHeap → Prop} {l0 l1 l2 l3 l4 l5 l6 l7 l8 l9 l10 l11 l12 l13 l14 l15 l16 l17 l18 l19 l20 l21 l22 l23 l24 l25 l26 l27 : Slot} {x : Int32} (h1 : x = 0 → W0 rm 271 [l0, l1, l2, l3, l4, l5, l6, l7, l8, l9, l10, l11, l12, l13, l14, l15, l16, l17, l18, l19, l20, l21, l22, l23, l24, l25, l26, l27] S H Q) (h2 : ¬ x = 0 → W0 rm 242 [l0, l1, l2, l3, l4, l5, l6, l7, l8, l9, l10, l11, l12, l13, l14, l15, l16, l17, l18, l19, l20, l21, l22, l23, l24, l25, l26, l27] S H Q) : W0 rm 239 [l0, l1, l2, l3, l4, l5, l6, l7, l8, l9, l10, l11, l12, l13, l14, l15, l16, l17, l18, l19, l20, l21, l22, l23, l24, l25, l26, l27] (.int x :: S) H Q := W.ifc at_239 (by decide) (by decide) h1 h2
theorem s0_242 {rm : Room} {S : List Value} {H : AHeap} {Q : Option Value → AHeap → Prop} {l0 l1 l2 l3 l4 l5 l6 l7 l8 l9 l10 l11 l12 l13 l14 l15 l16 l17 l18 l19 l20 l21 l22 l23 l24 l26 l27 : Slot} {i : Nat} (h : W0 rm 244 [l0, l1, l2, l3, l4, l5, l6, l7, l8, l9, l10, l11, l12, l13, l14, l15, l16, l17, l18, l19, l20, l21, l22, l23, l24, .val (.ref i), l26, l27] (.ref i :: S) (H) Q) : W0 rm 242 [l0, l1, l2, l3, l4, l5, l6, l7, l8, l9, l10, l11, l12, l13, l14, l15, l16, l17, l18, l19, l20, l21, l22, l23, l24, .val (.ref i), l26, l27] (S) H Q := W.aload at_242 rfl rfl h
theorem s0_242n {rm : Room} {S : List Value} {H : AHeap} {Q : Option Value → AHeap → Prop} {l0 l1 l2 l3 l4 l5 l6 l7 l8 l9 l10 l11 l12 l13 l14 l15 l16 l17 l18 l19 l20 l21 l22 l23 l24 l26 l27 : Slot}  (h : W0 rm 244 [l0, l1, l2, l3, l4, l5, l6, l7, l8, l9, l10, l11, l12, l13, l14, l15, l16, l17, l18, l19, l20, l21, l22, l23, l24, .val .null, l26, l27] (.null :: S) (H) Q) : W0 rm 242 [l0, l1, l2, l3, l4, l5, l6, l7, l8, l9, l10, l11, l12, l13, l14, l15, l16, l17, l18, l19, l20, l21, l22, l23, l24, .val .null, l26, l27] (S) H Q := W.aload at_242 rfl rfl h
theorem s0_244 {rm : Room} {S : List Value} {H : AHeap} {Q : Option Value → AHeap → Prop} {l0 l1 l2 l3 l4 l5 l6 l7 l8 l9 l10 l11 l12 l13 l14 l15 l16 l17 l18 l19 l20 l21 l22 l23 l24 l25 l26 l27 : Slot}  (h : W0 rm 245 [l0, l1, l2, l3, l4, l5, l6, l7, l8, l9, l10, l11, l12, l13, l14, l15, l16, l17, l18, l19, l20, l21, l22, l23, l24, l25, l26, l27] (.int 2 :: S) (H) Q) : W0 rm 244 [l0, l1, l2, l3, l4, l5, l6, l7, l8, l9, l10, l11, l12, l13, l14, l15, l16, l17, l18, l19, l20, l21, l22, l23, l24, l25, l26, l27] (S) H Q := W.iconst' at_244 (by decide) h
theorem s0_245 {rm : Room} {S : List Value} {H : AHeap} {Q : Option Value → AHeap → Prop} {l0 l1 l2 l3 l4 l5 l6 l7 l8 l9 l10 l11 l12 l13 l14 l15 l16 l17 l18 l19 l20 l21 l22 l23 l24 l25 l26 l27 : Slot} {rm' : Room} {H' : AHeap} {i : Nat} {vs : List Value} {a0 : Int32} {r : Int64} (hH : H[i]? = some (.inl (0, vs))) (hM : M4 rm' [.ref i, .int a0] H (Is (some (.long r)) H')) (hr : rok rm rm' 2 S = true) (h : W0 (less rm rm') 248 [l0, l1, l2, l3, l4, l5, l6, l7, l8, l9, l10, l11, l12, l13, l14, l15, l16, l17, l18, l19, l20, l21, l22, l23, l24, l25, l26, l27] (.long r :: S) H' Q) : W0 rm 245 [l0, l1, l2, l3, l4, l5, l6, l7, l8, l9, l10, l11, l12, l13, l14, l15, l16, l17, l18, l19, l20, l21, l22, l23, l24, l25, l26, l27] (.int a0 :: .ref i :: S) H Q := W.callV (c := 0) (S := S) (as := [.int a0]) (rm' := rm') at_245 (List.mem_of_getElem? (i := 33) rfl) (List.mem_of_getElem? (i := 34) rfl) (List.mem_of_getElem? (i := 36) rfl) (Or.inl rfl) kt (List.mem_of_getElem? (i := 35) rfl) (List.mem_of_getElem? (i := 4) rfl) (List.mem_of_getElem? (i := 37) rfl) (by decide) rfl pd4 rfl rfl hH hM hr (fun _ _ q => by obtain ⟨rfl, rfl⟩ := q; exact h)
theorem s0_245q {rm : Room} {S : List Value} {H : AHeap} {Q : Option Value → AHeap → Prop} {l0 l1 l2 l3 l4 l5 l6 l7 l8 l9 l10 l11 l12 l13 l14 l15 l16 l17 l18 l19 l20 l21 l22 l23 l24 l25 l26 l27 : Slot} {rm' : Room} {Q' : Option Value → AHeap → Prop} {i : Nat} {vs : List Value} {a0 : Value} (hH : H[i]? = some (.inl (0, vs))) (hM : M4 rm' [.ref i, a0] H Q') (hr : rok rm rm' 2 S = true) (h : ∀ v H', Q' v H' → W0 (less rm rm') 248 [l0, l1, l2, l3, l4, l5, l6, l7, l8, l9, l10, l11, l12, l13, l14, l15, l16, l17, l18, l19, l20, l21, l22, l23, l24, l25, l26, l27] (v.toList ++ S) H' Q) : W0 rm 245 [l0, l1, l2, l3, l4, l5, l6, l7, l8, l9, l10, l11, l12, l13, l14, l15, l16, l17, l18, l19, l20, l21, l22, l23, l24, l25, l26, l27] (a0 :: .ref i :: S) H Q := W.callV (c := 0) (S := S) (as := [a0]) (rm' := rm') at_245 (List.mem_of_getElem? (i := 33) rfl) (List.mem_of_getElem? (i := 34) rfl) (List.mem_of_getElem? (i := 36) rfl) (Or.inl rfl) kt (List.mem_of_getElem? (i := 35) rfl) (List.mem_of_getElem? (i := 4) rfl) (List.mem_of_getElem? (i := 37) rfl) (by decide) rfl pd4 rfl rfl hH hM hr h
theorem s0_248 {rm : Room} {S : List Value} {H : AHeap} {Q : Option Value → AHeap → Prop} {l0 l1 l2 l3 l4 l5 l6 l7 l8 l9 l10 l11 l12 l13 l14 l15 l16 l18 l19 l20 l21 l22 l23 l24 l25 l26 l27 : Slot} {x : Int64} (h : W0 rm 250 [l0, l1, l2, l3, l4, l5, l6, l7, l8, l9, l10, l11, l12, l13, l14, l15, l16, .val (.long x), l18, l19, l20, l21, l22, l23, l24, l25, l26, l27] (.long x :: S) (H) Q) : W0 rm 248 [l0, l1, l2, l3, l4, l5, l6, l7, l8, l9, l10, l11, l12, l13, l14, l15, l16, .val (.long x), l18, l19, l20, l21, l22, l23, l24, l25, l26, l27] (S) H Q := W.lload at_248 rfl h
theorem s0_250 {rm : Room} {S : List Value} {H : AHeap} {Q : Option Value → AHeap → Prop} {l0 l1 l2 l3 l4 l5 l6 l7 l8 l9 l10 l11 l12 l13 l14 l15 l16 l17 l18 l19 l20 l21 l22 l24 l25 l26 l27 : Slot} {x : Int64} (h : W0 rm 252 [l0, l1, l2, l3, l4, l5, l6, l7, l8, l9, l10, l11, l12, l13, l14, l15, l16, l17, l18, l19, l20, l21, l22, .val (.long x), l24, l25, l26, l27] (.long x :: S) (H) Q) : W0 rm 250 [l0, l1, l2, l3, l4, l5, l6, l7, l8, l9, l10, l11, l12, l13, l14, l15, l16, l17, l18, l19, l20, l21, l22, .val (.long x), l24, l25, l26, l27] (S) H Q := W.lload at_250 rfl h
theorem s0_252 {rm : Room} {S : List Value} {H : AHeap} {Q : Option Value → AHeap → Prop} {l0 l1 l2 l3 l4 l5 l6 l7 l8 l9 l10 l11 l12 l13 l14 l15 l16 l17 l18 l20 l21 l22 l23 l24 l25 l26 l27 : Slot} {x : Int64} (h : W0 rm 254 [l0, l1, l2, l3, l4, l5, l6, l7, l8, l9, l10, l11, l12, l13, l14, l15, l16, l17, l18, .val (.long x), l20, l21, l22, l23, l24, l25, l26, l27] (.long x :: S) (H) Q) : W0 rm 252 [l0, l1, l2, l3, l4, l5, l6, l7, l8, l9, l10, l11, l12, l13, l14, l15, l16, l17, l18, .val (.long x), l20, l21, l22, l23, l24, l25, l26, l27] (S) H Q := W.lload at_252 rfl h
theorem s0_254 {rm : Room} {S : List Value} {H : AHeap} {Q : Option Value → AHeap → Prop} {l0 l1 l2 l3 l4 l5 l6 l7 l8 l9 l11 l12 l13 l14 l15 l16 l17 l18 l19 l20 l21 l22 l23 l24 l25 l26 l27 : Slot} {x : Int32} (h : W0 rm 256 [l0, l1, l2, l3, l4, l5, l6, l7, l8, l9, .val (.int x), l11, l12, l13, l14, l15, l16, l17, l18, l19, l20, l21, l22, l23, l24, l25, l26, l27] (.int x :: S) (H) Q) : W0 rm 254 [l0, l1, l2, l3, l4, l5, l6, l7, l8, l9, .val (.int x), l11, l12, l13, l14, l15, l16, l17, l18, l19, l20, l21, l22, l23, l24, l25, l26, l27] (S) H Q := W.iload at_254 rfl h
theorem s0_256 {rm : Room} {S : List Value} {H : AHeap} {Q : Option Value → AHeap → Prop} {l0 l1 l2 l3 l4 l5 l6 l7 l8 l9 l10 l11 l12 l13 l14 l15 l16 l17 l18 l19 l20 l21 l22 l23 l24 l25 l26 l27 : Slot} {x : Int32} (h : W0 rm 257 [l0, l1, l2, l3, l4, l5, l6, l7, l8, l9, l10, l11, l12, l13, l14, l15, l16, l17, l18, l19, l20, l21, l22, l23, l24, l25, l26, l27] (.long x.toInt64 :: S) (H) Q) : W0 rm 256 [l0, l1, l2, l3, l4, l5, l6, l7, l8, l9, l10, l11, l12, l13, l14, l15, l16, l17, l18, l19, l20, l21, l22, l23, l24, l25, l26, l27] (.int x :: S) H Q := W.i2l at_256 h
theorem s0_257 {rm : Room} {S : List Value} {H : AHeap} {Q : Option Value → AHeap → Prop} {l0 l1 l2 l3 l4 l5 l6 l7 l8 l9 l10 l11 l12 l13 l14 l16 l17 l18 l19 l20 l21 l22 l23 l24 l25 l26 l27 : Slot} {x : Int64} (h : W0 rm 259 [l0, l1, l2, l3, l4, l5, l6, l7, l8, l9, l10, l11, l12, l13, l14, .val (.long x), l16, l17, l18, l19, l20, l21, l22, l23, l24, l25, l26, l27] (.long x :: S) (H) Q) : W0 rm 257 [l0, l1, l2, l3, l4, l5, l6, l7, l8, l9, l10, l11, l12, l13, l14, .val (.long x), l16, l17, l18, l19, l20, l21, l22, l23, l24, l25, l26, l27] (S) H Q := W.lload at_257 rfl h
theorem s0_259 {rm : Room} {S : List Value} {H : AHeap} {Q : Option Value → AHeap → Prop} {l0 l1 l2 l3 l4 l5 l6 l7 l8 l9 l10 l11 l12 l13 l14 l15 l16 l17 l18 l19 l20 l21 l22 l23 l24 l25 l26 l27 : Slot}  (h : W0 rm 260 [l0, l1, l2, l3, l4, l5, l6, l7, l8, l9, l10, l11, l12, l13, l14, l15, l16, l17, l18, l19, l20, l21, l22, l23, l24, l25, l26, l27] (.int 2 :: S) (H) Q) : W0 rm 259 [l0, l1, l2, l3, l4, l5, l6, l7, l8, l9, l10, l11, l12, l13, l14, l15, l16, l17, l18, l19, l20, l21, l22, l23, l24, l25, l26, l27] (S) H Q := W.iconst' at_259 (by decide) h
theorem s0_260 {rm : Room} {S : List Value} {H : AHeap} {Q : Option Value → AHeap → Prop} {l0 l1 l2 l3 l4 l5 l6 l7 l8 l9 l10 l11 l12 l13 l14 l15 l16 l17 l18 l19 l20 l21 l22 l23 l24 l25 l26 l27 : Slot} {rm' : Room} {H' : AHeap} {a0 : Int64} {a1 : Int64} {a2 : Int64} {a3 : Int64} {a4 : Int64} {a5 : Int32} {r : Int64} (hM : M5 rm' [.long a0, .long a1, .long a2, .long a3, .long a4, .int a5] H (Is (some (.long r)) H')) (hr : rok rm rm' 11 S = true) (h : W0 (less rm rm') 263 [l0, l1, l2, l3, l4, l5, l6, l7, l8, l9, l10, l11, l12, l13, l14, l15, l16, l17, l18, l19, l20, l21, l22, l23, l24, l25, l26, l27] (.long r :: S) H' Q) : W0 rm 260 [l0, l1, l2, l3, l4, l5, l6, l7, l8, l9, l10, l11, l12, l13, l14, l15, l16, l17, l18, l19, l20, l21, l22, l23, l24, l25, l26, l27] (.int a5 :: .long a4 :: .long a3 :: .long a2 :: .long a1 :: .long a0 :: S) H Q := W.callS (S := S) (as := [.long a0, .long a1, .long a2, .long a3, .long a4, .int a5]) (rm' := rm') at_260 (List.mem_of_getElem? (i := 38) rfl) (List.mem_of_getElem? (i := 39) rfl) (List.mem_of_getElem? (i := 40) rfl) (List.mem_of_getElem? (i := 41) rfl) (by decide) pd5 rfl rfl hM hr (fun _ _ q => by obtain ⟨rfl, rfl⟩ := q; exact h)
theorem s0_260q {rm : Room} {S : List Value} {H : AHeap} {Q : Option Value → AHeap → Prop} {l0 l1 l2 l3 l4 l5 l6 l7 l8 l9 l10 l11 l12 l13 l14 l15 l16 l17 l18 l19 l20 l21 l22 l23 l24 l25 l26 l27 : Slot} {rm' : Room} {Q' : Option Value → AHeap → Prop} {a0 a1 a2 a3 a4 a5 : Value} (hM : M5 rm' [a0, a1, a2, a3, a4, a5] H Q') (hr : rok rm rm' 11 S = true) (h : ∀ v H', Q' v H' → W0 (less rm rm') 263 [l0, l1, l2, l3, l4, l5, l6, l7, l8, l9, l10, l11, l12, l13, l14, l15, l16, l17, l18, l19, l20, l21, l22, l23, l24, l25, l26, l27] (v.toList ++ S) H' Q) : W0 rm 260 [l0, l1, l2, l3, l4, l5, l6, l7, l8, l9, l10, l11, l12, l13, l14, l15, l16, l17, l18, l19, l20, l21, l22, l23, l24, l25, l26, l27] (a5 :: a4 :: a3 :: a2 :: a1 :: a0 :: S) H Q := W.callS (S := S) (as := [a0, a1, a2, a3, a4, a5]) (rm' := rm') at_260 (List.mem_of_getElem? (i := 38) rfl) (List.mem_of_getElem? (i := 39) rfl) (List.mem_of_getElem? (i := 40) rfl) (List.mem_of_getElem? (i := 41) rfl) (by decide) pd5 rfl rfl hM hr h
theorem s0_264 {rm : Room} {S : List Value} {H : AHeap} {Q : Option Value → AHeap → Prop} {l0 l1 l2 l3 l4 l5 l6 l7 l8 l9 l10 l11 l12 l13 l14 l15 l16 l17 l18 l19 l20 l21 l22 l23 l24 l25 l26 l27 : Slot} {x : Int32} (h1 : ¬ x = 0 → W0 rm 271 [l0, l1, l2, l3, l4, l5, l6, l7, l8, l9, l10, l11, l12, l13, l14, l15, l16, l17, l18, l19, l20, l21, l22, l23, l24, l25, l26, l27] S H Q) (h2 : x = 0 → W0 rm 267 [l0, l1, l2, l3, l4, l5, l6, l7, l8, l9, l10, l11, l12, l13, l14, l15, l16, l17, l18, l19, l20, l21, l22, l23, l24, l25, l26, l27] S H Q) : W0 rm 264 [l0, l1, l2, l3, l4, l5, l6, l7, l8, l9, l10, l11, l12, l13, l14, l15, l16, l17, l18, l19, l20, l21, l22, l23, l24, l25, l26, l27] (.int x :: S) H Q := W.ifc at_264 (by decide) (by decide) h1 h2
theorem s0_263c {rm : Room} {S : List Value} {H : AHeap} {Q : Option Value → AHeap → Prop} {l0 l1 l2 l3 l4 l5 l6 l7 l8 l9 l10 l11 l12 l13 l14 l15 l16 l17 l18 l19 l20 l21 l22 l23 l24 l25 l26 l27 : Slot} {x y : Int64} (h1 : ¬ x = y → W0 rm 271 [l0, l1, l2, l3, l4, l5, l6, l7, l8, l9, l10, l11, l12, l13, l14, l15, l16, l17, l18, l19, l20, l21, l22, l23, l24, l25, l26, l27] S H Q) (h2 : x = y → W0 rm 267 [l0, l1, l2, l3, l4, l5, l6, l7, l8, l9, l10, l11, l12, l13, l14, l15, l16, l17, l18, l19, l20, l21, l22, l23, l24, l25, l26, l27] S H Q) : W0 rm 263 [l0, l1, l2, l3, l4, l5, l6, l7, l8, l9, l10, l11, l12, l13, l14, l15, l16, l17, l18, l19, l20, l21, l22, l23, l24, l25, l26, l27] (.long y :: .long x :: S) H Q := W.lcif at_263 rfl at_264 (by decide) (by decide) h1 h2
theorem s0_267 {rm : Room} {S : List Value} {H : AHeap} {Q : Option Value → AHeap → Prop} {l0 l1 l2 l3 l4 l5 l6 l7 l8 l9 l10 l11 l12 l13 l14 l15 l16 l17 l18 l19 l20 l21 l22 l23 l24 l25 l26 l27 : Slot}  (h : W0 rm 268 [l0, l1, l2, l3, l4, l5, l6, l7, l8, l9, l10, l11, l12, l13, l14, l15, l16, l17, l18, l19, l20, l21, l22, l23, l24, l25, l26, l27] (.int 1 :: S) (H) Q) : W0 rm 267 [l0, l1, l2, l3, l4, l5, l6, l7, l8, l9, l10, l11, l12, l13, l14, l15, l16, l17, l18, l19, l20, l21, l22, l23, l24, l25, l26, l27] (S) H Q := W.iconst' at_267 (by decide) h
theorem s0_268 {rm : Room} {S : List Value} {H : AHeap} {Q : Option Value → AHeap → Prop} {l0 l1 l2 l3 l4 l5 l6 l7 l8 l9 l10 l11 l12 l13 l14 l15 l16 l17 l18 l19 l20 l21 l22 l23 l24 l25 l26 l27 : Slot}  (h : W0 rm 272 [l0, l1, l2, l3, l4, l5, l6, l7, l8, l9, l10, l11, l12, l13, l14, l15, l16, l17, l18, l19, l20, l21, l22, l23, l24, l25, l26, l27] (S) (H) Q) : W0 rm 268 [l0, l1, l2, l3, l4, l5, l6, l7, l8, l9, l10, l11, l12, l13, l14, l15, l16, l17, l18, l19, l20, l21, l22, l23, l24, l25, l26, l27] (S) H Q := W.goto at_268 (by decide) (by decide) h
theorem s0_271 {rm : Room} {S : List Value} {H : AHeap} {Q : Option Value → AHeap → Prop} {l0 l1 l2 l3 l4 l5 l6 l7 l8 l9 l10 l11 l12 l13 l14 l15 l16 l17 l18 l19 l20 l21 l22 l23 l24 l25 l26 l27 : Slot}  (h : W0 rm 272 [l0, l1, l2, l3, l4, l5, l6, l7, l8, l9, l10, l11, l12, l13, l14, l15, l16, l17, l18, l19, l20, l21, l22, l23, l24, l25, l26, l27] (.int 0 :: S) (H) Q) : W0 rm 271 [l0, l1, l2, l3, l4, l5, l6, l7, l8, l9, l10, l11, l12, l13, l14, l15, l16, l17, l18, l19, l20, l21, l22, l23, l24, l25, l26, l27] (S) H Q := W.iconst' at_271 (by decide) h
theorem s0_272 {rm : Room} {S : List Value} {H : AHeap} {Q : Option Value → AHeap → Prop} {l0 l1 l2 l3 l4 l5 l6 l7 l8 l9 l10 l11 l12 l13 l14 l15 l16 l17 l18 l19 l20 l21 l22 l23 l24 l25 l26 l27 : Slot} {x : Int32} (ho : one l27 = true) (h : W0 rm 274 [l0, l1, l2, l3, l4, l5, l6, l7, l8, l9, l10, l11, l12, l13, l14, l15, l16, l17, l18, l19, l20, l21, l22, l23, l24, l25, l26, .val (.int x)] (S) (H) Q) : W0 rm 272 [l0, l1, l2, l3, l4, l5, l6, l7, l8, l9, l10, l11, l12, l13, l14, l15, l16, l17, l18, l19, l20, l21, l22, l23, l24, l25, l26, l27] (.int x :: S) H Q := W.istore at_272 rfl ho h
theorem s0_272s {rm : Room} {S : List Value} {H : AHeap} {Q : Option Value → AHeap → Prop} {l0 l1 l2 l3 l4 l5 l6 l7 l8 l9 l10 l11 l12 l13 l14 l15 l16 l17 l18 l19 l20 l21 l22 l23 l24 l25 l26 : Slot} {x : Int32} (h : W0 rm 274 [l0, l1, l2, l3, l4, l5, l6, l7, l8, l9, l10, l11, l12, l13, l14, l15, l16, l17, l18, l19, l20, l21, l22, l23, l24, l25, .unset, .val (.int x)] (S) (H) Q) : W0 rm 272 [l0, l1, l2, l3, l4, l5, l6, l7, l8, l9, l10, l11, l12, l13, l14, l15, l16, l17, l18, l19, l20, l21, l22, l23, l24, l25, l26, .second] (.int x :: S) H Q := W.istoreS at_272 rfl (by decide) h
theorem s0_274 {rm : Room} {S : List Value} {H : AHeap} {Q : Option Value → AHeap → Prop} {l0 l1 l2 l3 l4 l5 l6 l7 l8 l9 l10 l11 l12 l13 l14 l15 l16 l17 l18 l19 l20 l21 l22 l23 l24 l25 l26 l27 : Slot}  (h : W0 rm 275 [l0, l1, l2, l3, l4, l5, l6, l7, l8, l9, l10, l11, l12, l13, l14, l15, l16, l17, l18, l19, l20, l21, l22, l23, l24, l25, l26, l27] (.int 3 :: S) (H) Q) : W0 rm 274 [l0, l1, l2, l3, l4, l5, l6, l7, l8, l9, l10, l11, l12, l13, l14, l15, l16, l17, l18, l19, l20, l21, l22, l23, l24, l25, l26, l27] (S) H Q := W.iconst' at_274 (by decide) h
theorem s0_275 {rm : Room} {S : List Value} {H : AHeap} {Q : Option Value → AHeap → Prop} {l0 l1 l2 l3 l4 l5 l6 l7 l8 l9 l10 l11 l12 l13 l14 l15 l16 l17 l18 l19 l20 l21 l22 l23 l24 l25 l27 : Slot} {x : Int32} (h : W0 rm 277 [l0, l1, l2, l3, l4, l5, l6, l7, l8, l9, l10, l11, l12, l13, l14, l15, l16, l17, l18, l19, l20, l21, l22, l23, l24, l25, .val (.int x), l27] (.int x :: S) (H) Q) : W0 rm 275 [l0, l1, l2, l3, l4, l5, l6, l7, l8, l9, l10, l11, l12, l13, l14, l15, l16, l17, l18, l19, l20, l21, l22, l23, l24, l25, .val (.int x), l27] (S) H Q := W.iload at_275 rfl h
theorem s0_277 {rm : Room} {S : List Value} {H : AHeap} {Q : Option Value → AHeap → Prop} {l0 l1 l2 l3 l4 l5 l6 l7 l8 l9 l10 l11 l12 l13 l14 l15 l16 l17 l18 l19 l20 l21 l22 l23 l24 l25 l26 l27 : Slot} {x y : Int32} (h1 : ¬ x < y → W0 rm 317 [l0, l1, l2, l3, l4, l5, l6, l7, l8, l9, l10, l11, l12, l13, l14, l15, l16, l17, l18, l19, l20, l21, l22, l23, l24, l25, l26, l27] S H Q) (h2 : x < y → W0 rm 280 [l0, l1, l2, l3, l4, l5, l6, l7, l8, l9, l10, l11, l12, l13, l14, l15, l16, l17, l18, l19, l20, l21, l22, l23, l24, l25, l26, l27] S H Q) : W0 rm 277 [l0, l1, l2, l3, l4, l5, l6, l7, l8, l9, l10, l11, l12, l13, l14, l15, l16, l17, l18, l19, l20, l21, l22, l23, l24, l25, l26, l27] (.int y :: .int x :: S) H Q := W.icmp at_277 (by decide) (by decide) h1 h2
theorem s0_280 {rm : Room} {S : List Value} {H : AHeap} {Q : Option Value → AHeap → Prop} {l0 l1 l2 l3 l4 l5 l6 l7 l8 l9 l10 l11 l12 l13 l14 l15 l16 l17 l18 l19 l20 l21 l22 l23 l24 l25 l26 : Slot} {x : Int32} (h : W0 rm 282 [l0, l1, l2, l3, l4, l5, l6, l7, l8, l9, l10, l11, l12, l13, l14, l15, l16, l17, l18, l19, l20, l21, l22, l23, l24, l25, l26, .val (.int x)] (.int x :: S) (H) Q) : W0 rm 280 [l0, l1, l2, l3, l4, l5, l6, l7, l8, l9, l10, l11, l12, l13, l14, l15, l16, l17, l18, l19, l20, l21, l22, l23, l24, l25, l26, .val (.int x)] (S) H Q := W.iload at_280 rfl h
theorem s0_282 {rm : Room} {S : List Value} {H : AHeap} {Q : Option Value → AHeap → Prop} {l0 l1 l2 l3 l4 l5 l6 l7 l8 l9 l10 l11 l12 l13 l14 l15 l16 l17 l18 l19 l20 l21 l22 l23 l24 l25 l26 l27 : Slot} {x : Int32} (h1 : x = 0 → W0 rm 314 [l0, l1, l2, l3, l4, l5, l6, l7, l8, l9, l10, l11, l12, l13, l14, l15, l16, l17, l18, l19, l20, l21, l22, l23, l24, l25, l26, l27] S H Q) (h2 : ¬ x = 0 → W0 rm 285 [l0, l1, l2, l3, l4, l5, l6, l7, l8, l9, l10, l11, l12, l13, l14, l15, l16, l17, l18, l19, l20, l21, l22, l23, l24, l25, l26, l27] S H Q) : W0 rm 282 [l0, l1, l2, l3, l4, l5, l6, l7, l8, l9, l10, l11, l12, l13, l14, l15, l16, l17, l18, l19, l20, l21, l22, l23, l24, l25, l26, l27] (.int x :: S) H Q := W.ifc at_282 (by decide) (by decide) h1 h2
theorem s0_285 {rm : Room} {S : List Value} {H : AHeap} {Q : Option Value → AHeap → Prop} {l0 l1 l2 l3 l4 l5 l6 l7 l8 l9 l10 l11 l12 l13 l14 l15 l16 l17 l18 l19 l20 l21 l22 l23 l24 l26 l27 : Slot} {i : Nat} (h : W0 rm 287 [l0, l1, l2, l3, l4, l5, l6, l7, l8, l9, l10, l11, l12, l13, l14, l15, l16, l17, l18, l19, l20, l21, l22, l23, l24, .val (.ref i), l26, l27] (.ref i :: S) (H) Q) : W0 rm 285 [l0, l1, l2, l3, l4, l5, l6, l7, l8, l9, l10, l11, l12, l13, l14, l15, l16, l17, l18, l19, l20, l21, l22, l23, l24, .val (.ref i), l26, l27] (S) H Q := W.aload at_285 rfl rfl h
theorem s0_285n {rm : Room} {S : List Value} {H : AHeap} {Q : Option Value → AHeap → Prop} {l0 l1 l2 l3 l4 l5 l6 l7 l8 l9 l10 l11 l12 l13 l14 l15 l16 l17 l18 l19 l20 l21 l22 l23 l24 l26 l27 : Slot}  (h : W0 rm 287 [l0, l1, l2, l3, l4, l5, l6, l7, l8, l9, l10, l11, l12, l13, l14, l15, l16, l17, l18, l19, l20, l21, l22, l23, l24, .val .null, l26, l27] (.null :: S) (H) Q) : W0 rm 285 [l0, l1, l2, l3, l4, l5, l6, l7, l8, l9, l10, l11, l12, l13, l14, l15, l16, l17, l18, l19, l20, l21, l22, l23, l24, .val .null, l26, l27] (S) H Q := W.aload at_285 rfl rfl h
theorem s0_287 {rm : Room} {S : List Value} {H : AHeap} {Q : Option Value → AHeap → Prop} {l0 l1 l2 l3 l4 l5 l6 l7 l8 l9 l10 l11 l12 l13 l14 l15 l16 l17 l18 l19 l20 l21 l22 l23 l24 l25 l26 l27 : Slot}  (h : W0 rm 288 [l0, l1, l2, l3, l4, l5, l6, l7, l8, l9, l10, l11, l12, l13, l14, l15, l16, l17, l18, l19, l20, l21, l22, l23, l24, l25, l26, l27] (.int 3 :: S) (H) Q) : W0 rm 287 [l0, l1, l2, l3, l4, l5, l6, l7, l8, l9, l10, l11, l12, l13, l14, l15, l16, l17, l18, l19, l20, l21, l22, l23, l24, l25, l26, l27] (S) H Q := W.iconst' at_287 (by decide) h
theorem s0_288 {rm : Room} {S : List Value} {H : AHeap} {Q : Option Value → AHeap → Prop} {l0 l1 l2 l3 l4 l5 l6 l7 l8 l9 l10 l11 l12 l13 l14 l15 l16 l17 l18 l19 l20 l21 l22 l23 l24 l25 l26 l27 : Slot} {rm' : Room} {H' : AHeap} {i : Nat} {vs : List Value} {a0 : Int32} {r : Int64} (hH : H[i]? = some (.inl (0, vs))) (hM : M4 rm' [.ref i, .int a0] H (Is (some (.long r)) H')) (hr : rok rm rm' 2 S = true) (h : W0 (less rm rm') 291 [l0, l1, l2, l3, l4, l5, l6, l7, l8, l9, l10, l11, l12, l13, l14, l15, l16, l17, l18, l19, l20, l21, l22, l23, l24, l25, l26, l27] (.long r :: S) H' Q) : W0 rm 288 [l0, l1, l2, l3, l4, l5, l6, l7, l8, l9, l10, l11, l12, l13, l14, l15, l16, l17, l18, l19, l20, l21, l22, l23, l24, l25, l26, l27] (.int a0 :: .ref i :: S) H Q := W.callV (c := 0) (S := S) (as := [.int a0]) (rm' := rm') at_288 (List.mem_of_getElem? (i := 33) rfl) (List.mem_of_getElem? (i := 34) rfl) (List.mem_of_getElem? (i := 36) rfl) (Or.inl rfl) kt (List.mem_of_getElem? (i := 35) rfl) (List.mem_of_getElem? (i := 4) rfl) (List.mem_of_getElem? (i := 37) rfl) (by decide) rfl pd4 rfl rfl hH hM hr (fun _ _ q => by obtain ⟨rfl, rfl⟩ := q; exact h)
theorem s0_288q {rm : Room} {S : List Value} {H : AHeap} {Q : Option Value → AHeap → Prop} {l0 l1 l2 l3 l4 l5 l6 l7 l8 l9 l10 l11 l12 l13 l14 l15 l16 l17 l18 l19 l20 l21 l22 l23 l24 l25 l26 l27 : Slot} {rm' : Room} {Q' : Option Value → AHeap → Prop} {i : Nat} {vs : List Value} {a0 : Value} (hH : H[i]? = some (.inl (0, vs))) (hM : M4 rm' [.ref i, a0] H Q') (hr : rok rm rm' 2 S = true) (h : ∀ v H', Q' v H' → W0 (less rm rm') 291 [l0, l1, l2, l3, l4, l5, l6, l7, l8, l9, l10, l11, l12, l13, l14, l15, l16, l17, l18, l19, l20, l21, l22, l23, l24, l25, l26, l27] (v.toList ++ S) H' Q) : W0 rm 288 [l0, l1, l2, l3, l4, l5, l6, l7, l8, l9, l10, l11, l12, l13, l14, l15, l16, l17, l18, l19, l20, l21, l22, l23, l24, l25, l26, l27] (a0 :: .ref i :: S) H Q := W.callV (c := 0) (S := S) (as := [a0]) (rm' := rm') at_288 (List.mem_of_getElem? (i := 33) rfl) (List.mem_of_getElem? (i := 34) rfl) (List.mem_of_getElem? (i := 36) rfl) (Or.inl rfl) kt (List.mem_of_getElem? (i := 35) rfl) (List.mem_of_getElem? (i := 4) rfl) (List.mem_of_getElem? (i := 37) rfl) (by decide) rfl pd4 rfl rfl hH hM hr h
theorem s0_291 {rm : Room} {S : List Value} {H : AHeap} {Q : Option Value → AHeap → Prop} {l0 l1 l2 l3 l4 l5 l6 l7 l8 l9 l10 l11 l12 l13 l14 l15 l16 l18 l19 l20 l21 l22 l23 l24 l25 l26 l27 : Slot} {x : Int64} (h : W0 rm 293 [l0, l1, l2, l3, l4, l5, l6, l7, l8, l9, l10, l11, l12, l13, l14, l15, l16, .val (.long x), l18, l19, l20, l21, l22, l23, l24, l25, l26, l27] (.long x :: S) (H) Q) : W0 rm 291 [l0, l1, l2, l3, l4, l5, l6, l7, l8, l9, l10, l11, l12, l13, l14, l15, l16, .val (.long x), l18, l19, l20, l21, l22, l23, l24, l25, l26, l27] (S) H Q := W.lload at_291 rfl h
theorem s0_293 {rm : Room} {S : List Value} {H : AHeap} {Q : Option Value → AHeap → Prop} {l0 l1 l2 l3 l4 l5 l6 l7 l8 l9 l10 l11 l12 l13 l14 l15 l16 l17 l18 l19 l20 l21 l22 l24 l25 l26 l27 : Slot} {x : Int64} (h : W0 rm 295 [l0, l1, l2, l3, l4, l5, l6, l7, l8, l9, l10, l11, l12, l13, l14, l15, l16, l17, l18, l19, l20, l21, l22, .val (.long x), l24, l25, l26, l27] (.long x :: S) (H) Q) : W0 rm 293 [l0, l1, l2, l3, l4, l5, l6, l7, l8, l9, l10, l11, l12, l13, l14, l15, l16, l17, l18, l19, l20, l21, l22, .val (.long x), l24, l25, l26, l27] (S) H Q := W.lload at_293 rfl h
theorem s0_295 {rm : Room} {S : List Value} {H : AHeap} {Q : Option Value → AHeap → Prop} {l0 l1 l2 l3 l4 l5 l6 l7 l8 l9 l10 l11 l12 l13 l14 l15 l16 l17 l18 l20 l21 l22 l23 l24 l25 l26 l27 : Slot} {x : Int64} (h : W0 rm 297 [l0, l1, l2, l3, l4, l5, l6, l7, l8, l9, l10, l11, l12, l13, l14, l15, l16, l17, l18, .val (.long x), l20, l21, l22, l23, l24, l25, l26, l27] (.long x :: S) (H) Q) : W0 rm 295 [l0, l1, l2, l3, l4, l5, l6, l7, l8, l9, l10, l11, l12, l13, l14, l15, l16, l17, l18, .val (.long x), l20, l21, l22, l23, l24, l25, l26, l27] (S) H Q := W.lload at_295 rfl h
theorem s0_297 {rm : Room} {S : List Value} {H : AHeap} {Q : Option Value → AHeap → Prop} {l0 l1 l2 l3 l4 l5 l6 l7 l8 l9 l11 l12 l13 l14 l15 l16 l17 l18 l19 l20 l21 l22 l23 l24 l25 l26 l27 : Slot} {x : Int32} (h : W0 rm 299 [l0, l1, l2, l3, l4, l5, l6, l7, l8, l9, .val (.int x), l11, l12, l13, l14, l15, l16, l17, l18, l19, l20, l21, l22, l23, l24, l25, l26, l27] (.int x :: S) (H) Q) : W0 rm 297 [l0, l1, l2, l3, l4, l5, l6, l7, l8, l9, .val (.int x), l11, l12, l13, l14, l15, l16, l17, l18, l19, l20, l21, l22, l23, l24, l25, l26, l27] (S) H Q := W.iload at_297 rfl h
theorem s0_299 {rm : Room} {S : List Value} {H : AHeap} {Q : Option Value → AHeap → Prop} {l0 l1 l2 l3 l4 l5 l6 l7 l8 l9 l10 l11 l12 l13 l14 l15 l16 l17 l18 l19 l20 l21 l22 l23 l24 l25 l26 l27 : Slot} {x : Int32} (h : W0 rm 300 [l0, l1, l2, l3, l4, l5, l6, l7, l8, l9, l10, l11, l12, l13, l14, l15, l16, l17, l18, l19, l20, l21, l22, l23, l24, l25, l26, l27] (.long x.toInt64 :: S) (H) Q) : W0 rm 299 [l0, l1, l2, l3, l4, l5, l6, l7, l8, l9, l10, l11, l12, l13, l14, l15, l16, l17, l18, l19, l20, l21, l22, l23, l24, l25, l26, l27] (.int x :: S) H Q := W.i2l at_299 h
theorem s0_300 {rm : Room} {S : List Value} {H : AHeap} {Q : Option Value → AHeap → Prop} {l0 l1 l2 l3 l4 l5 l6 l7 l8 l9 l10 l11 l12 l13 l14 l16 l17 l18 l19 l20 l21 l22 l23 l24 l25 l26 l27 : Slot} {x : Int64} (h : W0 rm 302 [l0, l1, l2, l3, l4, l5, l6, l7, l8, l9, l10, l11, l12, l13, l14, .val (.long x), l16, l17, l18, l19, l20, l21, l22, l23, l24, l25, l26, l27] (.long x :: S) (H) Q) : W0 rm 300 [l0, l1, l2, l3, l4, l5, l6, l7, l8, l9, l10, l11, l12, l13, l14, .val (.long x), l16, l17, l18, l19, l20, l21, l22, l23, l24, l25, l26, l27] (S) H Q := W.lload at_300 rfl h
theorem s0_302 {rm : Room} {S : List Value} {H : AHeap} {Q : Option Value → AHeap → Prop} {l0 l1 l2 l3 l4 l5 l6 l7 l8 l9 l10 l11 l12 l13 l14 l15 l16 l17 l18 l19 l20 l21 l22 l23 l24 l25 l26 l27 : Slot}  (h : W0 rm 303 [l0, l1, l2, l3, l4, l5, l6, l7, l8, l9, l10, l11, l12, l13, l14, l15, l16, l17, l18, l19, l20, l21, l22, l23, l24, l25, l26, l27] (.int 3 :: S) (H) Q) : W0 rm 302 [l0, l1, l2, l3, l4, l5, l6, l7, l8, l9, l10, l11, l12, l13, l14, l15, l16, l17, l18, l19, l20, l21, l22, l23, l24, l25, l26, l27] (S) H Q := W.iconst' at_302 (by decide) h
theorem s0_303 {rm : Room} {S : List Value} {H : AHeap} {Q : Option Value → AHeap → Prop} {l0 l1 l2 l3 l4 l5 l6 l7 l8 l9 l10 l11 l12 l13 l14 l15 l16 l17 l18 l19 l20 l21 l22 l23 l24 l25 l26 l27 : Slot} {rm' : Room} {H' : AHeap} {a0 : Int64} {a1 : Int64} {a2 : Int64} {a3 : Int64} {a4 : Int64} {a5 : Int32} {r : Int64} (hM : M5 rm' [.long a0, .long a1, .long a2, .long a3, .long a4, .int a5] H (Is (some (.long r)) H')) (hr : rok rm rm' 11 S = true) (h : W0 (less rm rm') 306 [l0, l1, l2, l3, l4, l5, l6, l7, l8, l9, l10, l11, l12, l13, l14, l15, l16, l17, l18, l19, l20, l21, l22, l23, l24, l25, l26, l27] (.long r :: S) H' Q) : W0 rm 303 [l0, l1, l2, l3, l4, l5, l6, l7, l8, l9, l10, l11, l12, l13, l14, l15, l16, l17, l18, l19, l20, l21, l22, l23, l24, l25, l26, l27] (.int a5 :: .long a4 :: .long a3 :: .long a2 :: .long a1 :: .long a0 :: S) H Q := W.callS (S := S) (as := [.long a0, .long a1, .long a2, .long a3, .long a4, .int a5]) (rm' := rm') at_303 (List.mem_of_getElem? (i := 38) rfl) (List.mem_of_getElem? (i := 39) rfl) (List.mem_of_getElem? (i := 40) rfl) (List.mem_of_getElem? (i := 41) rfl) (by decide) pd5 rfl rfl hM hr (fun _ _ q => by obtain ⟨rfl, rfl⟩ := q; exact h)
theorem s0_303q {rm : Room} {S : List Value} {H : AHeap} {Q : Option Value → AHeap → Prop} {l0 l1 l2 l3 l4 l5 l6 l7 l8 l9 l10 l11 l12 l13 l14 l15 l16 l17 l18 l19 l20 l21 l22 l23 l24 l25 l26 l27 : Slot} {rm' : Room} {Q' : Option Value → AHeap → Prop} {a0 a1 a2 a3 a4 a5 : Value} (hM : M5 rm' [a0, a1, a2, a3, a4, a5] H Q') (hr : rok rm rm' 11 S = true) (h : ∀ v H', Q' v H' → W0 (less rm rm') 306 [l0, l1, l2, l3, l4, l5, l6, l7, l8, l9, l10, l11, l12, l13, l14, l15, l16, l17, l18, l19, l20, l21, l22, l23, l24, l25, l26, l27] (v.toList ++ S) H' Q) : W0 rm 303 [l0, l1, l2, l3, l4, l5, l6, l7, l8, l9, l10, l11, l12, l13, l14, l15, l16, l17, l18, l19, l20, l21, l22, l23, l24, l25, l26, l27] (a5 :: a4 :: a3 :: a2 :: a1 :: a0 :: S) H Q := W.callS (S := S) (as := [a0, a1, a2, a3, a4, a5]) (rm' := rm') at_303 (List.mem_of_getElem? (i := 38) rfl) (List.mem_of_getElem? (i := 39) rfl) (List.mem_of_getElem? (i := 40) rfl) (List.mem_of_getElem? (i := 41) rfl) (by decide) pd5 rfl rfl hM hr h
theorem s0_307 {rm : Room} {S : List Value} {H : AHeap} {Q : Option Value → AHeap → Prop} {l0 l1 l2 l3 l4 l5 l6 l7 l8 l9 l10 l11 l12 l13 l14 l15 l16 l17 l18 l19 l20 l21 l22 l23 l24 l25 l26 l27 : Slot} {x : Int32} (h1 : ¬ x = 0 → W0 rm 314 [l0, l1, l2, l3, l4, l5, l6, l7, l8, l9, l10, l11, l12, l13, l14, l15, l16, l17, l18, l19, l20, l21, l22, l23, l24, l25, l26, l27] S H Q) (h2 : x = 0 → W0 rm 310 [l0, l1, l2, l3, l4, l5, l6, l7, l8, l9, l10, l11, l12, l13, l14, l15, l16, l17, l18, l19, l20, l21, l22, l23, l24, l25, l26, l27] S H Q) : W0 rm 307 [l0, l1, l2, l3, l4, l5, l6, l7, l8, l9, l10, l11, l12, l13, l14, l15, l16, l17, l18, l19, l20, l21, l22, l23, l24, l25, l26, l27] (.int x :: S) H Q := W.ifc at_307 (by decide) (by decide) h1 h2
theorem s0_306c {rm : Room} {S : List Value} {H : AHeap} {Q : Option Value → AHeap → Prop} {l0 l1 l2 l3 l4 l5 l6 l7 l8 l9 l10 l11 l12 l13 l14 l15 l16 l17 l18 l19 l20 l21 l22 l23 l24 l25 l26 l27 : Slot} {x y : Int64} (h1 : ¬ x = y → W0 rm 314 [l0, l1, l2, l3, l4, l5, l6, l7, l8, l9, l10, l11, l12, l13, l14, l15, l16, l17, l18, l19, l20, l21, l22, l23, l24, l25, l26, l27] S H Q) (h2 : x = y → W0 rm 310 [l0, l1, l2, l3, l4, l5, l6, l7, l8, l9, l10, l11, l12, l13, l14, l15, l16, l17, l18, l19, l20, l21, l22, l23, l24, l25, l26, l27] S H Q) : W0 rm 306 [l0, l1, l2, l3, l4, l5, l6, l7, l8, l9, l10, l11, l12, l13, l14, l15, l16, l17, l18, l19, l20, l21, l22, l23, l24, l25, l26, l27] (.long y :: .long x :: S) H Q := W.lcif at_306 rfl at_307 (by decide) (by decide) h1 h2
theorem s0_310 {rm : Room} {S : List Value} {H : AHeap} {Q : Option Value → AHeap → Prop} {l0 l1 l2 l3 l4 l5 l6 l7 l8 l9 l10 l11 l12 l13 l14 l15 l16 l17 l18 l19 l20 l21 l22 l23 l24 l25 l26 l27 : Slot}  (h : W0 rm 311 [l0, l1, l2, l3, l4, l5, l6, l7, l8, l9, l10, l11, l12, l13, l14, l15, l16, l17, l18, l19, l20, l21, l22, l23, l24, l25, l26, l27] (.int 1 :: S) (H) Q) : W0 rm 310 [l0, l1, l2, l3, l4, l5, l6, l7, l8, l9, l10, l11, l12, l13, l14, l15, l16, l17, l18, l19, l20, l21, l22, l23, l24, l25, l26, l27] (S) H Q := W.iconst' at_310 (by decide) h
theorem s0_311 {rm : Room} {S : List Value} {H : AHeap} {Q : Option Value → AHeap → Prop} {l0 l1 l2 l3 l4 l5 l6 l7 l8 l9 l10 l11 l12 l13 l14 l15 l16 l17 l18 l19 l20 l21 l22 l23 l24 l25 l26 l27 : Slot}  (h : W0 rm 315 [l0, l1, l2, l3, l4, l5, l6, l7, l8, l9, l10, l11, l12, l13, l14, l15, l16, l17, l18, l19, l20, l21, l22, l23, l24, l25, l26, l27] (S) (H) Q) : W0 rm 311 [l0, l1, l2, l3, l4, l5, l6, l7, l8, l9, l10, l11, l12, l13, l14, l15, l16, l17, l18, l19, l20, l21, l22, l23, l24, l25, l26, l27] (S) H Q := W.goto at_311 (by decide) (by decide) h
theorem s0_314 {rm : Room} {S : List Value} {H : AHeap} {Q : Option Value → AHeap → Prop} {l0 l1 l2 l3 l4 l5 l6 l7 l8 l9 l10 l11 l12 l13 l14 l15 l16 l17 l18 l19 l20 l21 l22 l23 l24 l25 l26 l27 : Slot}  (h : W0 rm 315 [l0, l1, l2, l3, l4, l5, l6, l7, l8, l9, l10, l11, l12, l13, l14, l15, l16, l17, l18, l19, l20, l21, l22, l23, l24, l25, l26, l27] (.int 0 :: S) (H) Q) : W0 rm 314 [l0, l1, l2, l3, l4, l5, l6, l7, l8, l9, l10, l11, l12, l13, l14, l15, l16, l17, l18, l19, l20, l21, l22, l23, l24, l25, l26, l27] (S) H Q := W.iconst' at_314 (by decide) h
theorem s0_315 {rm : Room} {S : List Value} {H : AHeap} {Q : Option Value → AHeap → Prop} {l0 l1 l2 l3 l4 l5 l6 l7 l8 l9 l10 l11 l12 l13 l14 l15 l16 l17 l18 l19 l20 l21 l22 l23 l24 l25 l26 l27 : Slot} {x : Int32} (ho : one l27 = true) (h : W0 rm 317 [l0, l1, l2, l3, l4, l5, l6, l7, l8, l9, l10, l11, l12, l13, l14, l15, l16, l17, l18, l19, l20, l21, l22, l23, l24, l25, l26, .val (.int x)] (S) (H) Q) : W0 rm 315 [l0, l1, l2, l3, l4, l5, l6, l7, l8, l9, l10, l11, l12, l13, l14, l15, l16, l17, l18, l19, l20, l21, l22, l23, l24, l25, l26, l27] (.int x :: S) H Q := W.istore at_315 rfl ho h
theorem s0_315s {rm : Room} {S : List Value} {H : AHeap} {Q : Option Value → AHeap → Prop} {l0 l1 l2 l3 l4 l5 l6 l7 l8 l9 l10 l11 l12 l13 l14 l15 l16 l17 l18 l19 l20 l21 l22 l23 l24 l25 l26 : Slot} {x : Int32} (h : W0 rm 317 [l0, l1, l2, l3, l4, l5, l6, l7, l8, l9, l10, l11, l12, l13, l14, l15, l16, l17, l18, l19, l20, l21, l22, l23, l24, l25, .unset, .val (.int x)] (S) (H) Q) : W0 rm 315 [l0, l1, l2, l3, l4, l5, l6, l7, l8, l9, l10, l11, l12, l13, l14, l15, l16, l17, l18, l19, l20, l21, l22, l23, l24, l25, l26, .second] (.int x :: S) H Q := W.istoreS at_315 rfl (by decide) h
theorem s0_317 {rm : Room} {S : List Value} {H : AHeap} {Q : Option Value → AHeap → Prop} {l0 l1 l2 l3 l4 l5 l6 l7 l8 l9 l10 l11 l12 l13 l14 l15 l16 l17 l18 l19 l20 l21 l22 l23 l24 l25 l26 : Slot} {x : Int32} (h : W0 rm 319 [l0, l1, l2, l3, l4, l5, l6, l7, l8, l9, l10, l11, l12, l13, l14, l15, l16, l17, l18, l19, l20, l21, l22, l23, l24, l25, l26, .val (.int x)] (.int x :: S) (H) Q) : W0 rm 317 [l0, l1, l2, l3, l4, l5, l6, l7, l8, l9, l10, l11, l12, l13, l14, l15, l16, l17, l18, l19, l20, l21, l22, l23, l24, l25, l26, .val (.int x)] (S) H Q := W.iload at_317 rfl h
theorem s0_319 {rm : Room} {S : List Value} {H : AHeap} {Q : Option Value → AHeap → Prop} {l0 l1 l2 l3 l4 l5 l6 l7 l8 l9 l10 l11 l12 l13 l14 l15 l16 l17 l18 l19 l20 l21 l22 l23 l24 l25 l26 l27 : Slot} {x : Int32} (hQ : Q (some (.int (x &&& 1))) H) : W0 rm 319 [l0, l1, l2, l3, l4, l5, l6, l7, l8, l9, l10, l11, l12, l13, l14, l15, l16, l17, l18, l19, l20, l21, l22, l23, l24, l25, l26, l27] (.int x :: S) H Q := W.ireturnZ at_319 rfl hQ
theorem e1 {rm : Room} {H : AHeap} {Q : Option Value → AHeap → Prop} {a0 : Nat} {a1 : Int64} {a2 : Int32} (h : W1 rm 0 [.val (.ref a0), .val (.long a1), .second, .val (.int a2)] [] H Q) : M1 rm [.ref a0, .long a1, .int a2] H Q := M.of pf1 rfl rfl h
theorem e1L {rm : Room} {H : AHeap} {Q : Option Value → AHeap → Prop} {L : List Slot} {as : List Value} (h : W1 rm 0 L [] H Q) (hl : ent as ++ List.replicate (4 - (ent as).length) .unset = L := by rfl) (hn : L.length = 4 := by rfl) : M1 rm as H Q := M.of pf1 hl hn h
theorem d1_0 : decode prog_27_method_1_code 0 = .ok (.aload_n 0, 1) := by decide +kernel
theorem s1_0 {rm : Room} {S : List Value} {H : AHeap} {Q : Option Value → AHeap → Prop} {l1 l2 l3 : Slot} {i : Nat} (h : W1 rm 1 [.val (.ref i), l1, l2, l3] (.ref i :: S) (H) Q) : W1 rm 0 [.val (.ref i), l1, l2, l3] (S) H Q := W.aload_n d1_0 rfl rfl h
theorem s1_0n {rm : Room} {S : List Value} {H : AHeap} {Q : Option Value → AHeap → Prop} {l1 l2 l3 : Slot}  (h : W1 rm 1 [.val .null, l1, l2, l3] (.null :: S) (H) Q) : W1 rm 0 [.val .null, l1, l2, l3] (S) H Q := W.aload_n d1_0 rfl rfl h
theorem d1_1 : decode prog_27_method_1_code 1 = .ok (.invokespecial 3, 3) := by decide +kernel
theorem s1_1 {rm : Room} {S : List Value} {H : AHeap} {Q : Option Value → AHeap → Prop} {l0 l1 l2 l3 : Slot} {i : Nat} (hr : iok rm S = true) (h : W1 rm 4 [l0, l1, l2, l3] (S) (H) Q) : W1 rm 1 [l0, l1, l2, l3] (.ref i :: S) H Q := W.initO d1_1 (List.mem_of_getElem? (i := 8) rfl) (List.mem_of_getElem? (i := 9) rfl) (List.mem_of_getElem? (i := 10) rfl) hr h
theorem d1_4 : decode prog_27_method_1_code 4 = .ok (.aload_n 0, 1) := by decide +kernel
theorem s1_4 {rm : Room} {S : List Value} {H : AHeap} {Q : Option Value → AHeap → Prop} {l1 l2 l3 : Slot} {i : Nat} (h : W1 rm 5 [.val (.ref i), l1, l2, l3] (.ref i :: S) (H) Q) : W1 rm 4 [.val (.ref i), l1, l2, l3] (S) H Q := W.aload_n d1_4 rfl rfl h
theorem s1_4n {rm : Room} {S : List Value} {H : AHeap} {Q : Option Value → AHeap → Prop} {l1 l2 l3 : Slot}  (h : W1 rm 5 [.val .null, l1, l2, l3] (.null :: S) (H) Q) : W1 rm 4 [.val .null, l1, l2, l3] (S) H Q := W.aload_n d1_4 rfl rfl h
theorem d1_5 : decode prog_27_method_1_code 5 = .ok (.lload_n 1, 1) := by decide +kernel
theorem s1_5 {rm : Room} {S : List Value} {H : AHeap} {Q : Option Value → AHeap → Prop} {l0 l2 l3 : Slot} {x : Int64} (h : W1 rm 6 [l0, .val (.long x), l2, l3] (.long x :: S) (H) Q) : W1 rm 5 [l0, .val (.long x), l2, l3] (S) H Q := W.lload_n d1_5 rfl h
theorem d1_6 : decode prog_27_method_1_code 6 = .ok (.iload_n 3, 1) := by decide +kernel
theorem s1_6 {rm : Room} {S : List Value} {H : AHeap} {Q : Option Value → AHeap → Prop} {l0 l1 l2 : Slot} {x : Int32} (h : W1 rm 7 [l0, l1, l2, .val (.int x)] (.int x :: S) (H) Q) : W1 rm 6 [l0, l1, l2, .val (.int x)] (S) H Q := W.iload_n d1_6 rfl h
theorem d1_7 : decode prog_27_method_1_code 7 = .ok (.invokestatic 9, 3) := by decide +kernel
theorem s1_7 {rm : Room} {S : List Value} {H : AHeap} {Q : Option Value → AHeap → Prop} {l0 l1 l2 l3 : Slot} {rm' : Room} {H' : AHeap} {a0 : Int64} {a1 : Int32} {r : Int32} (hM : M2 rm' [.long a0, .int a1] H (Is (some (.int r)) H')) (hr : rok rm rm' 3 S = true) (h : W1 (less rm rm') 10 [l0, l1, l2, l3] (.int r :: S) H' Q) : W1 rm 7 [l0, l1, l2, l3] (.int a1 :: .long a0 :: S) H Q := W.callS (S := S) (as := [.long a0, .int a1]) (rm' := rm') d1_7 (List.mem_of_getElem? (i := 11) rfl) (List.mem_of_getElem? (i := 12) rfl) (List.mem_of_getElem? (i := 4) rfl) (List.mem_of_getElem? (i := 13) rfl) (by decide) pd2 rfl rfl hM hr (fun _ _ q => by obtain ⟨rfl, rfl⟩ := q; exact h)
theorem s1_7q {rm : Room} {S : List Value} {H : AHeap} {Q : Option Value → AHeap → Prop} {l0 l1 l2 l3 : Slot} {rm' : Room} {Q' : Option Value → AHeap → Prop} {a0 a1 : Value} (hM : M2 rm' [a0, a1] H Q') (hr : rok rm rm' 3 S = true) (h : ∀ v H', Q' v H' → W1 (less rm rm') 10 [l0, l1, l2, l3] (v.toList ++ S) H' Q) : W1 rm 7 [l0, l1, l2, l3] (a1 :: a0 :: S) H Q := W.callS (S := S) (as := [a0, a1]) (rm' := rm') d1_7 (List.mem_of_getElem? (i := 11) rfl) (List.mem_of_getElem? (i := 12) rfl) (List.mem_of_getElem? (i := 4) rfl) (List.mem_of_getElem? (i := 13) rfl) (by decide) pd2 rfl rfl hM hr h
theorem d1_10 : decode prog_27_method_1_code 10 = .ok (.newarray .long, 2) := by decide +kernel
theorem s1_10 {rm : Room} {S : List Value} {H : AHeap} {Q : Option Value → AHeap → Prop} {l0 l1 l2 l3 : Slot} {n : Int32} (i N : Nat) (hn : ix n N) (hi : H.length = i) (hr : nok rm N = true) (h : W1 ⟨rm.frames, rm.cells - 1, rm.slots - N, rm.locals⟩ 12 [l0, l1, l2, l3] (.ref i :: S) (H ++ [.inr (.long, List.replicate N (.long 0))]) Q) : W1 rm 10 [l0, l1, l2, l3] (.int n :: S) H Q := W.newarray (ty := .long) (d := .long 0) d1_10 rfl (List.mem_of_getElem? (i := 16) rfl) rfl hn hi hr h
theorem d1_12 : decode prog_27_method_1_code 12 = .ok (.putfield 15, 3) := by decide +kernel
theorem s1_12 {rm : Room} {S : List Value} {H : AHeap} {Q : Option Value → AHeap → Prop} {l0 l1 l2 l3 : Slot} {i : Nat} {f0 f1 f2 f3 : Value} {x : Nat} (hH : H[i]? = some (.inl (0, [f0, f1, f2, f3]))) (h : W1 rm 15 [l0, l1, l2, l3] (S) (H.set i (.inl (0, [.ref x, f1, f2, f3]))) Q) : W1 rm 12 [l0, l1, l2, l3] (.ref x :: .ref i :: S) H Q := W.putF (c := 0) (j := 0) kt d1_12 (host := "") (Or.inl (List.mem_of_getElem? (i := 17) rfl)) (Or.inl rfl) rfl rfl (Or.inr ⟨(List.mem_of_getElem? (i := 18) rfl), rfl, rfl⟩) rfl rfl hH h
theorem d1_15 : decode prog_27_method_1_code 15 = .ok (.aload_n 0, 1) := by decide +kernel
theorem s1_15 {rm : Room} {S : List Value} {H : AHeap} {Q : Option Value → AHeap → Prop} {l1 l2 l3 : Slot} {i : Nat} (h : W1 rm 16 [.val (.ref i), l1, l2, l3] (.ref i :: S) (H) Q) : W1 rm 15 [.val (.ref i), l1, l2, l3] (S) H Q := W.aload_n d1_15 rfl rfl h
theorem s1_15n {rm : Room} {S : List Value} {H : AHeap} {Q : Option Value → AHeap → Prop} {l1 l2 l3 : Slot}  (h : W1 rm 16 [.val .null, l1, l2, l3] (.null :: S) (H) Q) : W1 rm 15 [.val .null, l1, l2, l3] (S) H Q := W.aload_n d1_15 rfl rfl h
theorem d1_16 : decode prog_27_method_1_code 16 = .ok (.lload_n 1, 1) := by decide +kernel
theorem s1_16 {rm : Room} {S : List Value} {H : AHeap} {Q : Option Value → AHeap → Prop} {l0 l2 l3 : Slot} {x : Int64} (h : W1 rm 17 [l0, .val (.long x), l2, l3] (.long x :: S) (H) Q) : W1 rm 16 [l0, .val (.long x), l2, l3] (S) H Q := W.lload_n d1_16 rfl h
theorem d1_17 : decode prog_27_method_1_code 17 = .ok (.putfield 19, 3) := by decide +kernel
theorem s1_17 {rm : Room} {S : List Value} {H : AHeap} {Q : Option Value → AHeap → Prop} {l0 l1 l2 l3 : Slot} {i : Nat} {f0 f1 f2 f3 : Value} {x : Int64} (hH : H[i]? = some (.inl (0, [f0, f1, f2, f3]))) (h : W1 rm 20 [l0, l1, l2, l3] (S) (H.set i (.inl (0, [f0, .long x, f2, f3]))) Q) : W1 rm 17 [l0, l1, l2, l3] (.long x :: .ref i :: S) H Q := W.putF (c := 0) (j := 1) kt d1_17 (host := "") (Or.inl (List.mem_of_getElem? (i := 19) rfl)) (Or.inl rfl) rfl rfl (Or.inr ⟨(List.mem_of_getElem? (i := 20) rfl), rfl, rfl⟩) rfl rfl hH h
theorem d1_20 : decode prog_27_method_1_code 20 = .ok (.aload_n 0, 1) := by decide +kernel
theorem s1_20 {rm : Room} {S : List Value} {H : AHeap} {Q : Option Value → AHeap → Prop} {l1 l2 l3 : Slot} {i : Nat} (h : W1 rm 21 [.val (.ref i), l1, l2, l3] (.ref i :: S) (H) Q) : W1 rm 20 [.val (.ref i), l1, l2, l3] (S) H Q := W.aload_n d1_20 rfl rfl h
theorem s1_20n {rm : Room} {S : List Value} {H : AHeap} {Q : Option Value → AHeap → Prop} {l1 l2 l3 : Slot}  (h : W1 rm 21 [.val .null, l1, l2, l3] (.null :: S) (H) Q) : W1 rm 20 [.val .null, l1, l2, l3] (S) H Q := W.aload_n d1_20 rfl rfl h
theorem d1_21 : decode prog_27_method_1_code 21 = .ok (.iload_n 3, 1) := by decide +kernel
theorem s1_21 {rm : Room} {S : List Value} {H : AHeap} {Q : Option Value → AHeap → Prop} {l0 l1 l2 : Slot} {x : Int32} (h : W1 rm 22 [l0, l1, l2, .val (.int x)] (.int x :: S) (H) Q) : W1 rm 21 [l0, l1, l2, .val (.int x)] (S) H Q := W.iload_n d1_21 rfl h
theorem d1_22 : decode prog_27_method_1_code 22 = .ok (.putfield 23, 3) := by decide +kernel
theorem s1_22 {rm : Room} {S : List Value} {H : AHeap} {Q : Option Value → AHeap → Prop} {l0 l1 l2 l3 : Slot} {i : Nat} {f0 f1 f2 f3 : Value} {x : Int32} (hH : H[i]? = some (.inl (0, [f0, f1, f2, f3]))) (h : W1 rm 25 [l0, l1, l2, l3] (S) (H.set i (.inl (0, [f0, f1, .int x, f3]))) Q) : W1 rm 22 [l0, l1, l2, l3] (.int x :: .ref i :: S) H Q := W.putF (c := 0) (j := 2) kt d1_22 (host := "") (Or.inl (List.mem_of_getElem? (i := 21) rfl)) (Or.inl rfl) rfl rfl (Or.inr ⟨(List.mem_of_getElem? (i := 22) rfl), rfl, rfl⟩) rfl rfl hH h
theorem d1_25 : decode prog_27_method_1_code 25 = .ok (.aload_n 0, 1) := by decide +kernel
theorem s1_25 {rm : Room} {S : List Value} {H : AHeap} {Q : Option Value → AHeap → Prop} {l1 l2 l3 : Slot} {i : Nat} (h : W1 rm 26 [.val (.ref i), l1, l2, l3] (.ref i :: S) (H) Q) : W1 rm 25 [.val (.ref i), l1, l2, l3] (S) H Q := W.aload_n d1_25 rfl rfl h
theorem s1_25n {rm : Room} {S : List Value} {H : AHeap} {Q : Option Value → AHeap → Prop} {l1 l2 l3 : Slot}  (h : W1 rm 26 [.val .null, l1, l2, l3] (.null :: S) (H) Q) : W1 rm 25 [.val .null, l1, l2, l3] (S) H Q := W.aload_n d1_25 rfl rfl h
theorem d1_26 : decode prog_27_method_1_code 26 = .ok (.lconst 1, 1) := by decide +kernel
theorem s1_26 {rm : Room} {S : List Value} {H : AHeap} {Q : Option Value → AHeap → Prop} {l0 l1 l2 l3 : Slot}  (h : W1 rm 27 [l0, l1, l2, l3] (.long 1 :: S) (H) Q) : W1 rm 26 [l0, l1, l2, l3] (S) H Q := W.lconst' d1_26 (by decide) h
theorem d1_27 : decode prog_27_method_1_code 27 = .ok (.iload_n 3, 1) := by decide +kernel
theorem s1_27 {rm : Room} {S : List Value} {H : AHeap} {Q : Option Value → AHeap → Prop} {l0 l1 l2 : Slot} {x : Int32} (h : W1 rm 28 [l0, l1, l2, .val (.int x)] (.int x :: S) (H) Q) : W1 rm 27 [l0, l1, l2, .val (.int x)] (S) H Q := W.iload_n d1_27 rfl h
theorem d1_28 : decode prog_27_method_1_code 28 = .ok (.lshl, 1) := by decide +kernel
theorem s1_28 {rm : Room} {S : List Value} {H : AHeap} {Q : Option Value → AHeap → Prop} {l0 l1 l2 l3 : Slot} {x : Int64} {y : Int32} (h : W1 rm 29 [l0, l1, l2, l3] (.long (x <<< (y.toInt64 &&& 63)) :: S) (H) Q) : W1 rm 28 [l0, l1, l2, l3] (.int y :: .long x :: S) H Q := W.lshl d1_28 h
theorem d1_29 : decode prog_27_method_1_code 29 = .ok (.lconst 1, 1) := by decide +kernel
theorem s1_29 {rm : Room} {S : List Value} {H : AHeap} {Q : Option Value → AHeap → Prop} {l0 l1 l2 l3 : Slot}  (h : W1 rm 30 [l0, l1, l2, l3] (.long 1 :: S) (H) Q) : W1 rm 29 [l0, l1, l2, l3] (S) H Q := W.lconst' d1_29 (by decide) h
theorem d1_30 : decode prog_27_method_1_code 30 = .ok (.lsub, 1) := by decide +kernel
theorem s1_30 {rm : Room} {S : List Value} {H : AHeap} {Q : Option Value → AHeap → Prop} {l0 l1 l2 l3 : Slot} {x y : Int64} (h : W1 rm 31 [l0, l1, l2, l3] (.long (x - y) :: S) (H) Q) : W1 rm 30 [l0, l1, l2, l3] (.long y :: .long x :: S) H Q := W.lsub d1_30 h
theorem d1_31 : decode prog_27_method_1_code 31 = .ok (.putfield 27, 3) := by decide +kernel
theorem s1_31 {rm : Room} {S : List Value} {H : AHeap} {Q : Option Value → AHeap → Prop} {l0 l1 l2 l3 : Slot} {i : Nat} {f0 f1 f2 f3 : Value} {x : Int64} (hH : H[i]? = some (.inl (0, [f0, f1, f2, f3]))) (h : W1 rm 34 [l0, l1, l2, l3] (S) (H.set i (.inl (0, [f0, f1, f2, .long x]))) Q) : W1 rm 31 [l0, l1, l2, l3] (.long x :: .ref i :: S) H Q := W.putF (c := 0) (j := 3) kt d1_31 (host := "") (Or.inl (List.mem_of_getElem? (i := 23) rfl)) (Or.inl rfl) rfl rfl (Or.inr ⟨(List.mem_of_getElem? (i := 24) rfl), rfl, rfl⟩) rfl rfl hH h
theorem d1_34 : decode prog_27_method_1_code 34 = .ok (.return_, 1) := by decide +kernel
theorem s1_34 {rm : Room} {H : AHeap} {Q : Option Value → AHeap → Prop} {l0 l1 l2 l3 : Slot} (hQ : Q none H) : W1 rm 34 [l0, l1, l2, l3] [] H Q := W.ret_ d1_34 rfl hQ
theorem e2 {rm : Room} {H : AHeap} {Q : Option Value → AHeap → Prop} {a0 : Int64} {a1 : Int32} (h : W2 rm 0 [.val (.long a0), .second, .val (.int a1)] [] H Q) : M2 rm [.long a0, .int a1] H Q := M.of pf2 rfl rfl h
theorem e2L {rm : Room} {H : AHeap} {Q : Option Value → AHeap → Prop} {L : List Slot} {as : List Value} (h : W2 rm 0 L [] H Q) (hl : ent as ++ List.replicate (3 - (ent as).length) .unset = L := by rfl) (hn : L.length = 3 := by rfl) : M2 rm as H Q := M.of pf2 hl hn h
theorem d2_0 : decode prog_27_method_3_code 0 = .ok (.iload_n 2, 1) := by decide +kernel
theorem s2_0 {rm : Room} {S : List Value} {H : AHeap} {Q : Option Value → AHeap → Prop} {l0 l1 : Slot} {x : Int32} (h : W2 rm 1 [l0, l1, .val (.int x)] (.int x :: S) (H) Q) : W2 rm 0 [l0, l1, .val (.int x)] (S) H Q := W.iload_n d2_0 rfl h
theorem d2_1 : decode prog_27_method_3_code 1 = .ok (.iconst 1, 1) := by decide +kernel
theorem s2_1 {rm : Room} {S : List Value} {H : AHeap} {Q : Option Value → AHeap → Prop} {l0 l1 l2 : Slot}  (h : W2 rm 2 [l0, l1, l2] (.int 1 :: S) (H) Q) : W2 rm 1 [l0, l1, l2] (S) H Q := W.iconst' d2_1 (by decide) h
theorem d2_2 : decode prog_27_method_3_code 2 = .ok (.if_icmp .lt 9, 3) := by decide +kernel
theorem s2_2 {rm : Room} {S : List Value} {H : AHeap} {Q : Option Value → AHeap → Prop} {l0 l1 l2 : Slot} {x y : Int32} (h1 : x < y → W2 rm 11 [l0, l1, l2] S H Q) (h2 : ¬ x < y → W2 rm 5 [l0, l1, l2] S H Q) : W2 rm 2 [l0, l1, l2] (.int y :: .int x :: S) H Q := W.icmp d2_2 (by decide) (by decide) h1 h2
theorem d2_5 : decode prog_27_method_3_code 5 = .ok (.iload_n 2, 1) := by decide +kernel
theorem s2_5 {rm : Room} {S : List Value} {H : AHeap} {Q : Option Value → AHeap → Prop} {l0 l1 : Slot} {x : Int32} (h : W2 rm 6 [l0, l1, .val (.int x)] (.int x :: S) (H) Q) : W2 rm 5 [l0, l1, .val (.int x)] (S) H Q := W.iload_n d2_5 rfl h
theorem d2_6 : decode prog_27_method_3_code 6 = .ok (.bipush 63, 2) := by decide +kernel
theorem s2_6 {rm : Room} {S : List Value} {H : AHeap} {Q : Option Value → AHeap → Prop} {l0 l1 l2 : Slot}  (h : W2 rm 8 [l0, l1, l2] (.int 63 :: S) (H) Q) : W2 rm 6 [l0, l1, l2] (S) H Q := W.bipush' d2_6 (by decide) h
theorem d2_8 : decode prog_27_method_3_code 8 = .ok (.if_icmp .le 17, 3) := by decide +kernel
theorem s2_8 {rm : Room} {S : List Value} {H : AHeap} {Q : Option Value → AHeap → Prop} {l0 l1 l2 : Slot} {x y : Int32} (h1 : ¬ y < x → W2 rm 25 [l0, l1, l2] S H Q) (h2 : y < x → W2 rm 11 [l0, l1, l2] S H Q) : W2 rm 8 [l0, l1, l2] (.int y :: .int x :: S) H Q := W.icmp d2_8 (by decide) (by decide) h1 h2
theorem d2_11 : decode prog_27_method_3_code 11 = .ok (.new 30, 3) := by decide +kernel
theorem d2_14 : decode prog_27_method_3_code 14 = .ok (.dup, 1) := by decide +kernel
theorem s2_14 {rm : Room} {S : List Value} {H : AHeap} {Q : Option Value → AHeap → Prop} {l0 l1 l2 : Slot} {v : Value} (hc : v.category = 1) (h : W2 rm 15 [l0, l1, l2] (v :: v :: S) (H) Q) : W2 rm 14 [l0, l1, l2] (v :: S) H Q := W.dup d2_14 hc h
theorem d2_15 : decode prog_27_method_3_code 15 = .ok (.iload_n 2, 1) := by decide +kernel
theorem s2_15 {rm : Room} {S : List Value} {H : AHeap} {Q : Option Value → AHeap → Prop} {l0 l1 : Slot} {x : Int32} (h : W2 rm 16 [l0, l1, .val (.int x)] (.int x :: S) (H) Q) : W2 rm 15 [l0, l1, .val (.int x)] (S) H Q := W.iload_n d2_15 rfl h
theorem d2_21 : decode prog_27_method_3_code 21 = .ok (.invokespecial 36, 3) := by decide +kernel
theorem d2_25 : decode prog_27_method_3_code 25 = .ok (.lload_n 0, 1) := by decide +kernel
theorem s2_25 {rm : Room} {S : List Value} {H : AHeap} {Q : Option Value → AHeap → Prop} {l1 l2 : Slot} {x : Int64} (h : W2 rm 26 [.val (.long x), l1, l2] (.long x :: S) (H) Q) : W2 rm 25 [.val (.long x), l1, l2] (S) H Q := W.lload_n d2_25 rfl h
theorem d2_26 : decode prog_27_method_3_code 26 = .ok (.lconst 1, 1) := by decide +kernel
theorem s2_26 {rm : Room} {S : List Value} {H : AHeap} {Q : Option Value → AHeap → Prop} {l0 l1 l2 : Slot}  (h : W2 rm 27 [l0, l1, l2] (.long 1 :: S) (H) Q) : W2 rm 26 [l0, l1, l2] (S) H Q := W.lconst' d2_26 (by decide) h
theorem d2_27 : decode prog_27_method_3_code 27 = .ok (.lcmp, 1) := by decide +kernel
theorem d2_28 : decode prog_27_method_3_code 28 = .ok (.ifCond .lt 14, 3) := by decide +kernel
theorem s2_28 {rm : Room} {S : List Value} {H : AHeap} {Q : Option Value → AHeap → Prop} {l0 l1 l2 : Slot} {x : Int32} (h1 : x < 0 → W2 rm 42 [l0, l1, l2] S H Q) (h2 : ¬ x < 0 → W2 rm 31 [l0, l1, l2] S H Q) : W2 rm 28 [l0, l1, l2] (.int x :: S) H Q := W.ifc d2_28 (by decide) (by decide) h1 h2
theorem s2_27c {rm : Room} {S : List Value} {H : AHeap} {Q : Option Value → AHeap → Prop} {l0 l1 l2 : Slot} {x y : Int64} (h1 : x < y → W2 rm 42 [l0, l1, l2] S H Q) (h2 : ¬ x < y → W2 rm 31 [l0, l1, l2] S H Q) : W2 rm 27 [l0, l1, l2] (.long y :: .long x :: S) H Q := W.lcif d2_27 rfl d2_28 (by decide) (by decide) h1 h2
theorem d2_31 : decode prog_27_method_3_code 31 = .ok (.lload_n 0, 1) := by decide +kernel
theorem s2_31 {rm : Room} {S : List Value} {H : AHeap} {Q : Option Value → AHeap → Prop} {l1 l2 : Slot} {x : Int64} (h : W2 rm 32 [.val (.long x), l1, l2] (.long x :: S) (H) Q) : W2 rm 31 [.val (.long x), l1, l2] (S) H Q := W.lload_n d2_31 rfl h
theorem d2_32 : decode prog_27_method_3_code 32 = .ok (.ldc2_w 42, 3) := by decide +kernel
theorem s2_32 {rm : Room} {S : List Value} {H : AHeap} {Q : Option Value → AHeap → Prop} {l0 l1 l2 : Slot}  (h : W2 rm 35 [l0, l1, l2] (.long 137438952896 :: S) (H) Q) : W2 rm 32 [l0, l1, l2] (S) H Q := W.ldcLong d2_32 (List.mem_of_getElem? (i := 14) rfl) h
theorem d2_35 : decode prog_27_method_3_code 35 = .ok (.iload_n 2, 1) := by decide +kernel
theorem s2_35 {rm : Room} {S : List Value} {H : AHeap} {Q : Option Value → AHeap → Prop} {l0 l1 : Slot} {x : Int32} (h : W2 rm 36 [l0, l1, .val (.int x)] (.int x :: S) (H) Q) : W2 rm 35 [l0, l1, .val (.int x)] (S) H Q := W.iload_n d2_35 rfl h
theorem d2_36 : decode prog_27_method_3_code 36 = .ok (.i2l, 1) := by decide +kernel
theorem s2_36 {rm : Room} {S : List Value} {H : AHeap} {Q : Option Value → AHeap → Prop} {l0 l1 l2 : Slot} {x : Int32} (h : W2 rm 37 [l0, l1, l2] (.long x.toInt64 :: S) (H) Q) : W2 rm 36 [l0, l1, l2] (.int x :: S) H Q := W.i2l d2_36 h
theorem d2_37 : decode prog_27_method_3_code 37 = .ok (.ldiv, 1) := by decide +kernel
theorem s2_37 {rm : Room} {S : List Value} {H : AHeap} {Q : Option Value → AHeap → Prop} {l0 l1 l2 : Slot} {x y : Int64} (hy : y ≠ 0) (h : W2 rm 38 [l0, l1, l2] (.long (x / y) :: S) (H) Q) : W2 rm 37 [l0, l1, l2] (.long y :: .long x :: S) H Q := W.ldiv d2_37 hy h
theorem d2_38 : decode prog_27_method_3_code 38 = .ok (.lcmp, 1) := by decide +kernel
theorem d2_39 : decode prog_27_method_3_code 39 = .ok (.ifCond .le 24, 3) := by decide +kernel
theorem s2_39 {rm : Room} {S : List Value} {H : AHeap} {Q : Option Value → AHeap → Prop} {l0 l1 l2 : Slot} {x : Int32} (h1 : ¬ 0 < x → W2 rm 63 [l0, l1, l2] S H Q) (h2 : 0 < x → W2 rm 42 [l0, l1, l2] S H Q) : W2 rm 39 [l0, l1, l2] (.int x :: S) H Q := W.ifc d2_39 (by decide) (by decide) h1 h2
theorem s2_38c {rm : Room} {S : List Value} {H : AHeap} {Q : Option Value → AHeap → Prop} {l0 l1 l2 : Slot} {x y : Int64} (h1 : ¬ y < x → W2 rm 63 [l0, l1, l2] S H Q) (h2 : y < x → W2 rm 42 [l0, l1, l2] S H Q) : W2 rm 38 [l0, l1, l2] (.long y :: .long x :: S) H Q := W.lcif d2_38 rfl d2_39 (by decide) (by decide) h1 h2
theorem d2_42 : decode prog_27_method_3_code 42 = .ok (.new 30, 3) := by decide +kernel
theorem d2_45 : decode prog_27_method_3_code 45 = .ok (.dup, 1) := by decide +kernel
theorem s2_45 {rm : Room} {S : List Value} {H : AHeap} {Q : Option Value → AHeap → Prop} {l0 l1 l2 : Slot} {v : Value} (hc : v.category = 1) (h : W2 rm 46 [l0, l1, l2] (v :: v :: S) (H) Q) : W2 rm 45 [l0, l1, l2] (v :: S) H Q := W.dup d2_45 hc h
theorem d2_46 : decode prog_27_method_3_code 46 = .ok (.ldc2_w 42, 3) := by decide +kernel
theorem s2_46 {rm : Room} {S : List Value} {H : AHeap} {Q : Option Value → AHeap → Prop} {l0 l1 l2 : Slot}  (h : W2 rm 49 [l0, l1, l2] (.long 137438952896 :: S) (H) Q) : W2 rm 46 [l0, l1, l2] (S) H Q := W.ldcLong d2_46 (List.mem_of_getElem? (i := 14) rfl) h
theorem d2_49 : decode prog_27_method_3_code 49 = .ok (.iload_n 2, 1) := by decide +kernel
theorem s2_49 {rm : Room} {S : List Value} {H : AHeap} {Q : Option Value → AHeap → Prop} {l0 l1 : Slot} {x : Int32} (h : W2 rm 50 [l0, l1, .val (.int x)] (.int x :: S) (H) Q) : W2 rm 49 [l0, l1, .val (.int x)] (S) H Q := W.iload_n d2_49 rfl h
theorem d2_50 : decode prog_27_method_3_code 50 = .ok (.i2l, 1) := by decide +kernel
theorem s2_50 {rm : Room} {S : List Value} {H : AHeap} {Q : Option Value → AHeap → Prop} {l0 l1 l2 : Slot} {x : Int32} (h : W2 rm 51 [l0, l1, l2] (.long x.toInt64 :: S) (H) Q) : W2 rm 50 [l0, l1, l2] (.int x :: S) H Q := W.i2l d2_50 h
theorem d2_51 : decode prog_27_method_3_code 51 = .ok (.ldiv, 1) := by decide +kernel
theorem s2_51 {rm : Room} {S : List Value} {H : AHeap} {Q : Option Value → AHeap → Prop} {l0 l1 l2 : Slot} {x y : Int64} (hy : y ≠ 0) (h : W2 rm 52 [l0, l1, l2] (.long (x / y) :: S) (H) Q) : W2 rm 51 [l0, l1, l2] (.long y :: .long x :: S) H Q := W.ldiv d2_51 hy h
theorem d2_52 : decode prog_27_method_3_code 52 = .ok (.iload_n 2, 1) := by decide +kernel
theorem s2_52 {rm : Room} {S : List Value} {H : AHeap} {Q : Option Value → AHeap → Prop} {l0 l1 : Slot} {x : Int32} (h : W2 rm 53 [l0, l1, .val (.int x)] (.int x :: S) (H) Q) : W2 rm 52 [l0, l1, .val (.int x)] (S) H Q := W.iload_n d2_52 rfl h
theorem d2_53 : decode prog_27_method_3_code 53 = .ok (.lload_n 0, 1) := by decide +kernel
theorem s2_53 {rm : Room} {S : List Value} {H : AHeap} {Q : Option Value → AHeap → Prop} {l1 l2 : Slot} {x : Int64} (h : W2 rm 54 [.val (.long x), l1, l2] (.long x :: S) (H) Q) : W2 rm 53 [.val (.long x), l1, l2] (S) H Q := W.lload_n d2_53 rfl h
theorem d2_59 : decode prog_27_method_3_code 59 = .ok (.invokespecial 36, 3) := by decide +kernel
theorem d2_63 : decode prog_27_method_3_code 63 = .ok (.lload_n 0, 1) := by decide +kernel
theorem s2_63 {rm : Room} {S : List Value} {H : AHeap} {Q : Option Value → AHeap → Prop} {l1 l2 : Slot} {x : Int64} (h : W2 rm 64 [.val (.long x), l1, l2] (.long x :: S) (H) Q) : W2 rm 63 [.val (.long x), l1, l2] (S) H Q := W.lload_n d2_63 rfl h
theorem d2_64 : decode prog_27_method_3_code 64 = .ok (.iload_n 2, 1) := by decide +kernel
theorem s2_64 {rm : Room} {S : List Value} {H : AHeap} {Q : Option Value → AHeap → Prop} {l0 l1 : Slot} {x : Int32} (h : W2 rm 65 [l0, l1, .val (.int x)] (.int x :: S) (H) Q) : W2 rm 64 [l0, l1, .val (.int x)] (S) H Q := W.iload_n d2_64 rfl h
theorem d2_65 : decode prog_27_method_3_code 65 = .ok (.i2l, 1) := by decide +kernel
theorem s2_65 {rm : Room} {S : List Value} {H : AHeap} {Q : Option Value → AHeap → Prop} {l0 l1 l2 : Slot} {x : Int32} (h : W2 rm 66 [l0, l1, l2] (.long x.toInt64 :: S) (H) Q) : W2 rm 65 [l0, l1, l2] (.int x :: S) H Q := W.i2l d2_65 h
theorem d2_66 : decode prog_27_method_3_code 66 = .ok (.lmul, 1) := by decide +kernel
theorem s2_66 {rm : Room} {S : List Value} {H : AHeap} {Q : Option Value → AHeap → Prop} {l0 l1 l2 : Slot} {x y : Int64} (h : W2 rm 67 [l0, l1, l2] (.long (x * y) :: S) (H) Q) : W2 rm 66 [l0, l1, l2] (.long y :: .long x :: S) H Q := W.lmul d2_66 h
theorem d2_67 : decode prog_27_method_3_code 67 = .ok (.ldc2_w 49, 3) := by decide +kernel
theorem s2_67 {rm : Room} {S : List Value} {H : AHeap} {Q : Option Value → AHeap → Prop} {l0 l1 l2 : Slot}  (h : W2 rm 70 [l0, l1, l2] (.long 64 :: S) (H) Q) : W2 rm 67 [l0, l1, l2] (S) H Q := W.ldcLong d2_67 (List.mem_of_getElem? (i := 15) rfl) h
theorem d2_70 : decode prog_27_method_3_code 70 = .ok (.ladd, 1) := by decide +kernel
theorem s2_70 {rm : Room} {S : List Value} {H : AHeap} {Q : Option Value → AHeap → Prop} {l0 l1 l2 : Slot} {x y : Int64} (h : W2 rm 71 [l0, l1, l2] (.long (x + y) :: S) (H) Q) : W2 rm 70 [l0, l1, l2] (.long y :: .long x :: S) H Q := W.ladd d2_70 h
theorem d2_71 : decode prog_27_method_3_code 71 = .ok (.lconst 1, 1) := by decide +kernel
theorem s2_71 {rm : Room} {S : List Value} {H : AHeap} {Q : Option Value → AHeap → Prop} {l0 l1 l2 : Slot}  (h : W2 rm 72 [l0, l1, l2] (.long 1 :: S) (H) Q) : W2 rm 71 [l0, l1, l2] (S) H Q := W.lconst' d2_71 (by decide) h
theorem d2_72 : decode prog_27_method_3_code 72 = .ok (.lsub, 1) := by decide +kernel
theorem s2_72 {rm : Room} {S : List Value} {H : AHeap} {Q : Option Value → AHeap → Prop} {l0 l1 l2 : Slot} {x y : Int64} (h : W2 rm 73 [l0, l1, l2] (.long (x - y) :: S) (H) Q) : W2 rm 72 [l0, l1, l2] (.long y :: .long x :: S) H Q := W.lsub d2_72 h
theorem d2_73 : decode prog_27_method_3_code 73 = .ok (.ldc2_w 49, 3) := by decide +kernel
theorem s2_73 {rm : Room} {S : List Value} {H : AHeap} {Q : Option Value → AHeap → Prop} {l0 l1 l2 : Slot}  (h : W2 rm 76 [l0, l1, l2] (.long 64 :: S) (H) Q) : W2 rm 73 [l0, l1, l2] (S) H Q := W.ldcLong d2_73 (List.mem_of_getElem? (i := 15) rfl) h
theorem d2_76 : decode prog_27_method_3_code 76 = .ok (.ldiv, 1) := by decide +kernel
theorem s2_76 {rm : Room} {S : List Value} {H : AHeap} {Q : Option Value → AHeap → Prop} {l0 l1 l2 : Slot} {x y : Int64} (hy : y ≠ 0) (h : W2 rm 77 [l0, l1, l2] (.long (x / y) :: S) (H) Q) : W2 rm 76 [l0, l1, l2] (.long y :: .long x :: S) H Q := W.ldiv d2_76 hy h
theorem d2_77 : decode prog_27_method_3_code 77 = .ok (.l2i, 1) := by decide +kernel
theorem s2_77 {rm : Room} {S : List Value} {H : AHeap} {Q : Option Value → AHeap → Prop} {l0 l1 l2 : Slot} {x : Int64} (h : W2 rm 78 [l0, l1, l2] (.int x.toInt32 :: S) (H) Q) : W2 rm 77 [l0, l1, l2] (.long x :: S) H Q := W.l2i d2_77 h
theorem d2_78 : decode prog_27_method_3_code 78 = .ok (.ireturn, 1) := by decide +kernel
theorem s2_78 {rm : Room} {S : List Value} {H : AHeap} {Q : Option Value → AHeap → Prop} {l0 l1 l2 : Slot} {x : Int32} (hQ : Q (some (.int x)) H) : W2 rm 78 [l0, l1, l2] (.int x :: S) H Q := W.ireturn d2_78 rfl hQ
theorem e3 {rm : Room} {H : AHeap} {Q : Option Value → AHeap → Prop} {a0 : Nat} {a1 : Int64} {a2 : Int64} (h : W3 rm 0 [.val (.ref a0), .val (.long a1), .second, .val (.long a2), .second, .unset, .unset, .unset, .unset] [] H Q) : M3 rm [.ref a0, .long a1, .long a2] H Q := M.of pf3 rfl rfl h
theorem e3L {rm : Room} {H : AHeap} {Q : Option Value → AHeap → Prop} {L : List Slot} {as : List Value} (h : W3 rm 0 L [] H Q) (hl : ent as ++ List.replicate (9 - (ent as).length) .unset = L := by rfl) (hn : L.length = 9 := by rfl) : M3 rm as H Q := M.of pf3 hl hn h
theorem d3_0 : decode prog_27_method_8_code 0 = .ok (.lload_n 1, 1) := by decide +kernel
theorem s3_0 {rm : Room} {S : List Value} {H : AHeap} {Q : Option Value → AHeap → Prop} {l0 l2 l3 l4 l5 l6 l7 l8 : Slot} {x : Int64} (h : W3 rm 1 [l0, .val (.long x), l2, l3, l4, l5, l6, l7, l8] (.long x :: S) (H) Q) : W3 rm 0 [l0, .val (.long x), l2, l3, l4, l5, l6, l7, l8] (S) H Q := W.lload_n d3_0 rfl h
theorem d3_1 : decode prog_27_method_8_code 1 = .ok (.aload_n 0, 1) := by decide +kernel
theorem s3_1 {rm : Room} {S : List Value} {H : AHeap} {Q : Option Value → AHeap → Prop} {l1 l2 l3 l4 l5 l6 l7 l8 : Slot} {i : Nat} (h : W3 rm 2 [.val (.ref i), l1, l2, l3, l4, l5, l6, l7, l8] (.ref i :: S) (H) Q) : W3 rm 1 [.val (.ref i), l1, l2, l3, l4, l5, l6, l7, l8] (S) H Q := W.aload_n d3_1 rfl rfl h
theorem s3_1n {rm : Room} {S : List Value} {H : AHeap} {Q : Option Value → AHeap → Prop} {l1 l2 l3 l4 l5 l6 l7 l8 : Slot}  (h : W3 rm 2 [.val .null, l1, l2, l3, l4, l5, l6, l7, l8] (.null :: S) (H) Q) : W3 rm 1 [.val .null, l1, l2, l3, l4, l5, l6, l7, l8] (S) H Q := W.aload_n d3_1 rfl rfl h
theorem d3_2 : decode prog_27_method_8_code 2 = .ok (.getfield 23, 3) := by decide +kernel
theorem s3_2 {rm : Room} {S : List Value} {H : AHeap} {Q : Option Value → AHeap → Prop} {l0 l1 l2 l3 l4 l5 l6 l7 l8 : Slot} {i : Nat} {f0 f1 f2 f3 : Value} (hH : H[i]? = some (.inl (0, [f0, f1, f2, f3]))) (h : W3 rm 5 [l0, l1, l2, l3, l4, l5, l6, l7, l8] (f2 :: S) (H) Q) : W3 rm 2 [l0, l1, l2, l3, l4, l5, l6, l7, l8] (.ref i :: S) H Q := W.getF (c := 0) (j := 2) d3_2 (host := "") (Or.inl (List.mem_of_getElem? (i := 21) rfl)) (Or.inl rfl) rfl rfl hH rfl h
theorem d3_5 : decode prog_27_method_8_code 5 = .ok (.i2l, 1) := by decide +kernel
theorem s3_5 {rm : Room} {S : List Value} {H : AHeap} {Q : Option Value → AHeap → Prop} {l0 l1 l2 l3 l4 l5 l6 l7 l8 : Slot} {x : Int32} (h : W3 rm 6 [l0, l1, l2, l3, l4, l5, l6, l7, l8] (.long x.toInt64 :: S) (H) Q) : W3 rm 5 [l0, l1, l2, l3, l4, l5, l6, l7, l8] (.int x :: S) H Q := W.i2l d3_5 h
theorem d3_6 : decode prog_27_method_8_code 6 = .ok (.lmul, 1) := by decide +kernel
theorem s3_6 {rm : Room} {S : List Value} {H : AHeap} {Q : Option Value → AHeap → Prop} {l0 l1 l2 l3 l4 l5 l6 l7 l8 : Slot} {x y : Int64} (h : W3 rm 7 [l0, l1, l2, l3, l4, l5, l6, l7, l8] (.long (x * y) :: S) (H) Q) : W3 rm 6 [l0, l1, l2, l3, l4, l5, l6, l7, l8] (.long y :: .long x :: S) H Q := W.lmul d3_6 h
theorem d3_7 : decode prog_27_method_8_code 7 = .ok (.lstore 5, 2) := by decide +kernel
theorem s3_7 {rm : Room} {S : List Value} {H : AHeap} {Q : Option Value → AHeap → Prop} {l0 l1 l2 l3 l4 l5 l6 l7 l8 : Slot} {x : Int64} (ho : two l5 l6 = true) (h : W3 rm 9 [l0, l1, l2, l3, l4, .val (.long x), .second, l7, l8] (S) (H) Q) : W3 rm 7 [l0, l1, l2, l3, l4, l5, l6, l7, l8] (.long x :: S) H Q := W.lstore d3_7 rfl rfl ho h
theorem d3_9 : decode prog_27_method_8_code 9 = .ok (.lload 5, 2) := by decide +kernel
theorem s3_9 {rm : Room} {S : List Value} {H : AHeap} {Q : Option Value → AHeap → Prop} {l0 l1 l2 l3 l4 l6 l7 l8 : Slot} {x : Int64} (h : W3 rm 11 [l0, l1, l2, l3, l4, .val (.long x), l6, l7, l8] (.long x :: S) (H) Q) : W3 rm 9 [l0, l1, l2, l3, l4, .val (.long x), l6, l7, l8] (S) H Q := W.lload d3_9 rfl h
theorem d3_11 : decode prog_27_method_8_code 11 = .ok (.bipush 6, 2) := by decide +kernel
theorem s3_11 {rm : Room} {S : List Value} {H : AHeap} {Q : Option Value → AHeap → Prop} {l0 l1 l2 l3 l4 l5 l6 l7 l8 : Slot}  (h : W3 rm 13 [l0, l1, l2, l3, l4, l5, l6, l7, l8] (.int 6 :: S) (H) Q) : W3 rm 11 [l0, l1, l2, l3, l4, l5, l6, l7, l8] (S) H Q := W.bipush' d3_11 (by decide) h
theorem d3_13 : decode prog_27_method_8_code 13 = .ok (.lushr, 1) := by decide +kernel
theorem s3_13 {rm : Room} {S : List Value} {H : AHeap} {Q : Option Value → AHeap → Prop} {l0 l1 l2 l3 l4 l5 l6 l7 l8 : Slot} {x : Int64} {y : Int32} (h : W3 rm 14 [l0, l1, l2, l3, l4, l5, l6, l7, l8] (.long (XT.ushrL x y) :: S) (H) Q) : W3 rm 13 [l0, l1, l2, l3, l4, l5, l6, l7, l8] (.int y :: .long x :: S) H Q := W.lushr d3_13 h
theorem d3_14 : decode prog_27_method_8_code 14 = .ok (.l2i, 1) := by decide +kernel
theorem s3_14 {rm : Room} {S : List Value} {H : AHeap} {Q : Option Value → AHeap → Prop} {l0 l1 l2 l3 l4 l5 l6 l7 l8 : Slot} {x : Int64} (h : W3 rm 15 [l0, l1, l2, l3, l4, l5, l6, l7, l8] (.int x.toInt32 :: S) (H) Q) : W3 rm 14 [l0, l1, l2, l3, l4, l5, l6, l7, l8] (.long x :: S) H Q := W.l2i d3_14 h
theorem d3_15 : decode prog_27_method_8_code 15 = .ok (.istore 7, 2) := by decide +kernel
theorem s3_15 {rm : Room} {S : List Value} {H : AHeap} {Q : Option Value → AHeap → Prop} {l0 l1 l2 l3 l4 l5 l6 l7 l8 : Slot} {x : Int32} (ho : one l7 = true) (h : W3 rm 17 [l0, l1, l2, l3, l4, l5, l6, .val (.int x), l8] (S) (H) Q) : W3 rm 15 [l0, l1, l2, l3, l4, l5, l6, l7, l8] (.int x :: S) H Q := W.istore d3_15 rfl ho h
theorem s3_15w {rm : Room} {S : List Value} {H : AHeap} {Q : Option Value → AHeap → Prop} {l0 l1 l2 l3 l4 l5 l6 l8 : Slot} {w : Value} {x : Int32} (ho : w.category = 2) (h : W3 rm 17 [l0, l1, l2, l3, l4, l5, l6, .val (.int x), .unset] (S) (H) Q) : W3 rm 15 [l0, l1, l2, l3, l4, l5, l6, .val w, l8] (.int x :: S) H Q := W.istoreW d3_15 rfl ho (Nat.le_of_ble_eq_true rfl) h
theorem s3_15s {rm : Room} {S : List Value} {H : AHeap} {Q : Option Value → AHeap → Prop} {l0 l1 l2 l3 l4 l5 l6 l8 : Slot} {x : Int32} (h : W3 rm 17 [l0, l1, l2, l3, l4, l5, .unset, .val (.int x), l8] (S) (H) Q) : W3 rm 15 [l0, l1, l2, l3, l4, l5, l6, .second, l8] (.int x :: S) H Q := W.istoreS d3_15 rfl (by decide) h
theorem d3_17 : decode prog_27_method_8_code 17 = .ok (.lload 5, 2) := by decide +kernel
theorem s3_17 {rm : Room} {S : List Value} {H : AHeap} {Q : Option Value → AHeap → Prop} {l0 l1 l2 l3 l4 l6 l7 l8 : Slot} {x : Int64} (h : W3 rm 19 [l0, l1, l2, l3, l4, .val (.long x), l6, l7, l8] (.long x :: S) (H) Q) : W3 rm 17 [l0, l1, l2, l3, l4, .val (.long x), l6, l7, l8] (S) H Q := W.lload d3_17 rfl h
theorem d3_19 : decode prog_27_method_8_code 19 = .ok (.l2i, 1) := by decide +kernel
theorem s3_19 {rm : Room} {S : List Value} {H : AHeap} {Q : Option Value → AHeap → Prop} {l0 l1 l2 l3 l4 l5 l6 l7 l8 : Slot} {x : Int64} (h : W3 rm 20 [l0, l1, l2, l3, l4, l5, l6, l7, l8] (.int x.toInt32 :: S) (H) Q) : W3 rm 19 [l0, l1, l2, l3, l4, l5, l6, l7, l8] (.long x :: S) H Q := W.l2i d3_19 h
theorem d3_20 : decode prog_27_method_8_code 20 = .ok (.bipush 63, 2) := by decide +kernel
theorem s3_20 {rm : Room} {S : List Value} {H : AHeap} {Q : Option Value → AHeap → Prop} {l0 l1 l2 l3 l4 l5 l6 l7 l8 : Slot}  (h : W3 rm 22 [l0, l1, l2, l3, l4, l5, l6, l7, l8] (.int 63 :: S) (H) Q) : W3 rm 20 [l0, l1, l2, l3, l4, l5, l6, l7, l8] (S) H Q := W.bipush' d3_20 (by decide) h
theorem d3_22 : decode prog_27_method_8_code 22 = .ok (.iand, 1) := by decide +kernel
theorem s3_22 {rm : Room} {S : List Value} {H : AHeap} {Q : Option Value → AHeap → Prop} {l0 l1 l2 l3 l4 l5 l6 l7 l8 : Slot} {x y : Int32} (h : W3 rm 23 [l0, l1, l2, l3, l4, l5, l6, l7, l8] (.int (x &&& y) :: S) (H) Q) : W3 rm 22 [l0, l1, l2, l3, l4, l5, l6, l7, l8] (.int y :: .int x :: S) H Q := W.iand d3_22 h
theorem d3_23 : decode prog_27_method_8_code 23 = .ok (.istore 8, 2) := by decide +kernel
theorem s3_23 {rm : Room} {S : List Value} {H : AHeap} {Q : Option Value → AHeap → Prop} {l0 l1 l2 l3 l4 l5 l6 l7 l8 : Slot} {x : Int32} (ho : one l8 = true) (h : W3 rm 25 [l0, l1, l2, l3, l4, l5, l6, l7, .val (.int x)] (S) (H) Q) : W3 rm 23 [l0, l1, l2, l3, l4, l5, l6, l7, l8] (.int x :: S) H Q := W.istore d3_23 rfl ho h
theorem s3_23s {rm : Room} {S : List Value} {H : AHeap} {Q : Option Value → AHeap → Prop} {l0 l1 l2 l3 l4 l5 l6 l7 : Slot} {x : Int32} (h : W3 rm 25 [l0, l1, l2, l3, l4, l5, l6, .unset, .val (.int x)] (S) (H) Q) : W3 rm 23 [l0, l1, l2, l3, l4, l5, l6, l7, .second] (.int x :: S) H Q := W.istoreS d3_23 rfl (by decide) h
theorem d3_25 : decode prog_27_method_8_code 25 = .ok (.aload_n 0, 1) := by decide +kernel
theorem s3_25 {rm : Room} {S : List Value} {H : AHeap} {Q : Option Value → AHeap → Prop} {l1 l2 l3 l4 l5 l6 l7 l8 : Slot} {i : Nat} (h : W3 rm 26 [.val (.ref i), l1, l2, l3, l4, l5, l6, l7, l8] (.ref i :: S) (H) Q) : W3 rm 25 [.val (.ref i), l1, l2, l3, l4, l5, l6, l7, l8] (S) H Q := W.aload_n d3_25 rfl rfl h
theorem s3_25n {rm : Room} {S : List Value} {H : AHeap} {Q : Option Value → AHeap → Prop} {l1 l2 l3 l4 l5 l6 l7 l8 : Slot}  (h : W3 rm 26 [.val .null, l1, l2, l3, l4, l5, l6, l7, l8] (.null :: S) (H) Q) : W3 rm 25 [.val .null, l1, l2, l3, l4, l5, l6, l7, l8] (S) H Q := W.aload_n d3_25 rfl rfl h
theorem d3_26 : decode prog_27_method_8_code 26 = .ok (.getfield 15, 3) := by decide +kernel
theorem s3_26 {rm : Room} {S : List Value} {H : AHeap} {Q : Option Value → AHeap → Prop} {l0 l1 l2 l3 l4 l5 l6 l7 l8 : Slot} {i : Nat} {f0 f1 f2 f3 : Value} (hH : H[i]? = some (.inl (0, [f0, f1, f2, f3]))) (h : W3 rm 29 [l0, l1, l2, l3, l4, l5, l6, l7, l8] (f0 :: S) (H) Q) : W3 rm 26 [l0, l1, l2, l3, l4, l5, l6, l7, l8] (.ref i :: S) H Q := W.getF (c := 0) (j := 0) d3_26 (host := "") (Or.inl (List.mem_of_getElem? (i := 17) rfl)) (Or.inl rfl) rfl rfl hH rfl h
theorem d3_29 : decode prog_27_method_8_code 29 = .ok (.iload 7, 2) := by decide +kernel
theorem s3_29 {rm : Room} {S : List Value} {H : AHeap} {Q : Option Value → AHeap → Prop} {l0 l1 l2 l3 l4 l5 l6 l8 : Slot} {x : Int32} (h : W3 rm 31 [l0, l1, l2, l3, l4, l5, l6, .val (.int x), l8] (.int x :: S) (H) Q) : W3 rm 29 [l0, l1, l2, l3, l4, l5, l6, .val (.int x), l8] (S) H Q := W.iload d3_29 rfl h
theorem d3_31 : decode prog_27_method_8_code 31 = .ok (.aload_n 0, 1) := by decide +kernel
theorem s3_31 {rm : Room} {S : List Value} {H : AHeap} {Q : Option Value → AHeap → Prop} {l1 l2 l3 l4 l5 l6 l7 l8 : Slot} {i : Nat} (h : W3 rm 32 [.val (.ref i), l1, l2, l3, l4, l5, l6, l7, l8] (.ref i :: S) (H) Q) : W3 rm 31 [.val (.ref i), l1, l2, l3, l4, l5, l6, l7, l8] (S) H Q := W.aload_n d3_31 rfl rfl h
theorem s3_31n {rm : Room} {S : List Value} {H : AHeap} {Q : Option Value → AHeap → Prop} {l1 l2 l3 l4 l5 l6 l7 l8 : Slot}  (h : W3 rm 32 [.val .null, l1, l2, l3, l4, l5, l6, l7, l8] (.null :: S) (H) Q) : W3 rm 31 [.val .null, l1, l2, l3, l4, l5, l6, l7, l8] (S) H Q := W.aload_n d3_31 rfl rfl h
theorem d3_32 : decode prog_27_method_8_code 32 = .ok (.getfield 15, 3) := by decide +kernel
theorem s3_32 {rm : Room} {S : List Value} {H : AHeap} {Q : Option Value → AHeap → Prop} {l0 l1 l2 l3 l4 l5 l6 l7 l8 : Slot} {i : Nat} {f0 f1 f2 f3 : Value} (hH : H[i]? = some (.inl (0, [f0, f1, f2, f3]))) (h : W3 rm 35 [l0, l1, l2, l3, l4, l5, l6, l7, l8] (f0 :: S) (H) Q) : W3 rm 32 [l0, l1, l2, l3, l4, l5, l6, l7, l8] (.ref i :: S) H Q := W.getF (c := 0) (j := 0) d3_32 (host := "") (Or.inl (List.mem_of_getElem? (i := 17) rfl)) (Or.inl rfl) rfl rfl hH rfl h
theorem d3_35 : decode prog_27_method_8_code 35 = .ok (.iload 7, 2) := by decide +kernel
theorem s3_35 {rm : Room} {S : List Value} {H : AHeap} {Q : Option Value → AHeap → Prop} {l0 l1 l2 l3 l4 l5 l6 l8 : Slot} {x : Int32} (h : W3 rm 37 [l0, l1, l2, l3, l4, l5, l6, .val (.int x), l8] (.int x :: S) (H) Q) : W3 rm 35 [l0, l1, l2, l3, l4, l5, l6, .val (.int x), l8] (S) H Q := W.iload d3_35 rfl h
theorem d3_37 : decode prog_27_method_8_code 37 = .ok (.laload, 1) := by decide +kernel
theorem s3_37 {rm : Room} {S : List Value} {H : AHeap} {Q : Option Value → AHeap → Prop} {l0 l1 l2 l3 l4 l5 l6 l7 l8 : Slot} {i : Nat} {j : Int32} {vs : List Value} {v : Value} (N : Nat) (hH : H[i]? = some (.inr (.long, vs))) (hj : ix j N) (hv : vs[N]? = some v) (h : W3 rm 38 [l0, l1, l2, l3, l4, l5, l6, l7, l8] (v :: S) (H) Q) : W3 rm 37 [l0, l1, l2, l3, l4, l5, l6, l7, l8] (.int j :: .ref i :: S) H Q := W.xaload (Or.inr (Or.inl ⟨rfl, rfl⟩)) d3_37 hH hj hv h
theorem d3_38 : decode prog_27_method_8_code 38 = .ok (.aload_n 0, 1) := by decide +kernel
theorem s3_38 {rm : Room} {S : List Value} {H : AHeap} {Q : Option Value → AHeap → Prop} {l1 l2 l3 l4 l5 l6 l7 l8 : Slot} {i : Nat} (h : W3 rm 39 [.val (.ref i), l1, l2, l3, l4, l5, l6, l7, l8] (.ref i :: S) (H) Q) : W3 rm 38 [.val (.ref i), l1, l2, l3, l4, l5, l6, l7, l8] (S) H Q := W.aload_n d3_38 rfl rfl h
theorem s3_38n {rm : Room} {S : List Value} {H : AHeap} {Q : Option Value → AHeap → Prop} {l1 l2 l3 l4 l5 l6 l7 l8 : Slot}  (h : W3 rm 39 [.val .null, l1, l2, l3, l4, l5, l6, l7, l8] (.null :: S) (H) Q) : W3 rm 38 [.val .null, l1, l2, l3, l4, l5, l6, l7, l8] (S) H Q := W.aload_n d3_38 rfl rfl h
theorem d3_39 : decode prog_27_method_8_code 39 = .ok (.getfield 27, 3) := by decide +kernel
theorem s3_39 {rm : Room} {S : List Value} {H : AHeap} {Q : Option Value → AHeap → Prop} {l0 l1 l2 l3 l4 l5 l6 l7 l8 : Slot} {i : Nat} {f0 f1 f2 f3 : Value} (hH : H[i]? = some (.inl (0, [f0, f1, f2, f3]))) (h : W3 rm 42 [l0, l1, l2, l3, l4, l5, l6, l7, l8] (f3 :: S) (H) Q) : W3 rm 39 [l0, l1, l2, l3, l4, l5, l6, l7, l8] (.ref i :: S) H Q := W.getF (c := 0) (j := 3) d3_39 (host := "") (Or.inl (List.mem_of_getElem? (i := 23) rfl)) (Or.inl rfl) rfl rfl hH rfl h
theorem d3_42 : decode prog_27_method_8_code 42 = .ok (.iload 8, 2) := by decide +kernel
theorem s3_42 {rm : Room} {S : List Value} {H : AHeap} {Q : Option Value → AHeap → Prop} {l0 l1 l2 l3 l4 l5 l6 l7 : Slot} {x : Int32} (h : W3 rm 44 [l0, l1, l2, l3, l4, l5, l6, l7, .val (.int x)] (.int x :: S) (H) Q) : W3 rm 42 [l0, l1, l2, l3, l4, l5, l6, l7, .val (.int x)] (S) H Q := W.iload d3_42 rfl h
theorem d3_44 : decode prog_27_method_8_code 44 = .ok (.lshl, 1) := by decide +kernel
theorem s3_44 {rm : Room} {S : List Value} {H : AHeap} {Q : Option Value → AHeap → Prop} {l0 l1 l2 l3 l4 l5 l6 l7 l8 : Slot} {x : Int64} {y : Int32} (h : W3 rm 45 [l0, l1, l2, l3, l4, l5, l6, l7, l8] (.long (x <<< (y.toInt64 &&& 63)) :: S) (H) Q) : W3 rm 44 [l0, l1, l2, l3, l4, l5, l6, l7, l8] (.int y :: .long x :: S) H Q := W.lshl d3_44 h
theorem d3_45 : decode prog_27_method_8_code 45 = .ok (.ldc2_w 51, 3) := by decide +kernel
theorem s3_45 {rm : Room} {S : List Value} {H : AHeap} {Q : Option Value → AHeap → Prop} {l0 l1 l2 l3 l4 l5 l6 l7 l8 : Slot}  (h : W3 rm 48 [l0, l1, l2, l3, l4, l5, l6, l7, l8] (.long (-1) :: S) (H) Q) : W3 rm 45 [l0, l1, l2, l3, l4, l5, l6, l7, l8] (S) H Q := W.ldcLong d3_45 (List.mem_of_getElem? (i := 30) rfl) h
theorem d3_48 : decode prog_27_method_8_code 48 = .ok (.lxor, 1) := by decide +kernel
theorem s3_48 {rm : Room} {S : List Value} {H : AHeap} {Q : Option Value → AHeap → Prop} {l0 l1 l2 l3 l4 l5 l6 l7 l8 : Slot} {x y : Int64} (h : W3 rm 49 [l0, l1, l2, l3, l4, l5, l6, l7, l8] (.long (x ^^^ y) :: S) (H) Q) : W3 rm 48 [l0, l1, l2, l3, l4, l5, l6, l7, l8] (.long y :: .long x :: S) H Q := W.lxor d3_48 h
theorem d3_49 : decode prog_27_method_8_code 49 = .ok (.land, 1) := by decide +kernel
theorem s3_49 {rm : Room} {S : List Value} {H : AHeap} {Q : Option Value → AHeap → Prop} {l0 l1 l2 l3 l4 l5 l6 l7 l8 : Slot} {x y : Int64} (h : W3 rm 50 [l0, l1, l2, l3, l4, l5, l6, l7, l8] (.long (x &&& y) :: S) (H) Q) : W3 rm 49 [l0, l1, l2, l3, l4, l5, l6, l7, l8] (.long y :: .long x :: S) H Q := W.land d3_49 h
theorem d3_50 : decode prog_27_method_8_code 50 = .ok (.lload_n 3, 1) := by decide +kernel
theorem s3_50 {rm : Room} {S : List Value} {H : AHeap} {Q : Option Value → AHeap → Prop} {l0 l1 l2 l4 l5 l6 l7 l8 : Slot} {x : Int64} (h : W3 rm 51 [l0, l1, l2, .val (.long x), l4, l5, l6, l7, l8] (.long x :: S) (H) Q) : W3 rm 50 [l0, l1, l2, .val (.long x), l4, l5, l6, l7, l8] (S) H Q := W.lload_n d3_50 rfl h
theorem d3_51 : decode prog_27_method_8_code 51 = .ok (.iload 8, 2) := by decide +kernel
theorem s3_51 {rm : Room} {S : List Value} {H : AHeap} {Q : Option Value → AHeap → Prop} {l0 l1 l2 l3 l4 l5 l6 l7 : Slot} {x : Int32} (h : W3 rm 53 [l0, l1, l2, l3, l4, l5, l6, l7, .val (.int x)] (.int x :: S) (H) Q) : W3 rm 51 [l0, l1, l2, l3, l4, l5, l6, l7, .val (.int x)] (S) H Q := W.iload d3_51 rfl h
theorem d3_53 : decode prog_27_method_8_code 53 = .ok (.lshl, 1) := by decide +kernel
theorem s3_53 {rm : Room} {S : List Value} {H : AHeap} {Q : Option Value → AHeap → Prop} {l0 l1 l2 l3 l4 l5 l6 l7 l8 : Slot} {x : Int64} {y : Int32} (h : W3 rm 54 [l0, l1, l2, l3, l4, l5, l6, l7, l8] (.long (x <<< (y.toInt64 &&& 63)) :: S) (H) Q) : W3 rm 53 [l0, l1, l2, l3, l4, l5, l6, l7, l8] (.int y :: .long x :: S) H Q := W.lshl d3_53 h
theorem d3_54 : decode prog_27_method_8_code 54 = .ok (.lor, 1) := by decide +kernel
theorem s3_54 {rm : Room} {S : List Value} {H : AHeap} {Q : Option Value → AHeap → Prop} {l0 l1 l2 l3 l4 l5 l6 l7 l8 : Slot} {x y : Int64} (h : W3 rm 55 [l0, l1, l2, l3, l4, l5, l6, l7, l8] (.long (x ||| y) :: S) (H) Q) : W3 rm 54 [l0, l1, l2, l3, l4, l5, l6, l7, l8] (.long y :: .long x :: S) H Q := W.lor d3_54 h
theorem d3_55 : decode prog_27_method_8_code 55 = .ok (.lastore, 1) := by decide +kernel
theorem s3_55 {rm : Room} {S : List Value} {H : AHeap} {Q : Option Value → AHeap → Prop} {l0 l1 l2 l3 l4 l5 l6 l7 l8 : Slot} {i : Nat} {j : Int32} {x : Int64} {vs : List Value} (N : Nat) (hH : H[i]? = some (.inr (.long, vs))) (hj : ix j N) (hl : Nat.blt N vs.length = true) (h : W3 rm 56 [l0, l1, l2, l3, l4, l5, l6, l7, l8] (S) (H.set i (.inr (.long, vs.set N (.long x)))) Q) : W3 rm 55 [l0, l1, l2, l3, l4, l5, l6, l7, l8] (.long x :: .int j :: .ref i :: S) H Q := W.lastore d3_55 hH hj hl h
theorem d3_56 : decode prog_27_method_8_code 56 = .ok (.iload 8, 2) := by decide +kernel
theorem s3_56 {rm : Room} {S : List Value} {H : AHeap} {Q : Option Value → AHeap → Prop} {l0 l1 l2 l3 l4 l5 l6 l7 : Slot} {x : Int32} (h : W3 rm 58 [l0, l1, l2, l3, l4, l5, l6, l7, .val (.int x)] (.int x :: S) (H) Q) : W3 rm 56 [l0, l1, l2, l3, l4, l5, l6, l7, .val (.int x)] (S) H Q := W.iload d3_56 rfl h
theorem d3_58 : decode prog_27_method_8_code 58 = .ok (.aload_n 0, 1) := by decide +kernel
theorem s3_58 {rm : Room} {S : List Value} {H : AHeap} {Q : Option Value → AHeap → Prop} {l1 l2 l3 l4 l5 l6 l7 l8 : Slot} {i : Nat} (h : W3 rm 59 [.val (.ref i), l1, l2, l3, l4, l5, l6, l7, l8] (.ref i :: S) (H) Q) : W3 rm 58 [.val (.ref i), l1, l2, l3, l4, l5, l6, l7, l8] (S) H Q := W.aload_n d3_58 rfl rfl h
theorem s3_58n {rm : Room} {S : List Value} {H : AHeap} {Q : Option Value → AHeap → Prop} {l1 l2 l3 l4 l5 l6 l7 l8 : Slot}  (h : W3 rm 59 [.val .null, l1, l2, l3, l4, l5, l6, l7, l8] (.null :: S) (H) Q) : W3 rm 58 [.val .null, l1, l2, l3, l4, l5, l6, l7, l8] (S) H Q := W.aload_n d3_58 rfl rfl h
theorem d3_59 : decode prog_27_method_8_code 59 = .ok (.getfield 23, 3) := by decide +kernel
theorem s3_59 {rm : Room} {S : List Value} {H : AHeap} {Q : Option Value → AHeap → Prop} {l0 l1 l2 l3 l4 l5 l6 l7 l8 : Slot} {i : Nat} {f0 f1 f2 f3 : Value} (hH : H[i]? = some (.inl (0, [f0, f1, f2, f3]))) (h : W3 rm 62 [l0, l1, l2, l3, l4, l5, l6, l7, l8] (f2 :: S) (H) Q) : W3 rm 59 [l0, l1, l2, l3, l4, l5, l6, l7, l8] (.ref i :: S) H Q := W.getF (c := 0) (j := 2) d3_59 (host := "") (Or.inl (List.mem_of_getElem? (i := 21) rfl)) (Or.inl rfl) rfl rfl hH rfl h
theorem d3_62 : decode prog_27_method_8_code 62 = .ok (.iadd, 1) := by decide +kernel
theorem s3_62 {rm : Room} {S : List Value} {H : AHeap} {Q : Option Value → AHeap → Prop} {l0 l1 l2 l3 l4 l5 l6 l7 l8 : Slot} {x y : Int32} (h : W3 rm 63 [l0, l1, l2, l3, l4, l5, l6, l7, l8] (.int (x + y) :: S) (H) Q) : W3 rm 62 [l0, l1, l2, l3, l4, l5, l6, l7, l8] (.int y :: .int x :: S) H Q := W.iadd d3_62 h
theorem d3_63 : decode prog_27_method_8_code 63 = .ok (.bipush 64, 2) := by decide +kernel
theorem s3_63 {rm : Room} {S : List Value} {H : AHeap} {Q : Option Value → AHeap → Prop} {l0 l1 l2 l3 l4 l5 l6 l7 l8 : Slot}  (h : W3 rm 65 [l0, l1, l2, l3, l4, l5, l6, l7, l8] (.int 64 :: S) (H) Q) : W3 rm 63 [l0, l1, l2, l3, l4, l5, l6, l7, l8] (S) H Q := W.bipush' d3_63 (by decide) h
theorem d3_65 : decode prog_27_method_8_code 65 = .ok (.if_icmp .le 40, 3) := by decide +kernel
theorem s3_65 {rm : Room} {S : List Value} {H : AHeap} {Q : Option Value → AHeap → Prop} {l0 l1 l2 l3 l4 l5 l6 l7 l8 : Slot} {x y : Int32} (h1 : ¬ y < x → W3 rm 105 [l0, l1, l2, l3, l4, l5, l6, l7, l8] S H Q) (h2 : y < x → W3 rm 68 [l0, l1, l2, l3, l4, l5, l6, l7, l8] S H Q) : W3 rm 65 [l0, l1, l2, l3, l4, l5, l6, l7, l8] (.int y :: .int x :: S) H Q := W.icmp d3_65 (by decide) (by decide) h1 h2
theorem d3_68 : decode prog_27_method_8_code 68 = .ok (.aload_n 0, 1) := by decide +kernel
theorem s3_68 {rm : Room} {S : List Value} {H : AHeap} {Q : Option Value → AHeap → Prop} {l1 l2 l3 l4 l5 l6 l7 l8 : Slot} {i : Nat} (h : W3 rm 69 [.val (.ref i), l1, l2, l3, l4, l5, l6, l7, l8] (.ref i :: S) (H) Q) : W3 rm 68 [.val (.ref i), l1, l2, l3, l4, l5, l6, l7, l8] (S) H Q := W.aload_n d3_68 rfl rfl h
theorem s3_68n {rm : Room} {S : List Value} {H : AHeap} {Q : Option Value → AHeap → Prop} {l1 l2 l3 l4 l5 l6 l7 l8 : Slot}  (h : W3 rm 69 [.val .null, l1, l2, l3, l4, l5, l6, l7, l8] (.null :: S) (H) Q) : W3 rm 68 [.val .null, l1, l2, l3, l4, l5, l6, l7, l8] (S) H Q := W.aload_n d3_68 rfl rfl h
theorem d3_69 : decode prog_27_method_8_code 69 = .ok (.getfield 15, 3) := by decide +kernel
theorem s3_69 {rm : Room} {S : List Value} {H : AHeap} {Q : Option Value → AHeap → Prop} {l0 l1 l2 l3 l4 l5 l6 l7 l8 : Slot} {i : Nat} {f0 f1 f2 f3 : Value} (hH : H[i]? = some (.inl (0, [f0, f1, f2, f3]))) (h : W3 rm 72 [l0, l1, l2, l3, l4, l5, l6, l7, l8] (f0 :: S) (H) Q) : W3 rm 69 [l0, l1, l2, l3, l4, l5, l6, l7, l8] (.ref i :: S) H Q := W.getF (c := 0) (j := 0) d3_69 (host := "") (Or.inl (List.mem_of_getElem? (i := 17) rfl)) (Or.inl rfl) rfl rfl hH rfl h
theorem d3_72 : decode prog_27_method_8_code 72 = .ok (.iload 7, 2) := by decide +kernel
theorem s3_72 {rm : Room} {S : List Value} {H : AHeap} {Q : Option Value → AHeap → Prop} {l0 l1 l2 l3 l4 l5 l6 l8 : Slot} {x : Int32} (h : W3 rm 74 [l0, l1, l2, l3, l4, l5, l6, .val (.int x), l8] (.int x :: S) (H) Q) : W3 rm 72 [l0, l1, l2, l3, l4, l5, l6, .val (.int x), l8] (S) H Q := W.iload d3_72 rfl h
theorem d3_74 : decode prog_27_method_8_code 74 = .ok (.iconst 1, 1) := by decide +kernel
theorem s3_74 {rm : Room} {S : List Value} {H : AHeap} {Q : Option Value → AHeap → Prop} {l0 l1 l2 l3 l4 l5 l6 l7 l8 : Slot}  (h : W3 rm 75 [l0, l1, l2, l3, l4, l5, l6, l7, l8] (.int 1 :: S) (H) Q) : W3 rm 74 [l0, l1, l2, l3, l4, l5, l6, l7, l8] (S) H Q := W.iconst' d3_74 (by decide) h
theorem d3_75 : decode prog_27_method_8_code 75 = .ok (.iadd, 1) := by decide +kernel
theorem s3_75 {rm : Room} {S : List Value} {H : AHeap} {Q : Option Value → AHeap → Prop} {l0 l1 l2 l3 l4 l5 l6 l7 l8 : Slot} {x y : Int32} (h : W3 rm 76 [l0, l1, l2, l3, l4, l5, l6, l7, l8] (.int (x + y) :: S) (H) Q) : W3 rm 75 [l0, l1, l2, l3, l4, l5, l6, l7, l8] (.int y :: .int x :: S) H Q := W.iadd d3_75 h
theorem d3_76 : decode prog_27_method_8_code 76 = .ok (.aload_n 0, 1) := by decide +kernel
theorem s3_76 {rm : Room} {S : List Value} {H : AHeap} {Q : Option Value → AHeap → Prop} {l1 l2 l3 l4 l5 l6 l7 l8 : Slot} {i : Nat} (h : W3 rm 77 [.val (.ref i), l1, l2, l3, l4, l5, l6, l7, l8] (.ref i :: S) (H) Q) : W3 rm 76 [.val (.ref i), l1, l2, l3, l4, l5, l6, l7, l8] (S) H Q := W.aload_n d3_76 rfl rfl h
theorem s3_76n {rm : Room} {S : List Value} {H : AHeap} {Q : Option Value → AHeap → Prop} {l1 l2 l3 l4 l5 l6 l7 l8 : Slot}  (h : W3 rm 77 [.val .null, l1, l2, l3, l4, l5, l6, l7, l8] (.null :: S) (H) Q) : W3 rm 76 [.val .null, l1, l2, l3, l4, l5, l6, l7, l8] (S) H Q := W.aload_n d3_76 rfl rfl h
theorem d3_77 : decode prog_27_method_8_code 77 = .ok (.getfield 15, 3) := by decide +kernel
theorem s3_77 {rm : Room} {S : List Value} {H : AHeap} {Q : Option Value → AHeap → Prop} {l0 l1 l2 l3 l4 l5 l6 l7 l8 : Slot} {i : Nat} {f0 f1 f2 f3 : Value} (hH : H[i]? = some (.inl (0, [f0, f1, f2, f3]))) (h : W3 rm 80 [l0, l1, l2, l3, l4, l5, l6, l7, l8] (f0 :: S) (H) Q) : W3 rm 77 [l0, l1, l2, l3, l4, l5, l6, l7, l8] (.ref i :: S) H Q := W.getF (c := 0) (j := 0) d3_77 (host := "") (Or.inl (List.mem_of_getElem? (i := 17) rfl)) (Or.inl rfl) rfl rfl hH rfl h
theorem d3_80 : decode prog_27_method_8_code 80 = .ok (.iload 7, 2) := by decide +kernel
theorem s3_80 {rm : Room} {S : List Value} {H : AHeap} {Q : Option Value → AHeap → Prop} {l0 l1 l2 l3 l4 l5 l6 l8 : Slot} {x : Int32} (h : W3 rm 82 [l0, l1, l2, l3, l4, l5, l6, .val (.int x), l8] (.int x :: S) (H) Q) : W3 rm 80 [l0, l1, l2, l3, l4, l5, l6, .val (.int x), l8] (S) H Q := W.iload d3_80 rfl h
theorem d3_82 : decode prog_27_method_8_code 82 = .ok (.iconst 1, 1) := by decide +kernel
theorem s3_82 {rm : Room} {S : List Value} {H : AHeap} {Q : Option Value → AHeap → Prop} {l0 l1 l2 l3 l4 l5 l6 l7 l8 : Slot}  (h : W3 rm 83 [l0, l1, l2, l3, l4, l5, l6, l7, l8] (.int 1 :: S) (H) Q) : W3 rm 82 [l0, l1, l2, l3, l4, l5, l6, l7, l8] (S) H Q := W.iconst' d3_82 (by decide) h
theorem d3_83 : decode prog_27_method_8_code 83 = .ok (.iadd, 1) := by decide +kernel
theorem s3_83 {rm : Room} {S : List Value} {H : AHeap} {Q : Option Value → AHeap → Prop} {l0 l1 l2 l3 l4 l5 l6 l7 l8 : Slot} {x y : Int32} (h : W3 rm 84 [l0, l1, l2, l3, l4, l5, l6, l7, l8] (.int (x + y) :: S) (H) Q) : W3 rm 83 [l0, l1, l2, l3, l4, l5, l6, l7, l8] (.int y :: .int x :: S) H Q := W.iadd d3_83 h
theorem d3_84 : decode prog_27_method_8_code 84 = .ok (.laload, 1) := by decide +kernel
theorem s3_84 {rm : Room} {S : List Value} {H : AHeap} {Q : Option Value → AHeap → Prop} {l0 l1 l2 l3 l4 l5 l6 l7 l8 : Slot} {i : Nat} {j : Int32} {vs : List Value} {v : Value} (N : Nat) (hH : H[i]? = some (.inr (.long, vs))) (hj : ix j N) (hv : vs[N]? = some v) (h : W3 rm 85 [l0, l1, l2, l3, l4, l5, l6, l7, l8] (v :: S) (H) Q) : W3 rm 84 [l0, l1, l2, l3, l4, l5, l6, l7, l8] (.int j :: .ref i :: S) H Q := W.xaload (Or.inr (Or.inl ⟨rfl, rfl⟩)) d3_84 hH hj hv h
theorem d3_85 : decode prog_27_method_8_code 85 = .ok (.aload_n 0, 1) := by decide +kernel
theorem s3_85 {rm : Room} {S : List Value} {H : AHeap} {Q : Option Value → AHeap → Prop} {l1 l2 l3 l4 l5 l6 l7 l8 : Slot} {i : Nat} (h : W3 rm 86 [.val (.ref i), l1, l2, l3, l4, l5, l6, l7, l8] (.ref i :: S) (H) Q) : W3 rm 85 [.val (.ref i), l1, l2, l3, l4, l5, l6, l7, l8] (S) H Q := W.aload_n d3_85 rfl rfl h
theorem s3_85n {rm : Room} {S : List Value} {H : AHeap} {Q : Option Value → AHeap → Prop} {l1 l2 l3 l4 l5 l6 l7 l8 : Slot}  (h : W3 rm 86 [.val .null, l1, l2, l3, l4, l5, l6, l7, l8] (.null :: S) (H) Q) : W3 rm 85 [.val .null, l1, l2, l3, l4, l5, l6, l7, l8] (S) H Q := W.aload_n d3_85 rfl rfl h
theorem d3_86 : decode prog_27_method_8_code 86 = .ok (.getfield 27, 3) := by decide +kernel
theorem s3_86 {rm : Room} {S : List Value} {H : AHeap} {Q : Option Value → AHeap → Prop} {l0 l1 l2 l3 l4 l5 l6 l7 l8 : Slot} {i : Nat} {f0 f1 f2 f3 : Value} (hH : H[i]? = some (.inl (0, [f0, f1, f2, f3]))) (h : W3 rm 89 [l0, l1, l2, l3, l4, l5, l6, l7, l8] (f3 :: S) (H) Q) : W3 rm 86 [l0, l1, l2, l3, l4, l5, l6, l7, l8] (.ref i :: S) H Q := W.getF (c := 0) (j := 3) d3_86 (host := "") (Or.inl (List.mem_of_getElem? (i := 23) rfl)) (Or.inl rfl) rfl rfl hH rfl h
theorem d3_89 : decode prog_27_method_8_code 89 = .ok (.iload 8, 2) := by decide +kernel
theorem s3_89 {rm : Room} {S : List Value} {H : AHeap} {Q : Option Value → AHeap → Prop} {l0 l1 l2 l3 l4 l5 l6 l7 : Slot} {x : Int32} (h : W3 rm 91 [l0, l1, l2, l3, l4, l5, l6, l7, .val (.int x)] (.int x :: S) (H) Q) : W3 rm 89 [l0, l1, l2, l3, l4, l5, l6, l7, .val (.int x)] (S) H Q := W.iload d3_89 rfl h
theorem d3_91 : decode prog_27_method_8_code 91 = .ok (.ineg, 1) := by decide +kernel
theorem s3_91 {rm : Room} {S : List Value} {H : AHeap} {Q : Option Value → AHeap → Prop} {l0 l1 l2 l3 l4 l5 l6 l7 l8 : Slot} {x : Int32} (h : W3 rm 92 [l0, l1, l2, l3, l4, l5, l6, l7, l8] (.int (-x) :: S) (H) Q) : W3 rm 91 [l0, l1, l2, l3, l4, l5, l6, l7, l8] (.int x :: S) H Q := W.ineg d3_91 h
theorem d3_92 : decode prog_27_method_8_code 92 = .ok (.lushr, 1) := by decide +kernel
theorem s3_92 {rm : Room} {S : List Value} {H : AHeap} {Q : Option Value → AHeap → Prop} {l0 l1 l2 l3 l4 l5 l6 l7 l8 : Slot} {x : Int64} {y : Int32} (h : W3 rm 93 [l0, l1, l2, l3, l4, l5, l6, l7, l8] (.long (XT.ushrL x y) :: S) (H) Q) : W3 rm 92 [l0, l1, l2, l3, l4, l5, l6, l7, l8] (.int y :: .long x :: S) H Q := W.lushr d3_92 h
theorem d3_93 : decode prog_27_method_8_code 93 = .ok (.ldc2_w 51, 3) := by decide +kernel
theorem s3_93 {rm : Room} {S : List Value} {H : AHeap} {Q : Option Value → AHeap → Prop} {l0 l1 l2 l3 l4 l5 l6 l7 l8 : Slot}  (h : W3 rm 96 [l0, l1, l2, l3, l4, l5, l6, l7, l8] (.long (-1) :: S) (H) Q) : W3 rm 93 [l0, l1, l2, l3, l4, l5, l6, l7, l8] (S) H Q := W.ldcLong d3_93 (List.mem_of_getElem? (i := 30) rfl) h
theorem d3_96 : decode prog_27_method_8_code 96 = .ok (.lxor, 1) := by decide +kernel
theorem s3_96 {rm : Room} {S : List Value} {H : AHeap} {Q : Option Value → AHeap → Prop} {l0 l1 l2 l3 l4 l5 l6 l7 l8 : Slot} {x y : Int64} (h : W3 rm 97 [l0, l1, l2, l3, l4, l5, l6, l7, l8] (.long (x ^^^ y) :: S) (H) Q) : W3 rm 96 [l0, l1, l2, l3, l4, l5, l6, l7, l8] (.long y :: .long x :: S) H Q := W.lxor d3_96 h
theorem d3_97 : decode prog_27_method_8_code 97 = .ok (.land, 1) := by decide +kernel
theorem s3_97 {rm : Room} {S : List Value} {H : AHeap} {Q : Option Value → AHeap → Prop} {l0 l1 l2 l3 l4 l5 l6 l7 l8 : Slot} {x y : Int64} (h : W3 rm 98 [l0, l1, l2, l3, l4, l5, l6, l7, l8] (.long (x &&& y) :: S) (H) Q) : W3 rm 97 [l0, l1, l2, l3, l4, l5, l6, l7, l8] (.long y :: .long x :: S) H Q := W.land d3_97 h
theorem d3_98 : decode prog_27_method_8_code 98 = .ok (.lload_n 3, 1) := by decide +kernel
theorem s3_98 {rm : Room} {S : List Value} {H : AHeap} {Q : Option Value → AHeap → Prop} {l0 l1 l2 l4 l5 l6 l7 l8 : Slot} {x : Int64} (h : W3 rm 99 [l0, l1, l2, .val (.long x), l4, l5, l6, l7, l8] (.long x :: S) (H) Q) : W3 rm 98 [l0, l1, l2, .val (.long x), l4, l5, l6, l7, l8] (S) H Q := W.lload_n d3_98 rfl h
theorem d3_99 : decode prog_27_method_8_code 99 = .ok (.iload 8, 2) := by decide +kernel
theorem s3_99 {rm : Room} {S : List Value} {H : AHeap} {Q : Option Value → AHeap → Prop} {l0 l1 l2 l3 l4 l5 l6 l7 : Slot} {x : Int32} (h : W3 rm 101 [l0, l1, l2, l3, l4, l5, l6, l7, .val (.int x)] (.int x :: S) (H) Q) : W3 rm 99 [l0, l1, l2, l3, l4, l5, l6, l7, .val (.int x)] (S) H Q := W.iload d3_99 rfl h
theorem d3_101 : decode prog_27_method_8_code 101 = .ok (.ineg, 1) := by decide +kernel
theorem s3_101 {rm : Room} {S : List Value} {H : AHeap} {Q : Option Value → AHeap → Prop} {l0 l1 l2 l3 l4 l5 l6 l7 l8 : Slot} {x : Int32} (h : W3 rm 102 [l0, l1, l2, l3, l4, l5, l6, l7, l8] (.int (-x) :: S) (H) Q) : W3 rm 101 [l0, l1, l2, l3, l4, l5, l6, l7, l8] (.int x :: S) H Q := W.ineg d3_101 h
theorem d3_102 : decode prog_27_method_8_code 102 = .ok (.lushr, 1) := by decide +kernel
theorem s3_102 {rm : Room} {S : List Value} {H : AHeap} {Q : Option Value → AHeap → Prop} {l0 l1 l2 l3 l4 l5 l6 l7 l8 : Slot} {x : Int64} {y : Int32} (h : W3 rm 103 [l0, l1, l2, l3, l4, l5, l6, l7, l8] (.long (XT.ushrL x y) :: S) (H) Q) : W3 rm 102 [l0, l1, l2, l3, l4, l5, l6, l7, l8] (.int y :: .long x :: S) H Q := W.lushr d3_102 h
theorem d3_103 : decode prog_27_method_8_code 103 = .ok (.lor, 1) := by decide +kernel
theorem s3_103 {rm : Room} {S : List Value} {H : AHeap} {Q : Option Value → AHeap → Prop} {l0 l1 l2 l3 l4 l5 l6 l7 l8 : Slot} {x y : Int64} (h : W3 rm 104 [l0, l1, l2, l3, l4, l5, l6, l7, l8] (.long (x ||| y) :: S) (H) Q) : W3 rm 103 [l0, l1, l2, l3, l4, l5, l6, l7, l8] (.long y :: .long x :: S) H Q := W.lor d3_103 h
theorem d3_104 : decode prog_27_method_8_code 104 = .ok (.lastore, 1) := by decide +kernel
theorem s3_104 {rm : Room} {S : List Value} {H : AHeap} {Q : Option Value → AHeap → Prop} {l0 l1 l2 l3 l4 l5 l6 l7 l8 : Slot} {i : Nat} {j : Int32} {x : Int64} {vs : List Value} (N : Nat) (hH : H[i]? = some (.inr (.long, vs))) (hj : ix j N) (hl : Nat.blt N vs.length = true) (h : W3 rm 105 [l0, l1, l2, l3, l4, l5, l6, l7, l8] (S) (H.set i (.inr (.long, vs.set N (.long x)))) Q) : W3 rm 104 [l0, l1, l2, l3, l4, l5, l6, l7, l8] (.long x :: .int j :: .ref i :: S) H Q := W.lastore d3_104 hH hj hl h
theorem d3_105 : decode prog_27_method_8_code 105 = .ok (.return_, 1) := by decide +kernel
theorem s3_105 {rm : Room} {H : AHeap} {Q : Option Value → AHeap → Prop} {l0 l1 l2 l3 l4 l5 l6 l7 l8 : Slot} (hQ : Q none H) : W3 rm 105 [l0, l1, l2, l3, l4, l5, l6, l7, l8] [] H Q := W.ret_ d3_105 rfl hQ
theorem e4 {rm : Room} {H : AHeap} {Q : Option Value → AHeap → Prop} {a0 : Nat} {a1 : Int32} (h : W4 rm 0 [.val (.ref a0), .val (.int a1)] [] H Q) : M4 rm [.ref a0, .int a1] H Q := M.of pf4 rfl rfl h
theorem e4L {rm : Room} {H : AHeap} {Q : Option Value → AHeap → Prop} {L : List Slot} {as : List Value} (h : W4 rm 0 L [] H Q) (hl : ent as ++ List.replicate (2 - (ent as).length) .unset = L := by rfl) (hn : L.length = 2 := by rfl) : M4 rm as H Q := M.of pf4 hl hn h
theorem d4_0 : decode prog_27_method_6_code 0 = .ok (.aload_n 0, 1) := by decide +kernel
theorem s4_0 {rm : Room} {S : List Value} {H : AHeap} {Q : Option Value → AHeap → Prop} {l1 : Slot} {i : Nat} (h : W4 rm 1 [.val (.ref i), l1] (.ref i :: S) (H) Q) : W4 rm 0 [.val (.ref i), l1] (S) H Q := W.aload_n d4_0 rfl rfl h
theorem s4_0n {rm : Room} {S : List Value} {H : AHeap} {Q : Option Value → AHeap → Prop} {l1 : Slot}  (h : W4 rm 1 [.val .null, l1] (.null :: S) (H) Q) : W4 rm 0 [.val .null, l1] (S) H Q := W.aload_n d4_0 rfl rfl h
theorem d4_1 : decode prog_27_method_6_code 1 = .ok (.getfield 15, 3) := by decide +kernel
theorem s4_1 {rm : Room} {S : List Value} {H : AHeap} {Q : Option Value → AHeap → Prop} {l0 l1 : Slot} {i : Nat} {f0 f1 f2 f3 : Value} (hH : H[i]? = some (.inl (0, [f0, f1, f2, f3]))) (h : W4 rm 4 [l0, l1] (f0 :: S) (H) Q) : W4 rm 1 [l0, l1] (.ref i :: S) H Q := W.getF (c := 0) (j := 0) d4_1 (host := "") (Or.inl (List.mem_of_getElem? (i := 17) rfl)) (Or.inl rfl) rfl rfl hH rfl h
theorem d4_4 : decode prog_27_method_6_code 4 = .ok (.iload_n 1, 1) := by decide +kernel
theorem s4_4 {rm : Room} {S : List Value} {H : AHeap} {Q : Option Value → AHeap → Prop} {l0 : Slot} {x : Int32} (h : W4 rm 5 [l0, .val (.int x)] (.int x :: S) (H) Q) : W4 rm 4 [l0, .val (.int x)] (S) H Q := W.iload_n d4_4 rfl h
theorem d4_5 : decode prog_27_method_6_code 5 = .ok (.laload, 1) := by decide +kernel
theorem s4_5 {rm : Room} {S : List Value} {H : AHeap} {Q : Option Value → AHeap → Prop} {l0 l1 : Slot} {i : Nat} {j : Int32} {vs : List Value} {v : Value} (N : Nat) (hH : H[i]? = some (.inr (.long, vs))) (hj : ix j N) (hv : vs[N]? = some v) (h : W4 rm 6 [l0, l1] (v :: S) (H) Q) : W4 rm 5 [l0, l1] (.int j :: .ref i :: S) H Q := W.xaload (Or.inr (Or.inl ⟨rfl, rfl⟩)) d4_5 hH hj hv h
theorem d4_6 : decode prog_27_method_6_code 6 = .ok (.lreturn, 1) := by decide +kernel
theorem s4_6 {rm : Room} {S : List Value} {H : AHeap} {Q : Option Value → AHeap → Prop} {l0 l1 : Slot} {x : Int64} (hQ : Q (some (.long x)) H) : W4 rm 6 [l0, l1] (.long x :: S) H Q := W.lreturn d4_6 rfl hQ
theorem e5 {rm : Room} {H : AHeap} {Q : Option Value → AHeap → Prop} {a0 : Int64} {a1 : Int64} {a2 : Int64} {a3 : Int64} {a4 : Int64} {a5 : Int32} (h : W5 rm 0 [.val (.long a0), .second, .val (.long a1), .second, .val (.long a2), .second, .val (.long a3), .second, .val (.long a4), .second, .val (.int a5)] [] H Q) : M5 rm [.long a0, .long a1, .long a2, .long a3, .long a4, .int a5] H Q := M.of pf5 rfl rfl h
theorem e5L {rm : Room} {H : AHeap} {Q : Option Value → AHeap → Prop} {L : List Slot} {as : List Value} (h : W5 rm 0 L [] H Q) (hl : ent as ++ List.replicate (11 - (ent as).length) .unset = L := by rfl) (hn : L.length = 11 := by rfl) : M5 rm as H Q := M.of pf5 hl hn h
theorem d5_0 : decode method_3_code 0 = .ok (.lload_n 0, 1) := by decide +kernel
theorem s5_0 {rm : Room} {S : List Value} {H : AHeap} {Q : Option Value → AHeap → Prop} {l1 l2 l3 l4 l5 l6 l7 l8 l9 l10 : Slot} {x : Int64} (h : W5 rm 1 [.val (.long x), l1, l2, l3, l4, l5, l6, l7, l8, l9, l10] (.long x :: S) (H) Q) : W5 rm 0 [.val (.long x), l1, l2, l3, l4, l5, l6, l7, l8, l9, l10] (S) H Q := W.lload_n d5_0 rfl h
theorem d5_1 : decode method_3_code 1 = .ok (.lload 6, 2) := by decide +kernel
theorem s5_1 {rm : Room} {S : List Value} {H : AHeap} {Q : Option Value → AHeap → Prop} {l0 l1 l2 l3 l4 l5 l7 l8 l9 l10 : Slot} {x : Int64} (h : W5 rm 3 [l0, l1, l2, l3, l4, l5, .val (.long x), l7, l8, l9, l10] (.long x :: S) (H) Q) : W5 rm 1 [l0, l1, l2, l3, l4, l5, .val (.long x), l7, l8, l9, l10] (S) H Q := W.lload d5_1 rfl h
theorem d5_3 : decode method_3_code 3 = .ok (.lload 8, 2) := by decide +kernel
theorem s5_3 {rm : Room} {S : List Value} {H : AHeap} {Q : Option Value → AHeap → Prop} {l0 l1 l2 l3 l4 l5 l6 l7 l9 l10 : Slot} {x : Int64} (h : W5 rm 5 [l0, l1, l2, l3, l4, l5, l6, l7, .val (.long x), l9, l10] (.long x :: S) (H) Q) : W5 rm 3 [l0, l1, l2, l3, l4, l5, l6, l7, .val (.long x), l9, l10] (S) H Q := W.lload d5_3 rfl h
theorem d5_5 : decode method_3_code 5 = .ok (.lconst 1, 1) := by decide +kernel
theorem s5_5 {rm : Room} {S : List Value} {H : AHeap} {Q : Option Value → AHeap → Prop} {l0 l1 l2 l3 l4 l5 l6 l7 l8 l9 l10 : Slot}  (h : W5 rm 6 [l0, l1, l2, l3, l4, l5, l6, l7, l8, l9, l10] (.long 1 :: S) (H) Q) : W5 rm 5 [l0, l1, l2, l3, l4, l5, l6, l7, l8, l9, l10] (S) H Q := W.lconst' d5_5 (by decide) h
theorem d5_6 : decode method_3_code 6 = .ok (.lsub, 1) := by decide +kernel
theorem s5_6 {rm : Room} {S : List Value} {H : AHeap} {Q : Option Value → AHeap → Prop} {l0 l1 l2 l3 l4 l5 l6 l7 l8 l9 l10 : Slot} {x y : Int64} (h : W5 rm 7 [l0, l1, l2, l3, l4, l5, l6, l7, l8, l9, l10] (.long (x - y) :: S) (H) Q) : W5 rm 6 [l0, l1, l2, l3, l4, l5, l6, l7, l8, l9, l10] (.long y :: .long x :: S) H Q := W.lsub d5_6 h
theorem d5_7 : decode method_3_code 7 = .ok (.lmul, 1) := by decide +kernel
theorem s5_7 {rm : Room} {S : List Value} {H : AHeap} {Q : Option Value → AHeap → Prop} {l0 l1 l2 l3 l4 l5 l6 l7 l8 l9 l10 : Slot} {x y : Int64} (h : W5 rm 8 [l0, l1, l2, l3, l4, l5, l6, l7, l8, l9, l10] (.long (x * y) :: S) (H) Q) : W5 rm 7 [l0, l1, l2, l3, l4, l5, l6, l7, l8, l9, l10] (.long y :: .long x :: S) H Q := W.lmul d5_7 h
theorem d5_8 : decode method_3_code 8 = .ok (.iload 10, 2) := by decide +kernel
theorem s5_8 {rm : Room} {S : List Value} {H : AHeap} {Q : Option Value → AHeap → Prop} {l0 l1 l2 l3 l4 l5 l6 l7 l8 l9 : Slot} {x : Int32} (h : W5 rm 10 [l0, l1, l2, l3, l4, l5, l6, l7, l8, l9, .val (.int x)] (.int x :: S) (H) Q) : W5 rm 8 [l0, l1, l2, l3, l4, l5, l6, l7, l8, l9, .val (.int x)] (S) H Q := W.iload d5_8 rfl h
theorem d5_10 : decode method_3_code 10 = .ok (.invokestatic 9, 3) := by decide +kernel
theorem s5_10 {rm : Room} {S : List Value} {H : AHeap} {Q : Option Value → AHeap → Prop} {l0 l1 l2 l3 l4 l5 l6 l7 l8 l9 l10 : Slot} {rm' : Room} {H' : AHeap} {a0 : Int64} {a1 : Int64} {a2 : Int32} {r : Int64} (hM : M6 rm' [.long a0, .long a1, .int a2] H (Is (some (.long r)) H')) (hr : rok rm rm' 9 S = true) (h : W5 (less rm rm') 13 [l0, l1, l2, l3, l4, l5, l6, l7, l8, l9, l10] (.long r :: S) H' Q) : W5 rm 10 [l0, l1, l2, l3, l4, l5, l6, l7, l8, l9, l10] (.int a2 :: .long a1 :: .long a0 :: S) H Q := W.callS (S := S) (as := [.long a0, .long a1, .int a2]) (rm' := rm') d5_10 (List.mem_of_getElem? (i := 42) rfl) (List.mem_of_getElem? (i := 43) rfl) (List.mem_of_getElem? (i := 40) rfl) (List.mem_of_getElem? (i := 44) rfl) (by decide) pd6 rfl rfl hM hr (fun _ _ q => by obtain ⟨rfl, rfl⟩ := q; exact h)
theorem s5_10q {rm : Room} {S : List Value} {H : AHeap} {Q : Option Value → AHeap → Prop} {l0 l1 l2 l3 l4 l5 l6 l7 l8 l9 l10 : Slot} {rm' : Room} {Q' : Option Value → AHeap → Prop} {a0 a1 a2 : Value} (hM : M6 rm' [a0, a1, a2] H Q') (hr : rok rm rm' 9 S = true) (h : ∀ v H', Q' v H' → W5 (less rm rm') 13 [l0, l1, l2, l3, l4, l5, l6, l7, l8, l9, l10] (v.toList ++ S) H' Q) : W5 rm 10 [l0, l1, l2, l3, l4, l5, l6, l7, l8, l9, l10] (a2 :: a1 :: a0 :: S) H Q := W.callS (S := S) (as := [a0, a1, a2]) (rm' := rm') d5_10 (List.mem_of_getElem? (i := 42) rfl) (List.mem_of_getElem? (i := 43) rfl) (List.mem_of_getElem? (i := 40) rfl) (List.mem_of_getElem? (i := 44) rfl) (by decide) pd6 rfl rfl hM hr h
theorem d5_13 : decode method_3_code 13 = .ok (.lload_n 2, 1) := by decide +kernel
theorem s5_13 {rm : Room} {S : List Value} {H : AHeap} {Q : Option Value → AHeap → Prop} {l0 l1 l3 l4 l5 l6 l7 l8 l9 l10 : Slot} {x : Int64} (h : W5 rm 14 [l0, l1, .val (.long x), l3, l4, l5, l6, l7, l8, l9, l10] (.long x :: S) (H) Q) : W5 rm 13 [l0, l1, .val (.long x), l3, l4, l5, l6, l7, l8, l9, l10] (S) H Q := W.lload_n d5_13 rfl h
theorem d5_14 : decode method_3_code 14 = .ok (.lload 6, 2) := by decide +kernel
theorem s5_14 {rm : Room} {S : List Value} {H : AHeap} {Q : Option Value → AHeap → Prop} {l0 l1 l2 l3 l4 l5 l7 l8 l9 l10 : Slot} {x : Int64} (h : W5 rm 16 [l0, l1, l2, l3, l4, l5, .val (.long x), l7, l8, l9, l10] (.long x :: S) (H) Q) : W5 rm 14 [l0, l1, l2, l3, l4, l5, .val (.long x), l7, l8, l9, l10] (S) H Q := W.lload d5_14 rfl h
theorem d5_16 : decode method_3_code 16 = .ok (.lload 8, 2) := by decide +kernel
theorem s5_16 {rm : Room} {S : List Value} {H : AHeap} {Q : Option Value → AHeap → Prop} {l0 l1 l2 l3 l4 l5 l6 l7 l9 l10 : Slot} {x : Int64} (h : W5 rm 18 [l0, l1, l2, l3, l4, l5, l6, l7, .val (.long x), l9, l10] (.long x :: S) (H) Q) : W5 rm 16 [l0, l1, l2, l3, l4, l5, l6, l7, .val (.long x), l9, l10] (S) H Q := W.lload d5_16 rfl h
theorem d5_18 : decode method_3_code 18 = .ok (.lmul, 1) := by decide +kernel
theorem s5_18 {rm : Room} {S : List Value} {H : AHeap} {Q : Option Value → AHeap → Prop} {l0 l1 l2 l3 l4 l5 l6 l7 l8 l9 l10 : Slot} {x y : Int64} (h : W5 rm 19 [l0, l1, l2, l3, l4, l5, l6, l7, l8, l9, l10] (.long (x * y) :: S) (H) Q) : W5 rm 18 [l0, l1, l2, l3, l4, l5, l6, l7, l8, l9, l10] (.long y :: .long x :: S) H Q := W.lmul d5_18 h
theorem d5_19 : decode method_3_code 19 = .ok (.iload 10, 2) := by decide +kernel
theorem s5_19 {rm : Room} {S : List Value} {H : AHeap} {Q : Option Value → AHeap → Prop} {l0 l1 l2 l3 l4 l5 l6 l7 l8 l9 : Slot} {x : Int32} (h : W5 rm 21 [l0, l1, l2, l3, l4, l5, l6, l7, l8, l9, .val (.int x)] (.int x :: S) (H) Q) : W5 rm 19 [l0, l1, l2, l3, l4, l5, l6, l7, l8, l9, .val (.int x)] (S) H Q := W.iload d5_19 rfl h
theorem d5_21 : decode method_3_code 21 = .ok (.invokestatic 9, 3) := by decide +kernel
theorem s5_21 {rm : Room} {S : List Value} {H : AHeap} {Q : Option Value → AHeap → Prop} {l0 l1 l2 l3 l4 l5 l6 l7 l8 l9 l10 : Slot} {rm' : Room} {H' : AHeap} {a0 : Int64} {a1 : Int64} {a2 : Int32} {r : Int64} (hM : M6 rm' [.long a0, .long a1, .int a2] H (Is (some (.long r)) H')) (hr : rok rm rm' 9 S = true) (h : W5 (less rm rm') 24 [l0, l1, l2, l3, l4, l5, l6, l7, l8, l9, l10] (.long r :: S) H' Q) : W5 rm 21 [l0, l1, l2, l3, l4, l5, l6, l7, l8, l9, l10] (.int a2 :: .long a1 :: .long a0 :: S) H Q := W.callS (S := S) (as := [.long a0, .long a1, .int a2]) (rm' := rm') d5_21 (List.mem_of_getElem? (i := 42) rfl) (List.mem_of_getElem? (i := 43) rfl) (List.mem_of_getElem? (i := 40) rfl) (List.mem_of_getElem? (i := 44) rfl) (by decide) pd6 rfl rfl hM hr (fun _ _ q => by obtain ⟨rfl, rfl⟩ := q; exact h)
theorem s5_21q {rm : Room} {S : List Value} {H : AHeap} {Q : Option Value → AHeap → Prop} {l0 l1 l2 l3 l4 l5 l6 l7 l8 l9 l10 : Slot} {rm' : Room} {Q' : Option Value → AHeap → Prop} {a0 a1 a2 : Value} (hM : M6 rm' [a0, a1, a2] H Q') (hr : rok rm rm' 9 S = true) (h : ∀ v H', Q' v H' → W5 (less rm rm') 24 [l0, l1, l2, l3, l4, l5, l6, l7, l8, l9, l10] (v.toList ++ S) H' Q) : W5 rm 21 [l0, l1, l2, l3, l4, l5, l6, l7, l8, l9, l10] (a2 :: a1 :: a0 :: S) H Q := W.callS (S := S) (as := [a0, a1, a2]) (rm' := rm') d5_21 (List.mem_of_getElem? (i := 42) rfl) (List.mem_of_getElem? (i := 43) rfl) (List.mem_of_getElem? (i := 40) rfl) (List.mem_of_getElem? (i := 44) rfl) (by decide) pd6 rfl rfl hM hr h
theorem d5_24 : decode method_3_code 24 = .ok (.lor, 1) := by decide +kernel
theorem s5_24 {rm : Room} {S : List Value} {H : AHeap} {Q : Option Value → AHeap → Prop} {l0 l1 l2 l3 l4 l5 l6 l7 l8 l9 l10 : Slot} {x y : Int64} (h : W5 rm 25 [l0, l1, l2, l3, l4, l5, l6, l7, l8, l9, l10] (.long (x ||| y) :: S) (H) Q) : W5 rm 24 [l0, l1, l2, l3, l4, l5, l6, l7, l8, l9, l10] (.long y :: .long x :: S) H Q := W.lor d5_24 h
theorem d5_25 : decode method_3_code 25 = .ok (.lload 4, 2) := by decide +kernel
theorem s5_25 {rm : Room} {S : List Value} {H : AHeap} {Q : Option Value → AHeap → Prop} {l0 l1 l2 l3 l5 l6 l7 l8 l9 l10 : Slot} {x : Int64} (h : W5 rm 27 [l0, l1, l2, l3, .val (.long x), l5, l6, l7, l8, l9, l10] (.long x :: S) (H) Q) : W5 rm 25 [l0, l1, l2, l3, .val (.long x), l5, l6, l7, l8, l9, l10] (S) H Q := W.lload d5_25 rfl h
theorem d5_27 : decode method_3_code 27 = .ok (.lload 6, 2) := by decide +kernel
theorem s5_27 {rm : Room} {S : List Value} {H : AHeap} {Q : Option Value → AHeap → Prop} {l0 l1 l2 l3 l4 l5 l7 l8 l9 l10 : Slot} {x : Int64} (h : W5 rm 29 [l0, l1, l2, l3, l4, l5, .val (.long x), l7, l8, l9, l10] (.long x :: S) (H) Q) : W5 rm 27 [l0, l1, l2, l3, l4, l5, .val (.long x), l7, l8, l9, l10] (S) H Q := W.lload d5_27 rfl h
theorem d5_29 : decode method_3_code 29 = .ok (.lload 8, 2) := by decide +kernel
theorem s5_29 {rm : Room} {S : List Value} {H : AHeap} {Q : Option Value → AHeap → Prop} {l0 l1 l2 l3 l4 l5 l6 l7 l9 l10 : Slot} {x : Int64} (h : W5 rm 31 [l0, l1, l2, l3, l4, l5, l6, l7, .val (.long x), l9, l10] (.long x :: S) (H) Q) : W5 rm 29 [l0, l1, l2, l3, l4, l5, l6, l7, .val (.long x), l9, l10] (S) H Q := W.lload d5_29 rfl h
theorem d5_31 : decode method_3_code 31 = .ok (.lconst 1, 1) := by decide +kernel
theorem s5_31 {rm : Room} {S : List Value} {H : AHeap} {Q : Option Value → AHeap → Prop} {l0 l1 l2 l3 l4 l5 l6 l7 l8 l9 l10 : Slot}  (h : W5 rm 32 [l0, l1, l2, l3, l4, l5, l6, l7, l8, l9, l10] (.long 1 :: S) (H) Q) : W5 rm 31 [l0, l1, l2, l3, l4, l5, l6, l7, l8, l9, l10] (S) H Q := W.lconst' d5_31 (by decide) h
theorem d5_32 : decode method_3_code 32 = .ok (.ladd, 1) := by decide +kernel
theorem s5_32 {rm : Room} {S : List Value} {H : AHeap} {Q : Option Value → AHeap → Prop} {l0 l1 l2 l3 l4 l5 l6 l7 l8 l9 l10 : Slot} {x y : Int64} (h : W5 rm 33 [l0, l1, l2, l3, l4, l5, l6, l7, l8, l9, l10] (.long (x + y) :: S) (H) Q) : W5 rm 32 [l0, l1, l2, l3, l4, l5, l6, l7, l8, l9, l10] (.long y :: .long x :: S) H Q := W.ladd d5_32 h
theorem d5_33 : decode method_3_code 33 = .ok (.lmul, 1) := by decide +kernel
theorem s5_33 {rm : Room} {S : List Value} {H : AHeap} {Q : Option Value → AHeap → Prop} {l0 l1 l2 l3 l4 l5 l6 l7 l8 l9 l10 : Slot} {x y : Int64} (h : W5 rm 34 [l0, l1, l2, l3, l4, l5, l6, l7, l8, l9, l10] (.long (x * y) :: S) (H) Q) : W5 rm 33 [l0, l1, l2, l3, l4, l5, l6, l7, l8, l9, l10] (.long y :: .long x :: S) H Q := W.lmul d5_33 h
theorem d5_34 : decode method_3_code 34 = .ok (.iload 10, 2) := by decide +kernel
theorem s5_34 {rm : Room} {S : List Value} {H : AHeap} {Q : Option Value → AHeap → Prop} {l0 l1 l2 l3 l4 l5 l6 l7 l8 l9 : Slot} {x : Int32} (h : W5 rm 36 [l0, l1, l2, l3, l4, l5, l6, l7, l8, l9, .val (.int x)] (.int x :: S) (H) Q) : W5 rm 34 [l0, l1, l2, l3, l4, l5, l6, l7, l8, l9, .val (.int x)] (S) H Q := W.iload d5_34 rfl h
theorem d5_36 : decode method_3_code 36 = .ok (.invokestatic 9, 3) := by decide +kernel
theorem s5_36 {rm : Room} {S : List Value} {H : AHeap} {Q : Option Value → AHeap → Prop} {l0 l1 l2 l3 l4 l5 l6 l7 l8 l9 l10 : Slot} {rm' : Room} {H' : AHeap} {a0 : Int64} {a1 : Int64} {a2 : Int32} {r : Int64} (hM : M6 rm' [.long a0, .long a1, .int a2] H (Is (some (.long r)) H')) (hr : rok rm rm' 9 S = true) (h : W5 (less rm rm') 39 [l0, l1, l2, l3, l4, l5, l6, l7, l8, l9, l10] (.long r :: S) H' Q) : W5 rm 36 [l0, l1, l2, l3, l4, l5, l6, l7, l8, l9, l10] (.int a2 :: .long a1 :: .long a0 :: S) H Q := W.callS (S := S) (as := [.long a0, .long a1, .int a2]) (rm' := rm') d5_36 (List.mem_of_getElem? (i := 42) rfl) (List.mem_of_getElem? (i := 43) rfl) (List.mem_of_getElem? (i := 40) rfl) (List.mem_of_getElem? (i := 44) rfl) (by decide) pd6 rfl rfl hM hr (fun _ _ q => by obtain ⟨rfl, rfl⟩ := q; exact h)
theorem s5_36q {rm : Room} {S : List Value} {H : AHeap} {Q : Option Value → AHeap → Prop} {l0 l1 l2 l3 l4 l5 l6 l7 l8 l9 l10 : Slot} {rm' : Room} {Q' : Option Value → AHeap → Prop} {a0 a1 a2 : Value} (hM : M6 rm' [a0, a1, a2] H Q') (hr : rok rm rm' 9 S = true) (h : ∀ v H', Q' v H' → W5 (less rm rm') 39 [l0, l1, l2, l3, l4, l5, l6, l7, l8, l9, l10] (v.toList ++ S) H' Q) : W5 rm 36 [l0, l1, l2, l3, l4, l5, l6, l7, l8, l9, l10] (a2 :: a1 :: a0 :: S) H Q := W.callS (S := S) (as := [a0, a1, a2]) (rm' := rm') d5_36 (List.mem_of_getElem? (i := 42) rfl) (List.mem_of_getElem? (i := 43) rfl) (List.mem_of_getElem? (i := 40) rfl) (List.mem_of_getElem? (i := 44) rfl) (by decide) pd6 rfl rfl hM hr h
theorem d5_39 : decode method_3_code 39 = .ok (.lor, 1) := by decide +kernel
theorem s5_39 {rm : Room} {S : List Value} {H : AHeap} {Q : Option Value → AHeap → Prop} {l0 l1 l2 l3 l4 l5 l6 l7 l8 l9 l10 : Slot} {x y : Int64} (h : W5 rm 40 [l0, l1, l2, l3, l4, l5, l6, l7, l8, l9, l10] (.long (x ||| y) :: S) (H) Q) : W5 rm 39 [l0, l1, l2, l3, l4, l5, l6, l7, l8, l9, l10] (.long y :: .long x :: S) H Q := W.lor d5_39 h
theorem d5_40 : decode method_3_code 40 = .ok (.lreturn, 1) := by decide +kernel
theorem s5_40 {rm : Room} {S : List Value} {H : AHeap} {Q : Option Value → AHeap → Prop} {l0 l1 l2 l3 l4 l5 l6 l7 l8 l9 l10 : Slot} {x : Int64} (hQ : Q (some (.long x)) H) : W5 rm 40 [l0, l1, l2, l3, l4, l5, l6, l7, l8, l9, l10] (.long x :: S) H Q := W.lreturn d5_40 rfl hQ
theorem e6 {rm : Room} {H : AHeap} {Q : Option Value → AHeap → Prop} {a0 : Int64} {a1 : Int64} {a2 : Int32} (h : W6 rm 0 [.val (.long a0), .second, .val (.long a1), .second, .val (.int a2), .unset, .unset, .unset, .unset] [] H Q) : M6 rm [.long a0, .long a1, .int a2] H Q := M.of pf6 rfl rfl h
theorem e6L {rm : Room} {H : AHeap} {Q : Option Value → AHeap → Prop} {L : List Slot} {as : List Value} (h : W6 rm 0 L [] H Q) (hl : ent as ++ List.replicate (9 - (ent as).length) .unset = L := by rfl) (hn : L.length = 9 := by rfl) : M6 rm as H Q := M.of pf6 hl hn h
theorem d6_0 : decode method_2_code 0 = .ok (.ldc2_w 7, 3) := by decide +kernel
theorem s6_0 {rm : Room} {S : List Value} {H : AHeap} {Q : Option Value → AHeap → Prop} {l0 l1 l2 l3 l4 l5 l6 l7 l8 : Slot}  (h : W6 rm 3 [l0, l1, l2, l3, l4, l5, l6, l7, l8] (.long 64 :: S) (H) Q) : W6 rm 0 [l0, l1, l2, l3, l4, l5, l6, l7, l8] (S) H Q := W.ldcLong d6_0 (List.mem_of_getElem? (i := 32) rfl) h
theorem d6_3 : decode method_2_code 3 = .ok (.iload 4, 2) := by decide +kernel
theorem s6_3 {rm : Room} {S : List Value} {H : AHeap} {Q : Option Value → AHeap → Prop} {l0 l1 l2 l3 l5 l6 l7 l8 : Slot} {x : Int32} (h : W6 rm 5 [l0, l1, l2, l3, .val (.int x), l5, l6, l7, l8] (.int x :: S) (H) Q) : W6 rm 3 [l0, l1, l2, l3, .val (.int x), l5, l6, l7, l8] (S) H Q := W.iload d6_3 rfl h
theorem d6_5 : decode method_2_code 5 = .ok (.i2l, 1) := by decide +kernel
theorem s6_5 {rm : Room} {S : List Value} {H : AHeap} {Q : Option Value → AHeap → Prop} {l0 l1 l2 l3 l4 l5 l6 l7 l8 : Slot} {x : Int32} (h : W6 rm 6 [l0, l1, l2, l3, l4, l5, l6, l7, l8] (.long x.toInt64 :: S) (H) Q) : W6 rm 5 [l0, l1, l2, l3, l4, l5, l6, l7, l8] (.int x :: S) H Q := W.i2l d6_5 h
theorem d6_6 : decode method_2_code 6 = .ok (.lmul, 1) := by decide +kernel
theorem s6_6 {rm : Room} {S : List Value} {H : AHeap} {Q : Option Value → AHeap → Prop} {l0 l1 l2 l3 l4 l5 l6 l7 l8 : Slot} {x y : Int64} (h : W6 rm 7 [l0, l1, l2, l3, l4, l5, l6, l7, l8] (.long (x * y) :: S) (H) Q) : W6 rm 6 [l0, l1, l2, l3, l4, l5, l6, l7, l8] (.long y :: .long x :: S) H Q := W.lmul d6_6 h
theorem d6_7 : decode method_2_code 7 = .ok (.lstore 5, 2) := by decide +kernel
theorem s6_7 {rm : Room} {S : List Value} {H : AHeap} {Q : Option Value → AHeap → Prop} {l0 l1 l2 l3 l4 l5 l6 l7 l8 : Slot} {x : Int64} (ho : two l5 l6 = true) (h : W6 rm 9 [l0, l1, l2, l3, l4, .val (.long x), .second, l7, l8] (S) (H) Q) : W6 rm 7 [l0, l1, l2, l3, l4, l5, l6, l7, l8] (.long x :: S) H Q := W.lstore d6_7 rfl rfl ho h
theorem d6_9 : decode method_2_code 9 = .ok (.lload_n 2, 1) := by decide +kernel
theorem s6_9 {rm : Room} {S : List Value} {H : AHeap} {Q : Option Value → AHeap → Prop} {l0 l1 l3 l4 l5 l6 l7 l8 : Slot} {x : Int64} (h : W6 rm 10 [l0, l1, .val (.long x), l3, l4, l5, l6, l7, l8] (.long x :: S) (H) Q) : W6 rm 9 [l0, l1, .val (.long x), l3, l4, l5, l6, l7, l8] (S) H Q := W.lload_n d6_9 rfl h
theorem d6_10 : decode method_2_code 10 = .ok (.lload 5, 2) := by decide +kernel
theorem s6_10 {rm : Room} {S : List Value} {H : AHeap} {Q : Option Value → AHeap → Prop} {l0 l1 l2 l3 l4 l6 l7 l8 : Slot} {x : Int64} (h : W6 rm 12 [l0, l1, l2, l3, l4, .val (.long x), l6, l7, l8] (.long x :: S) (H) Q) : W6 rm 10 [l0, l1, l2, l3, l4, .val (.long x), l6, l7, l8] (S) H Q := W.lload d6_10 rfl h
theorem d6_12 : decode method_2_code 12 = .ok (.lcmp, 1) := by decide +kernel
theorem d6_13 : decode method_2_code 13 = .ok (.ifCond .lt 26, 3) := by decide +kernel
theorem s6_13 {rm : Room} {S : List Value} {H : AHeap} {Q : Option Value → AHeap → Prop} {l0 l1 l2 l3 l4 l5 l6 l7 l8 : Slot} {x : Int32} (h1 : x < 0 → W6 rm 39 [l0, l1, l2, l3, l4, l5, l6, l7, l8] S H Q) (h2 : ¬ x < 0 → W6 rm 16 [l0, l1, l2, l3, l4, l5, l6, l7, l8] S H Q) : W6 rm 13 [l0, l1, l2, l3, l4, l5, l6, l7, l8] (.int x :: S) H Q := W.ifc d6_13 (by decide) (by decide) h1 h2
theorem s6_12c {rm : Room} {S : List Value} {H : AHeap} {Q : Option Value → AHeap → Prop} {l0 l1 l2 l3 l4 l5 l6 l7 l8 : Slot} {x y : Int64} (h1 : x < y → W6 rm 39 [l0, l1, l2, l3, l4, l5, l6, l7, l8] S H Q) (h2 : ¬ x < y → W6 rm 16 [l0, l1, l2, l3, l4, l5, l6, l7, l8] S H Q) : W6 rm 12 [l0, l1, l2, l3, l4, l5, l6, l7, l8] (.long y :: .long x :: S) H Q := W.lcif d6_12 rfl d6_13 (by decide) (by decide) h1 h2
theorem d6_16 : decode method_2_code 16 = .ok (.lload_n 2, 1) := by decide +kernel
theorem s6_16 {rm : Room} {S : List Value} {H : AHeap} {Q : Option Value → AHeap → Prop} {l0 l1 l3 l4 l5 l6 l7 l8 : Slot} {x : Int64} (h : W6 rm 17 [l0, l1, .val (.long x), l3, l4, l5, l6, l7, l8] (.long x :: S) (H) Q) : W6 rm 16 [l0, l1, .val (.long x), l3, l4, l5, l6, l7, l8] (S) H Q := W.lload_n d6_16 rfl h
theorem d6_17 : decode method_2_code 17 = .ok (.lload 5, 2) := by decide +kernel
theorem s6_17 {rm : Room} {S : List Value} {H : AHeap} {Q : Option Value → AHeap → Prop} {l0 l1 l2 l3 l4 l6 l7 l8 : Slot} {x : Int64} (h : W6 rm 19 [l0, l1, l2, l3, l4, .val (.long x), l6, l7, l8] (.long x :: S) (H) Q) : W6 rm 17 [l0, l1, l2, l3, l4, .val (.long x), l6, l7, l8] (S) H Q := W.lload d6_17 rfl h
theorem d6_19 : decode method_2_code 19 = .ok (.lsub, 1) := by decide +kernel
theorem s6_19 {rm : Room} {S : List Value} {H : AHeap} {Q : Option Value → AHeap → Prop} {l0 l1 l2 l3 l4 l5 l6 l7 l8 : Slot} {x y : Int64} (h : W6 rm 20 [l0, l1, l2, l3, l4, l5, l6, l7, l8] (.long (x - y) :: S) (H) Q) : W6 rm 19 [l0, l1, l2, l3, l4, l5, l6, l7, l8] (.long y :: .long x :: S) H Q := W.lsub d6_19 h
theorem d6_20 : decode method_2_code 20 = .ok (.lstore 7, 2) := by decide +kernel
theorem s6_20 {rm : Room} {S : List Value} {H : AHeap} {Q : Option Value → AHeap → Prop} {l0 l1 l2 l3 l4 l5 l6 l7 l8 : Slot} {x : Int64} (ho : two l7 l8 = true) (h : W6 rm 22 [l0, l1, l2, l3, l4, l5, l6, .val (.long x), .second] (S) (H) Q) : W6 rm 20 [l0, l1, l2, l3, l4, l5, l6, l7, l8] (.long x :: S) H Q := W.lstore d6_20 rfl rfl ho h
theorem d6_22 : decode method_2_code 22 = .ok (.lload 7, 2) := by decide +kernel
theorem s6_22 {rm : Room} {S : List Value} {H : AHeap} {Q : Option Value → AHeap → Prop} {l0 l1 l2 l3 l4 l5 l6 l8 : Slot} {x : Int64} (h : W6 rm 24 [l0, l1, l2, l3, l4, l5, l6, .val (.long x), l8] (.long x :: S) (H) Q) : W6 rm 22 [l0, l1, l2, l3, l4, l5, l6, .val (.long x), l8] (S) H Q := W.lload d6_22 rfl h
theorem d6_24 : decode method_2_code 24 = .ok (.ldc2_w 7, 3) := by decide +kernel
theorem s6_24 {rm : Room} {S : List Value} {H : AHeap} {Q : Option Value → AHeap → Prop} {l0 l1 l2 l3 l4 l5 l6 l7 l8 : Slot}  (h : W6 rm 27 [l0, l1, l2, l3, l4, l5, l6, l7, l8] (.long 64 :: S) (H) Q) : W6 rm 24 [l0, l1, l2, l3, l4, l5, l6, l7, l8] (S) H Q := W.ldcLong d6_24 (List.mem_of_getElem? (i := 32) rfl) h
theorem d6_27 : decode method_2_code 27 = .ok (.lcmp, 1) := by decide +kernel
theorem d6_28 : decode method_2_code 28 = .ok (.ifCond .lt 5, 3) := by decide +kernel
theorem s6_28 {rm : Room} {S : List Value} {H : AHeap} {Q : Option Value → AHeap → Prop} {l0 l1 l2 l3 l4 l5 l6 l7 l8 : Slot} {x : Int32} (h1 : x < 0 → W6 rm 33 [l0, l1, l2, l3, l4, l5, l6, l7, l8] S H Q) (h2 : ¬ x < 0 → W6 rm 31 [l0, l1, l2, l3, l4, l5, l6, l7, l8] S H Q) : W6 rm 28 [l0, l1, l2, l3, l4, l5, l6, l7, l8] (.int x :: S) H Q := W.ifc d6_28 (by decide) (by decide) h1 h2
theorem s6_27c {rm : Room} {S : List Value} {H : AHeap} {Q : Option Value → AHeap → Prop} {l0 l1 l2 l3 l4 l5 l6 l7 l8 : Slot} {x y : Int64} (h1 : x < y → W6 rm 33 [l0, l1, l2, l3, l4, l5, l6, l7, l8] S H Q) (h2 : ¬ x < y → W6 rm 31 [l0, l1, l2, l3, l4, l5, l6, l7, l8] S H Q) : W6 rm 27 [l0, l1, l2, l3, l4, l5, l6, l7, l8] (.long y :: .long x :: S) H Q := W.lcif d6_27 rfl d6_28 (by decide) (by decide) h1 h2
theorem d6_31 : decode method_2_code 31 = .ok (.lconst 0, 1) := by decide +kernel
theorem s6_31 {rm : Room} {S : List Value} {H : AHeap} {Q : Option Value → AHeap → Prop} {l0 l1 l2 l3 l4 l5 l6 l7 l8 : Slot}  (h : W6 rm 32 [l0, l1, l2, l3, l4, l5, l6, l7, l8] (.long 0 :: S) (H) Q) : W6 rm 31 [l0, l1, l2, l3, l4, l5, l6, l7, l8] (S) H Q := W.lconst' d6_31 (by decide) h
theorem d6_32 : decode method_2_code 32 = .ok (.lreturn, 1) := by decide +kernel
theorem s6_32 {rm : Room} {S : List Value} {H : AHeap} {Q : Option Value → AHeap → Prop} {l0 l1 l2 l3 l4 l5 l6 l7 l8 : Slot} {x : Int64} (hQ : Q (some (.long x)) H) : W6 rm 32 [l0, l1, l2, l3, l4, l5, l6, l7, l8] (.long x :: S) H Q := W.lreturn d6_32 rfl hQ
theorem d6_33 : decode method_2_code 33 = .ok (.lload_n 0, 1) := by decide +kernel
theorem s6_33 {rm : Room} {S : List Value} {H : AHeap} {Q : Option Value → AHeap → Prop} {l1 l2 l3 l4 l5 l6 l7 l8 : Slot} {x : Int64} (h : W6 rm 34 [.val (.long x), l1, l2, l3, l4, l5, l6, l7, l8] (.long x :: S) (H) Q) : W6 rm 33 [.val (.long x), l1, l2, l3, l4, l5, l6, l7, l8] (S) H Q := W.lload_n d6_33 rfl h
theorem d6_34 : decode method_2_code 34 = .ok (.lload 7, 2) := by decide +kernel
theorem s6_34 {rm : Room} {S : List Value} {H : AHeap} {Q : Option Value → AHeap → Prop} {l0 l1 l2 l3 l4 l5 l6 l8 : Slot} {x : Int64} (h : W6 rm 36 [l0, l1, l2, l3, l4, l5, l6, .val (.long x), l8] (.long x :: S) (H) Q) : W6 rm 34 [l0, l1, l2, l3, l4, l5, l6, .val (.long x), l8] (S) H Q := W.lload d6_34 rfl h
theorem d6_36 : decode method_2_code 36 = .ok (.l2i, 1) := by decide +kernel
theorem s6_36 {rm : Room} {S : List Value} {H : AHeap} {Q : Option Value → AHeap → Prop} {l0 l1 l2 l3 l4 l5 l6 l7 l8 : Slot} {x : Int64} (h : W6 rm 37 [l0, l1, l2, l3, l4, l5, l6, l7, l8] (.int x.toInt32 :: S) (H) Q) : W6 rm 36 [l0, l1, l2, l3, l4, l5, l6, l7, l8] (.long x :: S) H Q := W.l2i d6_36 h
theorem d6_37 : decode method_2_code 37 = .ok (.lshl, 1) := by decide +kernel
theorem s6_37 {rm : Room} {S : List Value} {H : AHeap} {Q : Option Value → AHeap → Prop} {l0 l1 l2 l3 l4 l5 l6 l7 l8 : Slot} {x : Int64} {y : Int32} (h : W6 rm 38 [l0, l1, l2, l3, l4, l5, l6, l7, l8] (.long (x <<< (y.toInt64 &&& 63)) :: S) (H) Q) : W6 rm 37 [l0, l1, l2, l3, l4, l5, l6, l7, l8] (.int y :: .long x :: S) H Q := W.lshl d6_37 h
theorem d6_38 : decode method_2_code 38 = .ok (.lreturn, 1) := by decide +kernel
theorem s6_38 {rm : Room} {S : List Value} {H : AHeap} {Q : Option Value → AHeap → Prop} {l0 l1 l2 l3 l4 l5 l6 l7 l8 : Slot} {x : Int64} (hQ : Q (some (.long x)) H) : W6 rm 38 [l0, l1, l2, l3, l4, l5, l6, l7, l8] (.long x :: S) H Q := W.lreturn d6_38 rfl hQ
theorem d6_39 : decode method_2_code 39 = .ok (.lload 5, 2) := by decide +kernel
theorem s6_39 {rm : Room} {S : List Value} {H : AHeap} {Q : Option Value → AHeap → Prop} {l0 l1 l2 l3 l4 l6 l7 l8 : Slot} {x : Int64} (h : W6 rm 41 [l0, l1, l2, l3, l4, .val (.long x), l6, l7, l8] (.long x :: S) (H) Q) : W6 rm 39 [l0, l1, l2, l3, l4, .val (.long x), l6, l7, l8] (S) H Q := W.lload d6_39 rfl h
theorem d6_41 : decode method_2_code 41 = .ok (.lload_n 2, 1) := by decide +kernel
theorem s6_41 {rm : Room} {S : List Value} {H : AHeap} {Q : Option Value → AHeap → Prop} {l0 l1 l3 l4 l5 l6 l7 l8 : Slot} {x : Int64} (h : W6 rm 42 [l0, l1, .val (.long x), l3, l4, l5, l6, l7, l8] (.long x :: S) (H) Q) : W6 rm 41 [l0, l1, .val (.long x), l3, l4, l5, l6, l7, l8] (S) H Q := W.lload_n d6_41 rfl h
theorem d6_42 : decode method_2_code 42 = .ok (.lsub, 1) := by decide +kernel
theorem s6_42 {rm : Room} {S : List Value} {H : AHeap} {Q : Option Value → AHeap → Prop} {l0 l1 l2 l3 l4 l5 l6 l7 l8 : Slot} {x y : Int64} (h : W6 rm 43 [l0, l1, l2, l3, l4, l5, l6, l7, l8] (.long (x - y) :: S) (H) Q) : W6 rm 42 [l0, l1, l2, l3, l4, l5, l6, l7, l8] (.long y :: .long x :: S) H Q := W.lsub d6_42 h
theorem d6_43 : decode method_2_code 43 = .ok (.lstore 7, 2) := by decide +kernel
theorem s6_43 {rm : Room} {S : List Value} {H : AHeap} {Q : Option Value → AHeap → Prop} {l0 l1 l2 l3 l4 l5 l6 l7 l8 : Slot} {x : Int64} (ho : two l7 l8 = true) (h : W6 rm 45 [l0, l1, l2, l3, l4, l5, l6, .val (.long x), .second] (S) (H) Q) : W6 rm 43 [l0, l1, l2, l3, l4, l5, l6, l7, l8] (.long x :: S) H Q := W.lstore d6_43 rfl rfl ho h
theorem d6_45 : decode method_2_code 45 = .ok (.lload 7, 2) := by decide +kernel
theorem s6_45 {rm : Room} {S : List Value} {H : AHeap} {Q : Option Value → AHeap → Prop} {l0 l1 l2 l3 l4 l5 l6 l8 : Slot} {x : Int64} (h : W6 rm 47 [l0, l1, l2, l3, l4, l5, l6, .val (.long x), l8] (.long x :: S) (H) Q) : W6 rm 45 [l0, l1, l2, l3, l4, l5, l6, .val (.long x), l8] (S) H Q := W.lload d6_45 rfl h
theorem d6_47 : decode method_2_code 47 = .ok (.ldc2_w 7, 3) := by decide +kernel
theorem s6_47 {rm : Room} {S : List Value} {H : AHeap} {Q : Option Value → AHeap → Prop} {l0 l1 l2 l3 l4 l5 l6 l7 l8 : Slot}  (h : W6 rm 50 [l0, l1, l2, l3, l4, l5, l6, l7, l8] (.long 64 :: S) (H) Q) : W6 rm 47 [l0, l1, l2, l3, l4, l5, l6, l7, l8] (S) H Q := W.ldcLong d6_47 (List.mem_of_getElem? (i := 32) rfl) h
theorem d6_50 : decode method_2_code 50 = .ok (.lcmp, 1) := by decide +kernel
theorem d6_51 : decode method_2_code 51 = .ok (.ifCond .lt 5, 3) := by decide +kernel
theorem s6_51 {rm : Room} {S : List Value} {H : AHeap} {Q : Option Value → AHeap → Prop} {l0 l1 l2 l3 l4 l5 l6 l7 l8 : Slot} {x : Int32} (h1 : x < 0 → W6 rm 56 [l0, l1, l2, l3, l4, l5, l6, l7, l8] S H Q) (h2 : ¬ x < 0 → W6 rm 54 [l0, l1, l2, l3, l4, l5, l6, l7, l8] S H Q) : W6 rm 51 [l0, l1, l2, l3, l4, l5, l6, l7, l8] (.int x :: S) H Q := W.ifc d6_51 (by decide) (by decide) h1 h2
theorem s6_50c {rm : Room} {S : List Value} {H : AHeap} {Q : Option Value → AHeap → Prop} {l0 l1 l2 l3 l4 l5 l6 l7 l8 : Slot} {x y : Int64} (h1 : x < y → W6 rm 56 [l0, l1, l2, l3, l4, l5, l6, l7, l8] S H Q) (h2 : ¬ x < y → W6 rm 54 [l0, l1, l2, l3, l4, l5, l6, l7, l8] S H Q) : W6 rm 50 [l0, l1, l2, l3, l4, l5, l6, l7, l8] (.long y :: .long x :: S) H Q := W.lcif d6_50 rfl d6_51 (by decide) (by decide) h1 h2
theorem d6_54 : decode method_2_code 54 = .ok (.lconst 0, 1) := by decide +kernel
theorem s6_54 {rm : Room} {S : List Value} {H : AHeap} {Q : Option Value → AHeap → Prop} {l0 l1 l2 l3 l4 l5 l6 l7 l8 : Slot}  (h : W6 rm 55 [l0, l1, l2, l3, l4, l5, l6, l7, l8] (.long 0 :: S) (H) Q) : W6 rm 54 [l0, l1, l2, l3, l4, l5, l6, l7, l8] (S) H Q := W.lconst' d6_54 (by decide) h
theorem d6_55 : decode method_2_code 55 = .ok (.lreturn, 1) := by decide +kernel
theorem s6_55 {rm : Room} {S : List Value} {H : AHeap} {Q : Option Value → AHeap → Prop} {l0 l1 l2 l3 l4 l5 l6 l7 l8 : Slot} {x : Int64} (hQ : Q (some (.long x)) H) : W6 rm 55 [l0, l1, l2, l3, l4, l5, l6, l7, l8] (.long x :: S) H Q := W.lreturn d6_55 rfl hQ
theorem d6_56 : decode method_2_code 56 = .ok (.lload_n 0, 1) := by decide +kernel
theorem s6_56 {rm : Room} {S : List Value} {H : AHeap} {Q : Option Value → AHeap → Prop} {l1 l2 l3 l4 l5 l6 l7 l8 : Slot} {x : Int64} (h : W6 rm 57 [.val (.long x), l1, l2, l3, l4, l5, l6, l7, l8] (.long x :: S) (H) Q) : W6 rm 56 [.val (.long x), l1, l2, l3, l4, l5, l6, l7, l8] (S) H Q := W.lload_n d6_56 rfl h
theorem d6_57 : decode method_2_code 57 = .ok (.lload 7, 2) := by decide +kernel
theorem s6_57 {rm : Room} {S : List Value} {H : AHeap} {Q : Option Value → AHeap → Prop} {l0 l1 l2 l3 l4 l5 l6 l8 : Slot} {x : Int64} (h : W6 rm 59 [l0, l1, l2, l3, l4, l5, l6, .val (.long x), l8] (.long x :: S) (H) Q) : W6 rm 57 [l0, l1, l2, l3, l4, l5, l6, .val (.long x), l8] (S) H Q := W.lload d6_57 rfl h
theorem d6_59 : decode method_2_code 59 = .ok (.l2i, 1) := by decide +kernel
theorem s6_59 {rm : Room} {S : List Value} {H : AHeap} {Q : Option Value → AHeap → Prop} {l0 l1 l2 l3 l4 l5 l6 l7 l8 : Slot} {x : Int64} (h : W6 rm 60 [l0, l1, l2, l3, l4, l5, l6, l7, l8] (.int x.toInt32 :: S) (H) Q) : W6 rm 59 [l0, l1, l2, l3, l4, l5, l6, l7, l8] (.long x :: S) H Q := W.l2i d6_59 h
theorem d6_60 : decode method_2_code 60 = .ok (.lushr, 1) := by decide +kernel
theorem s6_60 {rm : Room} {S : List Value} {H : AHeap} {Q : Option Value → AHeap → Prop} {l0 l1 l2 l3 l4 l5 l6 l7 l8 : Slot} {x : Int64} {y : Int32} (h : W6 rm 61 [l0, l1, l2, l3, l4, l5, l6, l7, l8] (.long (XT.ushrL x y) :: S) (H) Q) : W6 rm 60 [l0, l1, l2, l3, l4, l5, l6, l7, l8] (.int y :: .long x :: S) H Q := W.lushr d6_60 h
theorem d6_61 : decode method_2_code 61 = .ok (.lreturn, 1) := by decide +kernel
theorem s6_61 {rm : Room} {S : List Value} {H : AHeap} {Q : Option Value → AHeap → Prop} {l0 l1 l2 l3 l4 l5 l6 l7 l8 : Slot} {x : Int64} (hQ : Q (some (.long x)) H) : W6 rm 61 [l0, l1, l2, l3, l4, l5, l6, l7, l8] (.long x :: S) H Q := W.lreturn d6_61 rfl hQ
theorem b0_178 {rm : Room} {S : List Value} {H : AHeap} {Q : Option Value → AHeap → Prop} {l0 l1 l2 l3 l4 l5 l6 l7 l8 l9 l10 l11 l12 l13 l14 l15 l16 l17 l18 l19 l20 l21 l22 l23 l24 l25 l26 l27 : Slot} {x : Int32} (h : ∀ t : Int32, ((x = 0) ∧ t = 1) ∨ ((¬ x = 0) ∧ t = 0) → W0 rm 186 [l0, l1, l2, l3, l4, l5, l6, l7, l8, l9, l10, l11, l12, l13, l14, l15, l16, l17, l18, l19, l20, l21, l22, l23, l24, l25, l26, l27] (.int t :: S) H Q) : W0 rm 178 [l0, l1, l2, l3, l4, l5, l6, l7, l8, l9, l10, l11, l12, l13, l14, l15, l16, l17, l18, l19, l20, l21, l22, l23, l24, l25, l26, l27] (.int x :: S) H Q := s0_178 (fun q => s0_185 (h 0 (Or.inr ⟨q, rfl⟩))) (fun q => s0_181 (s0_182 (h 1 (Or.inl ⟨q, rfl⟩))))
theorem b0_177c {rm : Room} {S : List Value} {H : AHeap} {Q : Option Value → AHeap → Prop} {l0 l1 l2 l3 l4 l5 l6 l7 l8 l9 l10 l11 l12 l13 l14 l15 l16 l17 l18 l19 l20 l21 l22 l23 l24 l25 l26 l27 : Slot} {x y : Int64} (h : ∀ t : Int32, ((x = y) ∧ t = 1) ∨ ((¬ x = y) ∧ t = 0) → W0 rm 186 [l0, l1, l2, l3, l4, l5, l6, l7, l8, l9, l10, l11, l12, l13, l14, l15, l16, l17, l18, l19, l20, l21, l22, l23, l24, l25, l26, l27] (.int t :: S) H Q) : W0 rm 177 [l0, l1, l2, l3, l4, l5, l6, l7, l8, l9, l10, l11, l12, l13, l14, l15, l16, l17, l18, l19, l20, l21, l22, l23, l24, l25, l26, l27] (.long y :: .long x :: S) H Q := s0_177c (fun q => s0_185 (h 0 (Or.inr ⟨q, rfl⟩))) (fun q => s0_181 (s0_182 (h 1 (Or.inl ⟨q, rfl⟩))))
theorem b0_221 {rm : Room} {S : List Value} {H : AHeap} {Q : Option Value → AHeap → Prop} {l0 l1 l2 l3 l4 l5 l6 l7 l8 l9 l10 l11 l12 l13 l14 l15 l16 l17 l18 l19 l20 l21 l22 l23 l24 l25 l26 l27 : Slot} {x : Int32} (h : ∀ t : Int32, ((x = 0) ∧ t = 1) ∨ ((¬ x = 0) ∧ t = 0) → W0 rm 229 [l0, l1, l2, l3, l4, l5, l6, l7, l8, l9, l10, l11, l12, l13, l14, l15, l16, l17, l18, l19, l20, l21, l22, l23, l24, l25, l26, l27] (.int t :: S) H Q) : W0 rm 221 [l0, l1, l2, l3, l4, l5, l6, l7, l8, l9, l10, l11, l12, l13, l14, l15, l16, l17, l18, l19, l20, l21, l22, l23, l24, l25, l26, l27] (.int x :: S) H Q := s0_221 (fun q => s0_228 (h 0 (Or.inr ⟨q, rfl⟩))) (fun q => s0_224 (s0_225 (h 1 (Or.inl ⟨q, rfl⟩))))
theorem b0_220c {rm : Room} {S : List Value} {H : AHeap} {Q : Option Value → AHeap → Prop} {l0 l1 l2 l3 l4 l5 l6 l7 l8 l9 l10 l11 l12 l13 l14 l15 l16 l17 l18 l19 l20 l21 l22 l23 l24 l25 l26 l27 : Slot} {x y : Int64} (h : ∀ t : Int32, ((x = y) ∧ t = 1) ∨ ((¬ x = y) ∧ t = 0) → W0 rm 229 [l0, l1, l2, l3, l4, l5, l6, l7, l8, l9, l10, l11, l12, l13, l14, l15, l16, l17, l18, l19, l20, l21, l22, l23, l24, l25, l26, l27] (.int t :: S) H Q) : W0 rm 220 [l0, l1, l2, l3, l4, l5, l6, l7, l8, l9, l10, l11, l12, l13, l14, l15, l16, l17, l18, l19, l20, l21, l22, l23, l24, l25, l26, l27] (.long y :: .long x :: S) H Q := s0_220c (fun q => s0_228 (h 0 (Or.inr ⟨q, rfl⟩))) (fun q => s0_224 (s0_225 (h 1 (Or.inl ⟨q, rfl⟩))))
theorem b0_264 {rm : Room} {S : List Value} {H : AHeap} {Q : Option Value → AHeap → Prop} {l0 l1 l2 l3 l4 l5 l6 l7 l8 l9 l10 l11 l12 l13 l14 l15 l16 l17 l18 l19 l20 l21 l22 l23 l24 l25 l26 l27 : Slot} {x : Int32} (h : ∀ t : Int32, ((x = 0) ∧ t = 1) ∨ ((¬ x = 0) ∧ t = 0) → W0 rm 272 [l0, l1, l2, l3, l4, l5, l6, l7, l8, l9, l10, l11, l12, l13, l14, l15, l16, l17, l18, l19, l20, l21, l22, l23, l24, l25, l26, l27] (.int t :: S) H Q) : W0 rm 264 [l0, l1, l2, l3, l4, l5, l6, l7, l8, l9, l10, l11, l12, l13, l14, l15, l16, l17, l18, l19, l20, l21, l22, l23, l24, l25, l26, l27] (.int x :: S) H Q := s0_264 (fun q => s0_271 (h 0 (Or.inr ⟨q, rfl⟩))) (fun q => s0_267 (s0_268 (h 1 (Or.inl ⟨q, rfl⟩))))
theorem b0_263c {rm : Room} {S : List Value} {H : AHeap} {Q : Option Value → AHeap → Prop} {l0 l1 l2 l3 l4 l5 l6 l7 l8 l9 l10 l11 l12 l13 l14 l15 l16 l17 l18 l19 l20 l21 l22 l23 l24 l25 l26 l27 : Slot} {x y : Int64} (h : ∀ t : Int32, ((x = y) ∧ t = 1) ∨ ((¬ x = y) ∧ t = 0) → W0 rm 272 [l0, l1, l2, l3, l4, l5, l6, l7, l8, l9, l10, l11, l12, l13, l14, l15, l16, l17, l18, l19, l20, l21, l22, l23, l24, l25, l26, l27] (.int t :: S) H Q) : W0 rm 263 [l0, l1, l2, l3, l4, l5, l6, l7, l8, l9, l10, l11, l12, l13, l14, l15, l16, l17, l18, l19, l20, l21, l22, l23, l24, l25, l26, l27] (.long y :: .long x :: S) H Q := s0_263c (fun q => s0_271 (h 0 (Or.inr ⟨q, rfl⟩))) (fun q => s0_267 (s0_268 (h 1 (Or.inl ⟨q, rfl⟩))))
theorem b0_307 {rm : Room} {S : List Value} {H : AHeap} {Q : Option Value → AHeap → Prop} {l0 l1 l2 l3 l4 l5 l6 l7 l8 l9 l10 l11 l12 l13 l14 l15 l16 l17 l18 l19 l20 l21 l22 l23 l24 l25 l26 l27 : Slot} {x : Int32} (h : ∀ t : Int32, ((x = 0) ∧ t = 1) ∨ ((¬ x = 0) ∧ t = 0) → W0 rm 315 [l0, l1, l2, l3, l4, l5, l6, l7, l8, l9, l10, l11, l12, l13, l14, l15, l16, l17, l18, l19, l20, l21, l22, l23, l24, l25, l26, l27] (.int t :: S) H Q) : W0 rm 307 [l0, l1, l2, l3, l4, l5, l6, l7, l8, l9, l10, l11, l12, l13, l14, l15, l16, l17, l18, l19, l20, l21, l22, l23, l24, l25, l26, l27] (.int x :: S) H Q := s0_307 (fun q => s0_314 (h 0 (Or.inr ⟨q, rfl⟩))) (fun q => s0_310 (s0_311 (h 1 (Or.inl ⟨q, rfl⟩))))
theorem b0_306c {rm : Room} {S : List Value} {H : AHeap} {Q : Option Value → AHeap → Prop} {l0 l1 l2 l3 l4 l5 l6 l7 l8 l9 l10 l11 l12 l13 l14 l15 l16 l17 l18 l19 l20 l21 l22 l23 l24 l25 l26 l27 : Slot} {x y : Int64} (h : ∀ t : Int32, ((x = y) ∧ t = 1) ∨ ((¬ x = y) ∧ t = 0) → W0 rm 315 [l0, l1, l2, l3, l4, l5, l6, l7, l8, l9, l10, l11, l12, l13, l14, l15, l16, l17, l18, l19, l20, l21, l22, l23, l24, l25, l26, l27] (.int t :: S) H Q) : W0 rm 306 [l0, l1, l2, l3, l4, l5, l6, l7, l8, l9, l10, l11, l12, l13, l14, l15, l16, l17, l18, l19, l20, l21, l22, l23, l24, l25, l26, l27] (.long y :: .long x :: S) H Q := s0_306c (fun q => s0_314 (h 0 (Or.inr ⟨q, rfl⟩))) (fun q => s0_310 (s0_311 (h 1 (Or.inl ⟨q, rfl⟩))))
theorem own_amt (y : Int32) (n : Nat) (hn : n < 64) (h : (y.toInt - n) % 64 = 0) : (y.toInt64.toUInt64 &&& Int64.toUInt64 63).toNat = n := by
  have e : (y.toInt64.toUInt64 &&& Int64.toUInt64 63).toNat = (y.toInt64.toBitVec.toNat &&& 63) := rfl
  rw [e, show (63 : Nat) = 2 ^ 6 - 1 from rfl, Nat.and_two_pow_sub_one_eq_mod]
  have e1 : y.toInt64.toInt = y.toInt := Int32.toInt_toInt64 y
  have e2 : y.toInt64.toInt = y.toInt64.toBitVec.toInt := rfl
  have e3 := BitVec.toInt_eq_toNat_bmod y.toInt64.toBitVec
  have e4 : (y.toInt64.toBitVec.toInt - y.toInt64.toBitVec.toNat) % 64 = 0 := by
    rw [e3]
    have d := Int.dvd_of_emod_eq_zero (bm64 (y.toInt64.toBitVec.toNat : Int))
    exact Int.emod_eq_zero_of_dvd (Int.dvd_trans ⟨288230376151711744, by decide⟩ d)
  rw [← e2, e1] at e4
  omega
theorem own_ushr (x : Int64) (y : Int32) (n : Nat) (hn : n < 64) (h : (y.toInt - n) % 64 = 0) : (XT.ushrL x y).toBitVec = x.toBitVec >>> n := by
  have e : (XT.ushrL x y).toBitVec = (x.toUInt64 >>> (y.toInt64.toUInt64 &&& Int64.toUInt64 63)).toBitVec := rfl
  rw [e, UInt64.toBitVec_shiftRight]
  have q : ((y.toInt64.toUInt64 &&& Int64.toUInt64 63).toBitVec % 64#64).toNat = n := by
    rw [BitVec.toNat_umod]
    show (y.toInt64.toUInt64 &&& Int64.toUInt64 63).toNat % 64 = n
    rw [own_amt y n hn h, Nat.mod_eq_of_lt hn]
  show x.toBitVec >>> ((y.toInt64.toUInt64 &&& Int64.toUInt64 63).toBitVec % 64#64).toNat = _
  rw [q]
theorem own_shl (x : Int64) (y : Int32) (n : Nat) (hn : n < 64) (h : (y.toInt - n) % 64 = 0) : (x <<< (y.toInt64 &&& 63)).toBitVec = x.toBitVec <<< n := by
  rw [Int64.toBitVec_shiftLeft]
  show x.toBitVec <<< ((y.toInt64 &&& 63).toBitVec.smod 64#64).toNat = _
  have a : (y.toInt64 &&& 63).toBitVec.toNat = n := own_amt y n hn h
  have q : ((y.toInt64 &&& 63).toBitVec.smod 64#64).toNat = n := by
    have b : (y.toInt64 &&& 63).toBitVec = BitVec.ofNat 64 n := by
      apply BitVec.eq_of_toNat_eq
      rw [a, BitVec.toNat_ofNat, Nat.mod_eq_of_lt (by omega)]
    rw [b, BitVec.smod_eq]
    have c : (BitVec.ofNat 64 n).msb = false := by
      rw [BitVec.msb_eq_false_iff_two_mul_lt, BitVec.toNat_ofNat, Nat.mod_eq_of_lt (by omega)]; omega
    rw [c]
    show ((BitVec.ofNat 64 n) % 64#64).toNat = n
    rw [BitVec.toNat_umod, BitVec.toNat_ofNat, Nat.mod_eq_of_lt (show n < 2 ^ 64 by omega)]
    exact Nat.mod_eq_of_lt hn
  rw [q]
theorem own_toInt64 (n : Nat) (h : n < 2 ^ 63) : (Int64.ofNat n).toInt = n := Int64.toInt_ofNat_of_lt h
theorem own_toInt32 (n : Nat) (h : n < 2 ^ 31) : (Int32.ofNat n).toInt = n := Int32.toInt_ofNat_of_lt h
theorem own_mul (i w : Nat) (h : i * w < 2 ^ 31) (hi : i < 2 ^ 31) (hw : w < 64) : Int64.ofNat i * (Int32.ofNat w).toInt64 = Int64.ofNat (i * w) := by
  apply Int64.toInt_inj.mp
  have k := c_lmul (Int64.ofNat i) (Int32.ofNat w).toInt64
  rw [Int32.toInt_toInt64, own_toInt64 i (by omega), own_toInt32 w (by omega)] at k
  have r := rng64 (Int64.ofNat i * (Int32.ofNat w).toInt64)
  rw [own_toInt64 _ (by omega)]
  have : (i : Int) * w = ((i * w : Nat) : Int) := by simp
  omega
theorem own_t32 (x : Int64) : x.toInt32.toBitVec = x.toBitVec.setWidth 32 := by
  show x.toBitVec.signExtend 32 = _
  exact BitVec.signExtend_eq_setWidth_of_le _ (by decide)
theorem own_word (b : Nat) (h : b < 2 ^ 31) : (XT.ushrL (Int64.ofNat b) 6).toInt32 = Int32.ofNat (b / 64) := by
  apply Int32.toBitVec_inj.mp
  rw [own_t32, own_ushr _ 6 6 (by decide) (by decide)]
  apply BitVec.eq_of_toNat_eq
  rw [BitVec.toNat_setWidth, BitVec.toNat_ushiftRight]
  show ((BitVec.ofNat 64 b).toNat >>> 6) % 2 ^ 32 = (BitVec.ofNat 32 (b / 64)).toNat
  rw [BitVec.toNat_ofNat, BitVec.toNat_ofNat, Nat.mod_eq_of_lt (show b < 2 ^ 64 by omega), Nat.shiftRight_eq_div_pow]
theorem own_shift (b : Nat) (h : b < 2 ^ 31) : (Int64.ofNat b).toInt32 &&& 63 = Int32.ofNat (b % 64) := by
  apply Int32.toBitVec_inj.mp
  rw [Int32.toBitVec_and, own_t32]
  apply BitVec.eq_of_toNat_eq
  rw [BitVec.toNat_and, BitVec.toNat_setWidth]
  show ((BitVec.ofNat 64 b).toNat % 2 ^ 32) &&& 63 = (BitVec.ofNat 32 (b % 64)).toNat
  rw [BitVec.toNat_ofNat, BitVec.toNat_ofNat, Nat.mod_eq_of_lt (show b < 2 ^ 64 by omega), Nat.mod_eq_of_lt (show b < 2 ^ 32 by omega), show (63 : Nat) = 2 ^ 6 - 1 from rfl, Nat.and_two_pow_sub_one_eq_mod, Nat.mod_eq_of_lt (show b % 64 < 2 ^ 32 by omega)]
theorem own_neg (s : Nat) (h0 : 0 < s) (h : s < 64) : ((-(Int32.ofNat s)).toInt - ((64 - s : Nat) : Int)) % 64 = 0 := by
  have k := c_ineg (Int32.ofNat s); have r := rng32 (-(Int32.ofNat s))
  rw [own_toInt32 s (by omega)] at k
  omega
theorem own_bitx (x : Int64) : (x ^^^ -1).toBitVec = ~~~ x.toBitVec := by
  rw [Int64.toBitVec_xor]
  show x.toBitVec ^^^ (BitVec.allOnes 64) = _
  exact BitVec.xor_allOnes
/-- bit p of the table -/
def own_gb (ws : List Int64) (p : Nat) : Bool := (ws.getD (p / 64) 0).toBitVec.getLsbD (p % 64)
def own_E1 (x m v : Int64) (s : Nat) : Int64 := (x &&& (m <<< ((Int32.ofNat s).toInt64 &&& 63) ^^^ -1)) ||| (v <<< ((Int32.ofNat s).toInt64 &&& 63))
def own_E2 (x m v : Int64) (s : Nat) : Int64 := (x &&& (XT.ushrL m (-(Int32.ofNat s)) ^^^ -1)) ||| XT.ushrL v (-(Int32.ofNat s))
def own_set (ws : List Int64) (m v : Int64) (w b : Nat) : List Int64 :=
  if 64 < b % 64 + w then (ws.set (b / 64) (own_E1 (ws.getD (b / 64) 0) m v (b % 64))).set (b / 64 + 1) (own_E2 (ws.getD (b / 64 + 1) 0) m v (b % 64))
  else ws.set (b / 64) (own_E1 (ws.getD (b / 64) 0) m v (b % 64))
def own_mk (m : Int64) (w : Nat) : Prop := ∀ j, m.toBitVec.getLsbD j = decide (j < w)
def own_fit (v : Int64) (w : Nat) : Prop := ∀ j, w ≤ j → v.toBitVec.getLsbD j = false
theorem own_am (s : Nat) (h : s < 64) : ((Int32.ofNat s).toInt - (s : Int)) % 64 = 0 := by rw [own_toInt32 s (by omega)]; simp
theorem own_E1_bit {x m v : Int64} {s w r : Nat} (hm : own_mk m w) (hv : own_fit v w) (hs : s < 64) (hr : r < 64) : (own_E1 x m v s).toBitVec.getLsbD r = if s ≤ r ∧ r < s + w then v.toBitVec.getLsbD (r - s) else x.toBitVec.getLsbD r := by
  rw [own_E1, Int64.toBitVec_or, Int64.toBitVec_and, own_bitx, own_shl m _ s hs (own_am s hs), own_shl v _ s hs (own_am s hs)]
  rw [BitVec.getLsbD_or, BitVec.getLsbD_and, BitVec.getLsbD_not, BitVec.getLsbD_shiftLeft, BitVec.getLsbD_shiftLeft, hm]
  by_cases h1 : s ≤ r
  · by_cases h2 : r < s + w
    · rw [if_pos ⟨h1, h2⟩]
      simp [hr, show ¬ r < s by omega, show r - s < w by omega]
    · rw [if_neg (by omega)]
      simp [hr, show ¬ r < s by omega, show ¬ r - s < w by omega, hv (r - s) (by omega)]
  · rw [if_neg (by omega)]
    simp [hr, show r < s by omega]
theorem own_E2_bit {x m v : Int64} {s w r : Nat} (hm : own_mk m w) (hv : own_fit v w) (h0 : 0 < s) (hs : s < 64) (hr : r < 64) : (own_E2 x m v s).toBitVec.getLsbD r = if r + 64 < s + w then v.toBitVec.getLsbD (r + 64 - s) else x.toBitVec.getLsbD r := by
  rw [own_E2, Int64.toBitVec_or, Int64.toBitVec_and, own_bitx, own_ushr m _ (64 - s) (by omega) (own_neg s h0 hs), own_ushr v _ (64 - s) (by omega) (own_neg s h0 hs)]
  rw [BitVec.getLsbD_or, BitVec.getLsbD_and, BitVec.getLsbD_not, BitVec.getLsbD_ushiftRight, BitVec.getLsbD_ushiftRight, hm, show 64 - s + r = r + 64 - s by omega]
  by_cases h2 : r + 64 < s + w
  · rw [if_pos h2]
    simp [hr, show r + 64 - s < w by omega]
  · rw [if_neg h2]
    simp [hr, show ¬ r + 64 - s < w by omega, hv (r + 64 - s) (by omega)]
theorem own_getD_set (ws : List Int64) (i j : Nat) (v : Int64) (h : i < ws.length) : (ws.set i v).getD j 0 = if j = i then v else ws.getD j 0 := by
  rw [List.getD_eq_getElem?_getD, List.getD_eq_getElem?_getD, List.getElem?_set]
  by_cases e : j = i
  · subst e; simp [h]
  · rw [if_neg (Ne.symm e), if_neg e]
theorem own_set_len (ws : List Int64) (m v : Int64) (w b : Nat) : (own_set ws m v w b).length = ws.length := by
  unfold own_set; split <;> simp
theorem own_set_bit (ws : List Int64) (m v : Int64) (w b p : Nat) (hm : own_mk m w) (hv : own_fit v w) (hw : w < 64) (hq : b / 64 < ws.length) (hq' : 64 < b % 64 + w → b / 64 + 1 < ws.length) :
    own_gb (own_set ws m v w b) p = if b ≤ p ∧ p < b + w then v.toBitVec.getLsbD (p - b) else own_gb ws p := by
  have hs : b % 64 < 64 := Nat.mod_lt _ (by decide)
  have hr : p % 64 < 64 := Nat.mod_lt _ (by decide)
  have eb := Nat.div_add_mod b 64
  have ep := Nat.div_add_mod p 64
  have one : p / 64 = b / 64 → (own_E1 (ws.getD (b / 64) 0) m v (b % 64)).toBitVec.getLsbD (p % 64) = if b ≤ p ∧ p < b + w then v.toBitVec.getLsbD (p - b) else own_gb ws p := fun h => by
    rw [own_E1_bit hm hv hs hr, own_gb, h]
    have e : p % 64 - b % 64 = p - b := by omega
    have e' : (b % 64 ≤ p % 64 ∧ p % 64 < b % 64 + w) ↔ (b ≤ p ∧ p < b + w) := by omega
    rw [e]
    by_cases q : b ≤ p ∧ p < b + w
    · rw [if_pos q, if_pos (e'.mpr q)]
    · rw [if_neg q, if_neg (fun z => q (e'.mp z))]
  unfold own_set
  by_cases hc : 64 < b % 64 + w
  · rw [if_pos hc, own_gb, own_getD_set _ _ _ _ (by rw [List.length_set]; exact hq' hc), own_getD_set _ _ _ _ hq]
    by_cases h1 : p / 64 = b / 64 + 1
    · rw [if_pos h1, own_E2_bit hm hv (by omega) hs hr, own_gb, h1]
      have e : p % 64 + 64 - b % 64 = p - b := by omega
      have e' : (p % 64 + 64 < b % 64 + w) ↔ (b ≤ p ∧ p < b + w) := by omega
      rw [e]
      by_cases q : b ≤ p ∧ p < b + w
      · rw [if_pos q, if_pos (e'.mpr q)]
      · rw [if_neg q, if_neg (fun z => q (e'.mp z))]
    · rw [if_neg h1]
      by_cases h2 : p / 64 = b / 64
      · rw [if_pos h2]; exact one h2
      · rw [if_neg h2, if_neg (by omega)]; rfl
  · rw [if_neg hc, own_gb, own_getD_set _ _ _ _ hq]
    by_cases h2 : p / 64 = b / 64
    · rw [if_pos h2]; exact one h2
    · rw [if_neg h2, if_neg (by omega)]; rfl
/-- what get answers -/
def own_get (ws : List Int64) (m : Int64) (w b : Nat) : Int64 :=
  (if 64 < b % 64 + w then XT.ushrL (ws.getD (b / 64) 0) (Int32.ofNat (b % 64)) ||| (ws.getD (b / 64 + 1) 0) <<< ((-(Int32.ofNat (b % 64))).toInt64 &&& 63) else XT.ushrL (ws.getD (b / 64) 0) (Int32.ofNat (b % 64))) &&& m
theorem own_get_bit (ws : List Int64) (m : Int64) (w b j : Nat) (hm : own_mk m w) (hw : w < 64) (hj : j < 64) : (own_get ws m w b).toBitVec.getLsbD j = (decide (j < w) && own_gb ws (b + j)) := by
  have hs : b % 64 < 64 := Nat.mod_lt _ (by decide)
  have eb := Nat.div_add_mod b 64
  rw [own_get, Int64.toBitVec_and, BitVec.getLsbD_and, hm, Bool.and_comm]
  by_cases h : j < w
  · simp only [h, decide_true, Bool.true_and]
    by_cases hc : 64 < b % 64 + w
    · rw [if_pos hc, Int64.toBitVec_or, own_ushr _ _ (b % 64) hs (own_am _ hs), own_shl _ _ (64 - b % 64) (by omega) (own_neg _ (by omega) hs), BitVec.getLsbD_or, BitVec.getLsbD_ushiftRight, BitVec.getLsbD_shiftLeft]
      by_cases h2 : b % 64 + j < 64
      · have e1 : (b + j) / 64 = b / 64 := by omega
        have e2 : (b + j) % 64 = b % 64 + j := by omega
        simp [own_gb, e1, e2, show j < 64 - b % 64 by omega]
      · have e1 : (b + j) / 64 = b / 64 + 1 := by omega
        have e2 : (b + j) % 64 = j - (64 - b % 64) := by omega
        rw [BitVec.getLsbD_of_ge _ (b % 64 + j) (by omega)]
        simp [own_gb, e1, e2, hj, show ¬ j < 64 - b % 64 by omega]
    · rw [if_neg hc, own_ushr _ _ (b % 64) hs (own_am _ hs), BitVec.getLsbD_ushiftRight]
      have e1 : (b + j) / 64 = b / 64 := by omega
      have e2 : (b + j) % 64 = b % 64 + j := by omega
      simp [own_gb, e1, e2]
  · simp [h]
theorem own_ext {x y : Int64} (h : ∀ j, j < 64 → x.toBitVec.getLsbD j = y.toBitVec.getLsbD j) : x = y := Int64.toBitVec_inj.mp (BitVec.eq_of_getLsbD_eq h)
theorem own_mk1 (w : Nat) (h1 : w < 64) : own_mk (1 <<< ((Int32.ofNat w).toInt64 &&& 63) - 1) w := fun j => by
  rw [Int64.toBitVec_sub, own_shl _ _ w h1 (own_am w h1)]
  show ((1#64 <<< w) - 1#64).getLsbD j = _
  have p : 2 ^ w < 2 ^ 64 := Nat.pow_lt_pow_right (by decide) h1
  have p0 : 0 < 2 ^ w := Nat.pow_pos (by decide)
  have e : (((1#64 <<< w) - 1#64)).toNat = 2 ^ w - 1 := by
    rw [BitVec.toNat_sub, BitVec.toNat_shiftLeft]
    simp only [BitVec.toNat_ofNat, Nat.shiftLeft_eq]
    omega
  rw [← BitVec.testBit_toNat, e, Nat.testBit_two_pow_sub_one]
abbrev own_T (ws : List Int64) (sz : Int64) (w : Nat) (m : Int64) : AHeap := [(.inl (0, [.ref 1, .long sz, .int (Int32.ofNat w), .long m]) : ACell), .inr (.long, ws.map Value.long)]
theorem own_at (ws : List Int64) (q : Nat) (h : q < ws.length) : (ws.map Value.long)[q]? = some (.long (ws.getD q 0)) := by
  rw [List.getElem?_map, List.getElem?_eq_getElem h, List.getD_eq_getElem?_getD, List.getElem?_eq_getElem h]; rfl
theorem own_ms (ws : List Int64) (q : Nat) (x : Int64) : (ws.map Value.long).set q (.long x) = (ws.set q x).map Value.long := by rw [List.map_set]
theorem own_bl (ws : List Int64) (q : Nat) (h : q < ws.length) : Nat.blt q (ws.map Value.long).length = true := Nat.blt_eq.mpr (by simpa using h)
theorem own_add32 (a b : Nat) : Int32.ofNat a + Int32.ofNat b = Int32.ofNat (a + b) := (Int32.ofNat_add a b).symm
theorem own_gt64 (n : Nat) (h : n < 2 ^ 31) : 64 < Int32.ofNat n ↔ 64 < n := by
  rw [Int32.lt_iff_toInt_lt, own_toInt32 n h]; simp only [Int32.reduceToInt]; omega
set_option maxHeartbeats 4000000 in
theorem own_setM (ws : List Int64) (sz : Int64) (w i : Nat) (m v : Int64) (hw : w < 64) (hb : i * w < 2 ^ 31) (hi : i < 2 ^ 31) (hl : i * w / 64 < ws.length) (hl' : 64 < i * w % 64 + w → i * w / 64 + 1 < ws.length) (hn : ws.length < 2 ^ 31) :
    M3 ⟨0, 0, 0, 0⟩ [.ref 0, .long (Int64.ofNat i), .long v] (own_T ws sz w m) (Is none (own_T (own_set ws m v w (i * w)) sz w m)) := by
  refine e3 ?_
  refine s3_0 ?_
  refine s3_1 ?_
  refine s3_2 rfl ?_
  refine s3_5 ?_
  refine s3_6 ?_
  rw [own_mul i w hb hi hw]
  generalize i * w = b at hb hl hl'
  refine s3_7 rfl ?_
  refine s3_9 ?_
  refine s3_11 ?_
  refine s3_13 ?_
  refine s3_14 ?_
  rw [own_word b hb]
  refine s3_15 rfl ?_
  refine s3_17 ?_
  refine s3_19 ?_
  refine s3_20 ?_
  refine s3_22 ?_
  rw [own_shift b hb]
  refine s3_23 rfl ?_
  refine s3_25 ?_
  refine s3_26 rfl ?_
  refine s3_29 ?_
  refine s3_31 ?_
  refine s3_32 rfl ?_
  refine s3_35 ?_
  refine s3_37 (b / 64) rfl (ix_ofNat (by omega)) (own_at ws _ hl) ?_
  refine s3_38 ?_
  refine s3_39 rfl ?_
  refine s3_42 ?_
  refine s3_44 ?_
  refine s3_45 ?_
  refine s3_48 ?_
  refine s3_49 ?_
  refine s3_50 ?_
  refine s3_51 ?_
  refine s3_53 ?_
  refine s3_54 ?_
  refine s3_55 (b / 64) rfl (ix_ofNat (by omega)) (own_bl ws _ hl) ?_
  rw [own_ms]
  show W3 _ _ _ _ (own_T (ws.set (b / 64) (own_E1 (ws.getD (b / 64) 0) m v (b % 64))) sz w m) _
  refine s3_56 ?_
  refine s3_58 ?_
  refine s3_59 rfl ?_
  refine s3_62 ?_
  rw [own_add32]
  refine s3_63 ?_
  refine s3_65 (fun h => ?_) (fun h => ?_)
  · rw [own_gt64 _ (by omega)] at h
    refine s3_105 ⟨rfl, ?_⟩
    rw [own_set, if_neg h]
  · rw [own_gt64 _ (by omega)] at h
    have g : (ws.set (b / 64) (own_E1 (ws.getD (b / 64) 0) m v (b % 64))).getD (b / 64 + 1) 0 = ws.getD (b / 64 + 1) 0 := by rw [own_getD_set _ _ _ _ hl, if_neg (by omega)]
    have e1 : Int32.ofNat (b / 64) + 1 = Int32.ofNat (b / 64 + 1) := own_add32 _ 1
    refine s3_68 ?_
    refine s3_69 rfl ?_
    refine s3_72 ?_
    refine s3_74 ?_
    refine s3_75 ?_
    refine s3_76 ?_
    refine s3_77 rfl ?_
    refine s3_80 ?_
    refine s3_82 ?_
    refine s3_83 ?_
    rw [e1]
    refine s3_84 (b / 64 + 1) rfl (ix_ofNat (by omega)) (own_at _ _ (by simpa using hl' h)) ?_
    rw [g]
    refine s3_85 ?_
    refine s3_86 rfl ?_
    refine s3_89 ?_
    refine s3_91 ?_
    refine s3_92 ?_
    refine s3_93 ?_
    refine s3_96 ?_
    refine s3_97 ?_
    refine s3_98 ?_
    refine s3_99 ?_
    refine s3_101 ?_
    refine s3_102 ?_
    refine s3_103 ?_
    refine s3_104 (b / 64 + 1) rfl (ix_ofNat (by omega)) (own_bl _ _ (by simpa using hl' h)) ?_
    rw [own_ms]
    refine s3_105 ⟨rfl, ?_⟩
    rw [own_set, if_pos h]
    rfl
theorem own_wordM (ws : List Int64) (sz : Int64) (w q : Nat) (m : Int64) (hq : q < ws.length) (hn : ws.length < 2 ^ 31) : M4 ⟨0, 0, 0, 0⟩ [.ref 0, .int (Int32.ofNat q)] (own_T ws sz w m) (Is (some (.long (ws.getD q 0))) (own_T ws sz w m)) := by
  refine e4 ?_
  refine s4_0 ?_
  refine s4_1 rfl ?_
  refine s4_4 ?_
  refine s4_5 q rfl (ix_ofNat (by omega)) (own_at ws q hq) ?_
  exact s4_6 ⟨rfl, rfl⟩
theorem own_bits_n (sz w : Nat) (h1 : 1 ≤ w) (h2 : w < 64) (hs : sz ≤ 256) : ((Int64.ofNat sz * (Int32.ofNat w).toInt64 + 64 - 1) / 64).toInt32 = Int32.ofNat ((sz * w + 63) / 64) := by
  have hb : sz * w ≤ 256 * 63 := Nat.mul_le_mul hs (by omega)
  rw [own_mul sz w (by omega) (by omega) h2]
  have e1 : (Int64.ofNat (sz * w) + 64 - 1).toInt = sz * w + 63 := by
    have k1 := c_ladd (Int64.ofNat (sz * w)) 64; have k2 := c_lsub (Int64.ofNat (sz * w) + 64) 1; have r := rng64 (Int64.ofNat (sz * w) + 64 - 1)
    rw [own_toInt64 _ (by omega)] at k1
    simp only [Int64.reduceToInt] at k1 k2
    have : ((sz * w : Nat) : Int) = (sz : Int) * w := by simp
    omega
  have e2 : (Int64.ofNat (sz * w) + 64 - 1) / 64 = Int64.ofNat ((sz * w + 63) / 64) := by
    apply Int64.toInt_inj.mp
    rw [Int64.toInt_div, e1, own_toInt64 _ (by omega)]
    have : ((sz * w : Nat) : Int) = (sz : Int) * w := by simp
    rw [show (64 : Int64).toInt = 64 from by decide, Int.tdiv_eq_ediv_of_nonneg (by omega), Int.bmod_eq_of_le (by omega) (by omega)]
    omega
  rw [e2]
  apply Int32.toBitVec_inj.mp
  rw [own_t32]
  apply BitVec.eq_of_toNat_eq
  rw [BitVec.toNat_setWidth]
  show (BitVec.ofNat 64 ((sz * w + 63) / 64)).toNat % 2 ^ 32 = (BitVec.ofNat 32 ((sz * w + 63) / 64)).toNat
  rw [BitVec.toNat_ofNat, BitVec.toNat_ofNat]
  omega
theorem own_wcM (sz w : Nat) (h1 : 1 ≤ w) (h2 : w < 64) (hs : sz ≤ 256) (h0 : 1 ≤ sz) (H : AHeap) : M2 ⟨0, 0, 0, 0⟩ [.long (Int64.ofNat sz), .int (Int32.ofNat w)] H (Is (some (.int (Int32.ofNat ((sz * w + 63) / 64)))) H) := by
  refine e2 ?_
  refine s2_0 ?_
  refine s2_1 ?_
  refine s2_2 (fun h => absurd h ?_) (fun _ => ?_)
  · rw [Int32.lt_iff_toInt_lt, own_toInt32 w (by omega)]; simp only [Int32.reduceToInt]; omega
  refine s2_5 ?_
  refine s2_6 ?_
  refine s2_8 (fun _ => ?_) (fun h => absurd h ?_)
  rotate_left
  · rw [Int32.lt_iff_toInt_lt, own_toInt32 w (by omega)]; simp only [Int32.reduceToInt]; omega
  refine s2_25 ?_
  refine s2_26 ?_
  refine s2_27c (fun h => absurd h ?_) (fun _ => ?_)
  · rw [Int64.lt_iff_toInt_lt, own_toInt64 sz (by omega)]; simp only [Int64.reduceToInt]; omega
  have wz : (Int32.ofNat w).toInt64.toInt = w := by rw [Int32.toInt_toInt64, own_toInt32 w (by omega)]
  have wn : (Int32.ofNat w).toInt64 ≠ 0 := fun q => by
    have := congrArg Int64.toInt q
    rw [wz] at this; simp only [Int64.reduceToInt] at this; omega
  refine s2_31 ?_
  refine s2_32 ?_
  refine s2_35 ?_
  refine s2_36 ?_
  refine s2_37 wn ?_
  refine s2_38c (fun _ => ?_) (fun h => absurd h ?_)
  rotate_left
  · rw [Int64.lt_iff_toInt_lt, own_toInt64 sz (by omega), Int64.toInt_div, wz]
    simp only [Int64.reduceToInt]
    rw [Int.tdiv_eq_ediv_of_nonneg (by decide)]
    have b1 : (137438952896 : Int) / w ≥ 256 := by
      apply (Int.le_ediv_iff_mul_le (by omega)).mpr
      omega
    have b2 : (137438952896 : Int) / w ≤ 137438952896 := Int.ediv_le_self _ (by decide)
    rw [Int.bmod_eq_of_le (by omega) (by omega)]
    omega
  refine s2_63 ?_
  refine s2_64 ?_
  refine s2_65 ?_
  refine s2_66 ?_
  refine s2_67 ?_
  refine s2_70 ?_
  refine s2_71 ?_
  refine s2_72 ?_
  refine s2_73 ?_
  refine s2_76 (by decide) ?_
  refine s2_77 ?_
  rw [own_bits_n sz w h1 h2 hs]
  exact s2_78 ⟨rfl, rfl⟩
set_option maxHeartbeats 4000000 in
theorem own_init (sz w : Nat) (h1 : 1 ≤ w) (h2 : w < 64) (hs : sz ≤ 256) (h0 : 1 ≤ sz) (hc : (sz * w + 63) / 64 ≤ 4) : M1 ⟨1, 1, 4, 16⟩ [.ref 0, .long (Int64.ofNat sz), .int (Int32.ofNat w)] [(.inl (0, [.null, .long 0, .int 0, .long 0]) : ACell)] (Is none (own_T (List.replicate ((sz * w + 63) / 64) 0) (Int64.ofNat sz) w (1 <<< ((Int32.ofNat w).toInt64 &&& 63) - 1))) := by
  refine e1 ?_
  refine s1_0 ?_
  refine s1_1 rfl ?_
  refine s1_4 ?_
  refine s1_5 ?_
  refine s1_6 ?_
  refine s1_7 (own_wcM sz w h1 h2 hs h0 _) rfl ?_
  generalize (sz * w + 63) / 64 = n at hc
  refine s1_10 1 n (ix_ofNat (by omega)) rfl (by simp [nok]; omega) ?_
  rw [show List.replicate n (Value.long 0) = (List.replicate n (0 : Int64)).map Value.long by simp]
  refine s1_12 rfl ?_
  refine s1_15 ?_
  refine s1_16 ?_
  refine s1_17 rfl ?_
  refine s1_20 ?_
  refine s1_21 ?_
  refine s1_22 rfl ?_
  refine s1_25 ?_
  refine s1_26 ?_
  refine s1_27 ?_
  refine s1_28 ?_
  refine s1_29 ?_
  refine s1_30 ?_
  refine s1_31 rfl ?_
  exact s1_34 ⟨rfl, rfl⟩
theorem own_w (a : Int32) : ∃ W : Nat, 1 ≤ W ∧ W < 64 ∧ 1 + (a &&& 2147483647) % 63 = Int32.ofNat W := by
  have e : (a &&& 2147483647).toInt = a.toInt % 2 ^ 31 := Jvm.Kit.i32_mask a 2147483647 (k := 31) (by decide) (by decide)
  have h : ((a &&& 2147483647) % 63).toInt = (a.toInt % 2 ^ 31) % 63 := by rw [Int32.toInt_mod, show (63 : Int32).toInt = 63 from by decide, e, Int.tmod_eq_emod_of_nonneg (by omega)]
  refine ⟨1 + ((a &&& 2147483647) % 63).toInt.toNat, by omega, by omega, ?_⟩
  apply Int32.toInt_inj.mp
  have c := c_iadd 1 ((a &&& 2147483647) % 63); have r := rng32 (1 + (a &&& 2147483647) % 63)
  rw [own_toInt32 _ (by omega)]
  simp only [Int32.reduceToInt] at c
  omega
theorem own_fitA (a m : Int64) (W : Nat) (h : own_mk m W) : own_fit (a &&& m) W := fun j hj => by
  rw [Int64.toBitVec_and, BitVec.getLsbD_and, h]; simp [show ¬ j < W by omega]
theorem own_gb0 (n p : Nat) : own_gb (List.replicate n 0) p = false := by
  rw [own_gb, List.getD_eq_getElem?_getD, List.getElem?_replicate]
  split <;> simp
theorem own_lt64 (a b : Nat) (ha : a < 2 ^ 31) (hb : b < 2 ^ 31) : Int64.ofNat a < Int64.ofNat b ↔ a < b := by
  rw [Int64.lt_iff_toInt_lt, own_toInt64 a (by omega), own_toInt64 b (by omega)]; omega
theorem own_lt32 (a b : Nat) (ha : a < 2 ^ 31) (hb : b < 2 ^ 31) : Int32.ofNat a < Int32.ofNat b ↔ a < b := by
  rw [Int32.lt_iff_toInt_lt, own_toInt32 a ha, own_toInt32 b hb]; omega
theorem own_sub64 (a b : Nat) (h : b ≤ a) : Int64.ofNat a - Int64.ofNat b = Int64.ofNat (a - b) := by
  obtain ⟨c, rfl⟩ : ∃ c, a = c + b := ⟨a - b, by omega⟩
  rw [Int64.ofNat_add, Int64.add_sub_cancel, Nat.add_sub_cancel]
theorem own_l2i (d : Nat) (h : d < 2 ^ 31) : (Int64.ofNat d).toInt32 = Int32.ofNat d := by
  apply Int32.toBitVec_inj.mp
  rw [own_t32]
  apply BitVec.eq_of_toNat_eq
  rw [BitVec.toNat_setWidth]
  show (BitVec.ofNat 64 d).toNat % 2 ^ 32 = (BitVec.ofNat 32 d).toNat
  rw [BitVec.toNat_ofNat, BitVec.toNat_ofNat]; omega
theorem own_i2l (d : Nat) (h : d < 2 ^ 31) : (Int32.ofNat d).toInt64 = Int64.ofNat d := by
  apply Int64.toInt_inj.mp
  rw [Int32.toInt_toInt64, own_toInt32 d h, own_toInt64 d (by omega)]
theorem own_mulL (a b : Nat) (h : a * b < 2 ^ 31) (ha : a < 2 ^ 31) (hb : b < 2 ^ 31) : Int64.ofNat a * Int64.ofNat b = Int64.ofNat (a * b) := by
  apply Int64.toInt_inj.mp
  have k := c_lmul (Int64.ofNat a) (Int64.ofNat b)
  rw [own_toInt64 a (by omega), own_toInt64 b (by omega)] at k
  have r := rng64 (Int64.ofNat a * Int64.ofNat b)
  rw [own_toInt64 _ (by omega)]
  have : (a : Int) * b = ((a * b : Nat) : Int) := by simp
  omega
/-- what part answers -/
def own_part (x : Int64) (p k : Nat) : Int64 :=
  if p < 64 * k then (if 64 * k - p < 64 then XT.ushrL x (Int32.ofNat (64 * k - p)) else 0)
  else (if p - 64 * k < 64 then x <<< ((Int32.ofNat (p - 64 * k)).toInt64 &&& 63) else 0)
theorem own_part_bit (x : Int64) (p k r : Nat) (hr : r < 64) : (own_part x p k).toBitVec.getLsbD r = (decide (p ≤ 64 * k + r) && x.toBitVec.getLsbD (64 * k + r - p)) := by
  have z : (0 : Int64).toBitVec.getLsbD r = false := by show (0#64).getLsbD r = false; simp
  unfold own_part
  by_cases h : p < 64 * k
  · rw [if_pos h]
    by_cases h' : 64 * k - p < 64
    · rw [if_pos h', own_ushr _ _ (64 * k - p) h' (own_am _ h'), BitVec.getLsbD_ushiftRight, show 64 * k - p + r = 64 * k + r - p by omega]
      simp [show p ≤ 64 * k + r by omega]
    · rw [if_neg h', z, BitVec.getLsbD_of_ge _ (64 * k + r - p) (by omega), Bool.and_false]
  · rw [if_neg h]
    by_cases h' : p - 64 * k < 64
    · rw [if_pos h', own_shl _ _ (p - 64 * k) h' (own_am _ h'), BitVec.getLsbD_shiftLeft]
      by_cases q : r < p - 64 * k
      · simp [q, show ¬ p ≤ 64 * k + r by omega]
      · simp [q, hr, show p ≤ 64 * k + r by omega, show r - (p - 64 * k) = 64 * k + r - p by omega]
    · rw [if_neg h', z]; simp [show ¬ p ≤ 64 * k + r by omega]
theorem own_partM (x : Int64) (p k : Nat) (hp : p < 2 ^ 20) (hk : k < 4) (H : AHeap) : M6 ⟨0, 0, 0, 0⟩ [.long x, .long (Int64.ofNat p), .int (Int32.ofNat k)] H (Is (some (.long (own_part x p k))) H) := by
  refine e6 ?_
  refine s6_0 ?_
  refine s6_3 ?_
  refine s6_5 ?_
  refine s6_6 ?_
  rw [own_i2l k (by omega), show (64 : Int64) * Int64.ofNat k = Int64.ofNat (64 * k) from own_mulL 64 k (by omega) (by omega) (by omega)]
  refine s6_7 rfl ?_
  refine s6_9 ?_
  refine s6_10 ?_
  refine s6_12c (fun h => ?_) (fun h => ?_)
  · rw [own_lt64 _ _ (by omega) (by omega)] at h
    refine s6_39 ?_
    refine s6_41 ?_
    refine s6_42 ?_
    rw [own_sub64 _ _ (by omega)]
    refine s6_43 rfl ?_
    refine s6_45 ?_
    refine s6_47 ?_
    refine s6_50c (fun h' => ?_) (fun h' => ?_)
    · have h'' : 64 * k - p < 64 := (own_lt64 _ 64 (by omega) (by omega)).mp h'
      refine s6_56 ?_
      refine s6_57 ?_
      refine s6_59 ?_
      rw [own_l2i _ (by omega)]
      refine s6_60 (s6_61 ⟨?_, rfl⟩)
      rw [own_part, if_pos h, if_pos h'']
    · have h'' : ¬ 64 * k - p < 64 := fun q => h' ((own_lt64 _ 64 (by omega) (by omega)).mpr q)
      refine s6_54 (s6_55 ⟨?_, rfl⟩)
      rw [own_part, if_pos h, if_neg h'']
  · rw [own_lt64 _ _ (by omega) (by omega)] at h
    refine s6_16 ?_
    refine s6_17 ?_
    refine s6_19 ?_
    rw [own_sub64 _ _ (by omega)]
    refine s6_20 rfl ?_
    refine s6_22 ?_
    refine s6_24 ?_
    refine s6_27c (fun h' => ?_) (fun h' => ?_)
    · have h'' : p - 64 * k < 64 := (own_lt64 _ 64 (by omega) (by omega)).mp h'
      refine s6_33 ?_
      refine s6_34 ?_
      refine s6_36 ?_
      rw [own_l2i _ (by omega)]
      refine s6_37 (s6_38 ⟨?_, rfl⟩)
      rw [own_part, if_neg h, if_pos h'']
    · have h'' : ¬ p - 64 * k < 64 := fun q => h' ((own_lt64 _ 64 (by omega) (by omega)).mpr q)
      refine s6_31 (s6_32 ⟨?_, rfl⟩)
      rw [own_part, if_neg h, if_neg h'']
def own_exp (a v b : Int64) (W J k : Nat) : Int64 := own_part a (W * J) k ||| own_part v (W * (J + 1)) k ||| own_part b (W * (J + 2)) k
set_option maxHeartbeats 4000000 in
theorem own_expM (a v b : Int64) (W J k : Nat) (hw : W < 64) (hj : J < 300) (hk : k < 4) (H : AHeap) : M5 ⟨1, 0, 0, 26⟩ [.long a, .long v, .long b, .long (Int32.ofNat W).toInt64, .long (Int64.ofNat (J + 1)), .int (Int32.ofNat k)] H (Is (some (.long (own_exp a v b W J k))) H) := by
  have b0 : W * (J + 2) ≤ 63 * 301 := Nat.mul_le_mul (by omega) (by omega)
  have b1 : W * (J + 1) ≤ 63 * 301 := Nat.mul_le_mul (by omega) (by omega)
  have b2 : W * J ≤ 63 * 301 := Nat.mul_le_mul (by omega) (by omega)
  rw [own_i2l W (by omega)]
  have m0 : Int64.ofNat (J + 1) - 1 = Int64.ofNat J := own_sub64 (J + 1) 1 (by omega)
  have m1 : Int64.ofNat (J + 1) + 1 = Int64.ofNat (J + 2) := (Int64.ofNat_add (J + 1) 1).symm
  refine e5 ?_
  refine s5_0 ?_
  refine s5_1 ?_
  refine s5_3 ?_
  refine s5_5 ?_
  refine s5_6 ?_
  rw [m0]
  refine s5_7 ?_
  rw [own_mulL W J (by omega) (by omega) (by omega)]
  refine s5_8 ?_
  refine s5_10 (own_partM _ _ _ (by omega) hk _) rfl ?_
  refine s5_13 ?_
  refine s5_14 ?_
  refine s5_16 ?_
  refine s5_18 ?_
  rw [own_mulL W (J + 1) (by omega) (by omega) (by omega)]
  refine s5_19 ?_
  refine s5_21 (own_partM _ _ _ (by omega) hk _) rfl ?_
  refine s5_24 ?_
  refine s5_25 ?_
  refine s5_27 ?_
  refine s5_29 ?_
  refine s5_31 ?_
  refine s5_32 ?_
  rw [m1]
  refine s5_33 ?_
  rw [own_mulL W (J + 2) (by omega) (by omega) (by omega)]
  refine s5_34 ?_
  refine s5_36 (own_partM _ _ _ (by omega) hk _) rfl ?_
  refine s5_39 ?_
  exact s5_40 ⟨rfl, rfl⟩
theorem own_idx (a : Int32) (d : Nat) (h : 1 ≤ d) (h' : d < 2 ^ 31) : ∃ J : Nat, J < d ∧ ((a &&& 2147483647) % Int32.ofNat d).toInt64 = Int64.ofNat J := by
  have e : (a &&& 2147483647).toInt = a.toInt % 2 ^ 31 := Jvm.Kit.i32_mask a 2147483647 (k := 31) (by decide) (by decide)
  have h2 : ((a &&& 2147483647) % Int32.ofNat d).toInt = (a.toInt % 2 ^ 31) % d := by rw [Int32.toInt_mod, own_toInt32 d h', e, Int.tmod_eq_emod_of_nonneg (by omega)]
  have p0 := Int.emod_nonneg (a.toInt % 2 ^ 31) (show (d : Int) ≠ 0 by omega)
  have p1 := Int.emod_lt_of_pos (a.toInt % 2 ^ 31) (show (0 : Int) < d by omega)
  refine ⟨((a.toInt % 2 ^ 31) % d).toNat, by omega, ?_⟩
  apply Int64.toInt_inj.mp
  rw [Int32.toInt_toInt64, h2, own_toInt64 _ (by omega)]
  omega
theorem own_div (W : Nat) (h1 : 1 ≤ W) (h2 : W < 64) : (256 : Int32) / Int32.ofNat W = Int32.ofNat (256 / W) := by
  apply Int32.toInt_inj.mp
  have b : 256 / W ≤ 256 := Nat.div_le_self _ _
  have e : ((256 : Int32).toInt).tdiv (W : Int) = ((256 / W : Nat) : Int) := by
    rw [show (256 : Int32).toInt = 256 from by decide, Int.tdiv_eq_ediv_of_nonneg (by omega)]; rfl
  rw [Int32.toInt_div, own_toInt32 W (by omega), own_toInt32 _ (by omega), e]
  clear e
  generalize 256 / W = q at b
  rw [Int.bmod_eq_of_le (by omega) (by omega)]
theorem own_nw (s : Nat) (h : s ≤ 256) : ((Int64.ofNat s + 63) / 64).toInt32 = Int32.ofNat ((s + 63) / 64) := by
  have e1 : Int64.ofNat s + 63 = Int64.ofNat (s + 63) := (Int64.ofNat_add s 63).symm
  have e2 : Int64.ofNat (s + 63) / 64 = Int64.ofNat ((s + 63) / 64) := by
    apply Int64.toInt_inj.mp
    rw [Int64.toInt_div, own_toInt64 _ (by omega), own_toInt64 _ (by omega), show (64 : Int64).toInt = 64 from by decide, Int.tdiv_eq_ediv_of_nonneg (by omega), Int.bmod_eq_of_le (by omega) (by omega)]
    omega
  rw [e1, e2, own_l2i _ (by omega)]
set_option maxHeartbeats 16000000 in
theorem own_blocks (pw pi : Int32) (a b u v : Int64) (W n I nw : Nat) (M av bv uv vv : Int64) (ws : List Int64) (hnw : nw ≤ 4) (hlen : ws.length = nw) (J : Nat) (hI : I = J + 1) (hJ : J < 300) (hw : W < 64) (hx : ∀ q, q < nw → ws.getD q 0 = own_exp av vv bv W J q) :
    W0 ⟨5, 14, 120, 160⟩ 145 [.val (.int pw), .val (.int pi), .val (.long a), .second, .val (.long b), .second, .val (.long u), .second, .val (.long v), .second, .val (.int (Int32.ofNat W)), .val (.long M), .second, .val (.long (Int64.ofNat n)), .second, .val (.long (Int64.ofNat I)), .second, .val (.long av), .second, .val (.long bv), .second, .val (.long uv), .second, .val (.long vv), .second, .val (.ref 0), .val (.int (Int32.ofNat nw)), .val (.int 1)] [] (own_T ws (Int64.ofNat n) W M) (fun r _ => r = some (.int 1)) := by
  subst hI
  have f4 : W0 ⟨5, 14, 120, 160⟩ 317 [.val (.int pw), .val (.int pi), .val (.long a), .second, .val (.long b), .second, .val (.long u), .second, .val (.long v), .second, .val (.int (Int32.ofNat W)), .val (.long M), .second, .val (.long (Int64.ofNat n)), .second, .val (.long (Int64.ofNat (J + 1))), .second, .val (.long av), .second, .val (.long bv), .second, .val (.long uv), .second, .val (.long vv), .second, .val (.ref 0), .val (.int (Int32.ofNat nw)), .val (.int 1)] [] (own_T ws (Int64.ofNat n) W M) (fun r _ => r = some (.int 1)) := by
    exact s0_317 (s0_319 rfl)
  have f3 : W0 ⟨5, 14, 120, 160⟩ 274 [.val (.int pw), .val (.int pi), .val (.long a), .second, .val (.long b), .second, .val (.long u), .second, .val (.long v), .second, .val (.int (Int32.ofNat W)), .val (.long M), .second, .val (.long (Int64.ofNat n)), .second, .val (.long (Int64.ofNat (J + 1))), .second, .val (.long av), .second, .val (.long bv), .second, .val (.long uv), .second, .val (.long vv), .second, .val (.ref 0), .val (.int (Int32.ofNat nw)), .val (.int 1)] [] (own_T ws (Int64.ofNat n) W M) (fun r _ => r = some (.int 1)) := by
    refine s0_274 (s0_275 (s0_277 (fun _ => f4) (fun h => ?_)))
    have h' : 3 < nw := (own_lt32 3 nw (by omega) (by omega)).mp h
    refine s0_280 (s0_282 (fun h => absurd h (by decide)) (fun _ => ?_))
    refine s0_285 ?_
    refine s0_287 ?_
    refine s0_288 rfl (own_wordM ws _ W 3 M (by omega) (by omega)) rfl ?_
    refine s0_291 ?_
    refine s0_293 ?_
    refine s0_295 ?_
    refine s0_297 ?_
    refine s0_299 ?_
    refine s0_300 ?_
    refine s0_302 ?_
    refine s0_303 (own_expM av vv bv W J 3 hw hJ (by omega) _) rfl ?_
    refine s0_306c (fun h => absurd (hx 3 h') h) (fun _ => ?_)
    exact s0_310 (s0_311 (s0_315 rfl f4))
  have f2 : W0 ⟨5, 14, 120, 160⟩ 231 [.val (.int pw), .val (.int pi), .val (.long a), .second, .val (.long b), .second, .val (.long u), .second, .val (.long v), .second, .val (.int (Int32.ofNat W)), .val (.long M), .second, .val (.long (Int64.ofNat n)), .second, .val (.long (Int64.ofNat (J + 1))), .second, .val (.long av), .second, .val (.long bv), .second, .val (.long uv), .second, .val (.long vv), .second, .val (.ref 0), .val (.int (Int32.ofNat nw)), .val (.int 1)] [] (own_T ws (Int64.ofNat n) W M) (fun r _ => r = some (.int 1)) := by
    refine s0_231 (s0_232 (s0_234 (fun _ => f3) (fun h => ?_)))
    have h' : 2 < nw := (own_lt32 2 nw (by omega) (by omega)).mp h
    refine s0_237 (s0_239 (fun h => absurd h (by decide)) (fun _ => ?_))
    refine s0_242 ?_
    refine s0_244 ?_
    refine s0_245 rfl (own_wordM ws _ W 2 M (by omega) (by omega)) rfl ?_
    refine s0_248 ?_
    refine s0_250 ?_
    refine s0_252 ?_
    refine s0_254 ?_
    refine s0_256 ?_
    refine s0_257 ?_
    refine s0_259 ?_
    refine s0_260 (own_expM av vv bv W J 2 hw hJ (by omega) _) rfl ?_
    refine s0_263c (fun h => absurd (hx 2 h') h) (fun _ => ?_)
    exact s0_267 (s0_268 (s0_272 rfl f3))
  have f1 : W0 ⟨5, 14, 120, 160⟩ 188 [.val (.int pw), .val (.int pi), .val (.long a), .second, .val (.long b), .second, .val (.long u), .second, .val (.long v), .second, .val (.int (Int32.ofNat W)), .val (.long M), .second, .val (.long (Int64.ofNat n)), .second, .val (.long (Int64.ofNat (J + 1))), .second, .val (.long av), .second, .val (.long bv), .second, .val (.long uv), .second, .val (.long vv), .second, .val (.ref 0), .val (.int (Int32.ofNat nw)), .val (.int 1)] [] (own_T ws (Int64.ofNat n) W M) (fun r _ => r = some (.int 1)) := by
    refine s0_188 (s0_189 (s0_191 (fun _ => f2) (fun h => ?_)))
    have h' : 1 < nw := (own_lt32 1 nw (by omega) (by omega)).mp h
    refine s0_194 (s0_196 (fun h => absurd h (by decide)) (fun _ => ?_))
    refine s0_199 ?_
    refine s0_201 ?_
    refine s0_202 rfl (own_wordM ws _ W 1 M (by omega) (by omega)) rfl ?_
    refine s0_205 ?_
    refine s0_207 ?_
    refine s0_209 ?_
    refine s0_211 ?_
    refine s0_213 ?_
    refine s0_214 ?_
    refine s0_216 ?_
    refine s0_217 (own_expM av vv bv W J 1 hw hJ (by omega) _) rfl ?_
    refine s0_220c (fun h => absurd (hx 1 h') h) (fun _ => ?_)
    exact s0_224 (s0_225 (s0_229 rfl f2))
  have f0 : W0 ⟨5, 14, 120, 160⟩ 145 [.val (.int pw), .val (.int pi), .val (.long a), .second, .val (.long b), .second, .val (.long u), .second, .val (.long v), .second, .val (.int (Int32.ofNat W)), .val (.long M), .second, .val (.long (Int64.ofNat n)), .second, .val (.long (Int64.ofNat (J + 1))), .second, .val (.long av), .second, .val (.long bv), .second, .val (.long uv), .second, .val (.long vv), .second, .val (.ref 0), .val (.int (Int32.ofNat nw)), .val (.int 1)] [] (own_T ws (Int64.ofNat n) W M) (fun r _ => r = some (.int 1)) := by
    refine s0_145 (s0_146 (s0_148 (fun _ => f1) (fun h => ?_)))
    have h' : 0 < nw := (own_lt32 0 nw (by omega) (by omega)).mp h
    refine s0_151 (s0_153 (fun h => absurd h (by decide)) (fun _ => ?_))
    refine s0_156 ?_
    refine s0_158 ?_
    refine s0_159 rfl (own_wordM ws _ W 0 M (by omega) (by omega)) rfl ?_
    refine s0_162 ?_
    refine s0_164 ?_
    refine s0_166 ?_
    refine s0_168 ?_
    refine s0_170 ?_
    refine s0_171 ?_
    refine s0_173 ?_
    refine s0_174 (own_expM av vv bv W J 0 hw hJ (by omega) _) rfl ?_
    refine s0_177c (fun h => absurd (hx 0 h') h) (fun _ => ?_)
    exact s0_181 (s0_182 (s0_186 rfl f1))
  exact f0
set_option maxHeartbeats 16000000 in
theorem law_ok (pw pi : Int32) (a b u v : Int64) : M0 room_1 [.int pw, .int pi, .long a, .long b, .long u, .long v] [] (fun r _ => r = some (.int 1)) := by
  refine e0 ?_
  refine s0_0 ?_
  refine s0_1 ?_
  refine s0_2 ?_
  refine s0_4 ?_
  refine s0_5 ?_
  refine s0_7 (by decide) ?_
  refine s0_8 ?_
  obtain ⟨W, w1, w2, we⟩ := own_w pw
  rw [we]
  refine s0_9 rfl ?_
  refine s0_11 ?_
  refine s0_12 ?_
  refine s0_14 ?_
  refine s0_15 ?_
  refine s0_16 ?_
  have hmk := own_mk1 W w2
  have wn : Int32.ofNat W ≠ 0 := fun q => by
    have := congrArg Int32.toInt q
    rw [own_toInt32 W (by omega)] at this; simp only [Int32.reduceToInt] at this; omega
  refine s0_17 rfl ?_
  refine s0_19 ?_
  refine s0_22 ?_
  refine s0_24 wn ?_
  rw [own_div W w1 w2]
  have nb : 256 / W ≤ 256 := Nat.div_le_self _ _
  have n4 : 4 ≤ 256 / W := (Nat.le_div_iff_mul_le (by omega)).mpr (by omega)
  have nm : 256 / W * W ≤ 256 := Nat.div_mul_le_self _ _
  generalize 256 / W = n at nb n4 nm
  refine s0_25 ?_
  rw [own_i2l n (by omega)]
  have n2 : Int64.ofNat n - 2 = Int64.ofNat (n - 2) := own_sub64 n 2 (by omega)
  refine s0_26 rfl ?_
  refine s0_28 ?_
  refine s0_29 ?_
  refine s0_30 ?_
  refine s0_32 ?_
  refine s0_33 ?_
  refine s0_35 ?_
  refine s0_38 ?_
  rw [n2]
  refine s0_39 ?_
  rw [own_l2i (n - 2) (by omega)]
  refine s0_40 ?_ ?_
  · intro q
    have := congrArg Int32.toInt q
    rw [own_toInt32 _ (by omega)] at this; simp only [Int32.reduceToInt] at this; omega
  refine s0_41 ?_
  obtain ⟨J, hJ, je⟩ := own_idx pi (n - 2) (by omega) (by omega)
  rw [je]
  refine s0_42 ?_
  rw [show (1 : Int64) + Int64.ofNat J = Int64.ofNat (J + 1) by rw [Int64.add_comm]; exact (Int64.ofNat_add J 1).symm]
  refine s0_43 rfl ?_
  refine s0_45 ?_
  refine s0_46 ?_
  refine s0_48 ?_
  have fa := own_fitA a _ W hmk
  generalize a &&& (1 <<< ((Int32.ofNat W).toInt64 &&& 63) - 1) = av at fa
  refine s0_49 rfl ?_
  refine s0_51 ?_
  refine s0_53 ?_
  refine s0_55 ?_
  have fb := own_fitA b _ W hmk
  generalize b &&& (1 <<< ((Int32.ofNat W).toInt64 &&& 63) - 1) = bv at fb
  refine s0_56 rfl ?_
  refine s0_58 ?_
  refine s0_60 ?_
  refine s0_62 ?_
  have fu := own_fitA u _ W hmk
  generalize u &&& (1 <<< ((Int32.ofNat W).toInt64 &&& 63) - 1) = uv at fu
  refine s0_63 rfl ?_
  refine s0_65 ?_
  refine s0_67 ?_
  refine s0_69 ?_
  have fv := own_fitA v _ W hmk
  generalize v &&& (1 <<< ((Int32.ofNat W).toInt64 &&& 63) - 1) = vv at fv
  have e1 : (J + 1) * W = J * W + W := by rw [Nat.add_mul, Nat.one_mul]
  have e2 : (J + 2) * W = J * W + W + W := by rw [show J + 2 = J + 1 + 1 from rfl, Nat.add_mul, Nat.one_mul, e1]
  have e3 : (J + 3) * W = J * W + W + W + W := by rw [show J + 3 = J + 2 + 1 from rfl, Nat.add_mul, Nat.one_mul, e2]
  have e4 : (J + 3) * W ≤ n * W := Nat.mul_le_mul_right W (by omega)
  have hN : (n * W + 63) / 64 ≤ 4 := by omega
  refine s0_70 rfl ?_
  refine s0_72 0 rfl rfl ?_
  refine s0_75 rfl ?_
  refine s0_76 ?_
  refine s0_78 ?_
  refine s0_80 (own_init n W w1 w2 (by omega) (by omega) hN) rfl ?_
  refine s0_83 rfl ?_
  refine s0_85 ?_
  refine s0_87 ?_
  refine s0_89 ?_
  have m0 : Int64.ofNat (J + 1) - 1 = Int64.ofNat J := own_sub64 (J + 1) 1 (by omega)
  have m1 : Int64.ofNat (J + 1) + 1 = Int64.ofNat (J + 2) := (Int64.ofNat_add (J + 1) 1).symm
  generalize (1 : Int64) <<< ((Int32.ofNat W).toInt64 &&& 63) - 1 = M at hmk
  refine s0_90 ?_
  rw [m0]
  have l0 : (List.replicate ((n * W + 63) / 64) (0 : Int64)).length = (n * W + 63) / 64 := List.length_replicate ..
  have g0 := own_gb0 ((n * W + 63) / 64)
  generalize List.replicate ((n * W + 63) / 64) (0 : Int64) = ws0 at l0 g0
  refine s0_91 ?_
  refine s0_93 rfl (own_setM ws0 _ W J M av w2 (by omega) (by omega) (by omega) (by omega) (by omega)) rfl ?_
  have l1 := own_set_len ws0 M av W (J * W)
  have g1 := fun p => own_set_bit ws0 M av W (J * W) p hmk fa w2 (by omega) (by omega)
  generalize own_set ws0 M av W (J * W) = ws1 at l1 g1
  refine s0_96 ?_
  refine s0_98 ?_
  refine s0_100 ?_
  refine s0_101 ?_
  rw [m1]
  refine s0_102 ?_
  refine s0_104 rfl (own_setM ws1 _ W (J + 2) M bv w2 (by omega) (by omega) (by omega) (by omega) (by omega)) rfl ?_
  have l2 := own_set_len ws1 M bv W ((J + 2) * W)
  have g2 := fun p => own_set_bit ws1 M bv W ((J + 2) * W) p hmk fb w2 (by omega) (by omega)
  generalize own_set ws1 M bv W ((J + 2) * W) = ws2 at l2 g2
  refine s0_107 ?_
  refine s0_109 ?_
  refine s0_111 ?_
  refine s0_113 rfl (own_setM ws2 _ W (J + 1) M uv w2 (by omega) (by omega) (by omega) (by omega) (by omega)) rfl ?_
  have l3 := own_set_len ws2 M uv W ((J + 1) * W)
  have g3 := fun p => own_set_bit ws2 M uv W ((J + 1) * W) p hmk fu w2 (by omega) (by omega)
  generalize own_set ws2 M uv W ((J + 1) * W) = ws3 at l3 g3
  refine s0_116 ?_
  refine s0_118 ?_
  refine s0_120 ?_
  refine s0_122 rfl (own_setM ws3 _ W (J + 1) M vv w2 (by omega) (by omega) (by omega) (by omega) (by omega)) rfl ?_
  have l4 := own_set_len ws3 M vv W ((J + 1) * W)
  have g4 := fun p => own_set_bit ws3 M vv W ((J + 1) * W) p hmk fv w2 (by omega) (by omega)
  generalize own_set ws3 M vv W ((J + 1) * W) = ws4 at l4 g4
  refine s0_125 ?_
  refine s0_127 ?_
  refine s0_129 ?_
  refine s0_130 ?_
  rw [own_mul n W (by omega) (by omega) w2]
  refine s0_131 ?_
  refine s0_134 ?_
  refine s0_135 ?_
  refine s0_138 (by decide) ?_
  refine s0_139 ?_
  rw [own_nw (n * W) nm]
  refine s0_140 rfl ?_
  refine s0_142 ?_
  refine s0_143 rfl ?_
  refine own_blocks pw pi a b u v W n (J + 1) ((n * W + 63) / 64) M av bv uv vv ws4 hN (by omega) J rfl (by omega) w2 (fun q hq => ?_)
  refine own_ext fun r hr => ?_
  have key : own_gb ws4 (64 * q + r) = (ws4.getD q 0).toBitVec.getLsbD r := by
    rw [own_gb, show (64 * q + r) / 64 = q by omega, show (64 * q + r) % 64 = r by omega]
  rw [← key, own_exp, Int64.toBitVec_or, Int64.toBitVec_or, BitVec.getLsbD_or, BitVec.getLsbD_or, own_part_bit _ _ _ _ hr, own_part_bit _ _ _ _ hr, own_part_bit _ _ _ _ hr]
  rw [Nat.mul_comm W J, Nat.mul_comm W (J + 1), Nat.mul_comm W (J + 2)]
  generalize 64 * q + r = p
  rw [g4, g3, g2, g1, g0]
  by_cases h1 : p < J * W
  · rw [if_neg (by omega), if_neg (by omega), if_neg (by omega), if_neg (by omega)]
    simp [show ¬ J * W ≤ p by omega, show ¬ (J + 1) * W ≤ p by omega, show ¬ (J + 2) * W ≤ p by omega]
  · by_cases h2 : p < (J + 1) * W
    · rw [if_neg (by omega), if_neg (by omega), if_neg (by omega), if_pos (by omega)]
      simp [show J * W ≤ p by omega, show ¬ (J + 1) * W ≤ p by omega, show ¬ (J + 2) * W ≤ p by omega]
    · rw [fa (p - J * W) (by omega)]
      by_cases h3 : p < (J + 2) * W
      · rw [if_pos (by omega)]
        simp [show (J + 1) * W ≤ p by omega, show ¬ (J + 2) * W ≤ p by omega]
      · rw [fv (p - (J + 1) * W) (by omega), if_neg (by omega), if_neg (by omega)]
        by_cases h4 : p < (J + 3) * W
        · rw [if_pos (by omega)]; simp [show (J + 2) * W ≤ p by omega]
        · rw [if_neg (by omega), if_neg (by omega), fb (p - (J + 2) * W) (by omega)]; simp
set_option maxRecDepth 65536 in
set_option maxHeartbeats 4000000 in
theorem comes_1 {Post : Tables → Env → Array Value → State → Outcome → State → Prop} (hpost : ∀ tb e args s v u, (limb_1_1.after args s (.returned v) u = true ∧ limb_1_2.after args s (.returned v) u = true ∧ True) → FrameEnd s (.returned v) u (Jvm.fieldLocs frame_1_writes args s ++ Jvm.arrayLocs frame_1_arrays args s ++ Jvm.staticLocs frame_1_statics s) 16 128 → Post tb e args s (.returned v) u) :
    ArmFor flags0 classFile x code maxLocals ret World_1 tables_1 room_1 Calls_1 rest_1 Pre_1 Post := by
  intro l hfl _ _ p e ha hc hk s m args below hf hA hF happ hP
  obtain ⟨hcalls, hrest, hpre⟩ := hP
  obtain ⟨-, -, -, hnamed, -, -, -, hat⟩ := (Spec.applies_iff hf).mp happ
  obtain ⟨hg, hn⟩ := and_e (Cond.before_iff.mp (show (Jvm.Cond.and given_1 narrow_1).before args s = true from hpre))
  obtain ⟨hg0, hg⟩ := and_e hg
  obtain ⟨hk0, hg⟩ := and_e hg
  obtain ⟨hk1, hg⟩ := and_e hg
  obtain ⟨hk2, hg⟩ := and_e hg
  obtain ⟨hk3, hg⟩ := and_e hg
  obtain ⟨hk4, hg⟩ := and_e hg
  have hk5 := hg
  obtain ⟨w0, w1, w2, w3, w4, w5, rfl⟩ : ∃ w0 w1 w2 w3 w4 w5 : Value, args = #[w0, w1, w2, w3, w4, w5] := by
    have hs : args.size = 6 := by simpa [Cond.value, given_1] using hg0
    obtain ⟨L⟩ := args
    match L, hs with
    | [w0, w1, w2, w3, w4, w5], _ => exact ⟨w0, w1, w2, w3, w4, w5, rfl⟩
  have hw := fun d (hd : d ∈ tables_1) => atoms_spec (ws := Jvm.Cond.code x code maxLocals ret :: tables_1) hat d (List.mem_cons_of_mem _ hd)
  obtain ⟨i0, e0⟩ := is_v hk0
  obtain rfl : w0 = (.int i0) := Option.some.inj e0
  obtain ⟨i1, e1⟩ := is_v hk1
  obtain rfl : w1 = (.int i1) := Option.some.inj e1
  obtain ⟨i2, e2⟩ := isL_v hk2
  obtain rfl : w2 = (.long i2) := Option.some.inj e2
  obtain ⟨i3, e3⟩ := isL_v hk3
  obtain rfl : w3 = (.long i3) := Option.some.inj e3
  obtain ⟨i4, e4⟩ := isL_v hk4
  obtain rfl : w4 = (.long i4) := Option.some.inj e4
  obtain ⟨i5, e5⟩ := isL_v hk5
  obtain rfl : w5 = (.long i5) := Option.some.inj e5
  obtain ⟨n, o, h1, h2, h3, _, L, rfl, ⟨v', H', rfl, hR, rfl, N⟩, hq⟩ := law_ok i0 i1 i2 i3 i4 i5 s _ hw l s.heap tables_1 (Rel.start s KT) p e ha hc hk s m _ below hf ((Spec.applies_iff_loose hf).mp happ).1 ⟨rfl, State.Warmed39.refl s, rfl⟩ trivial
  refine ⟨n, _, h1, h2, h3, hpost _ _ _ _ _ _ ⟨Cond.after_iff.mpr rfl, Cond.after_iff.mpr (eq_i res_at (Term.int_eval (1)) rfl), trivial⟩ ⟨hq.1, hq.2.1, (hq.2.2.sift fun y hy => Or.inr (N y hy)).mono (by decide) (by decide)⟩⟩
theorem main_1_1 : Claimed_1_1 := comes_1 fun _ _ _ _ _ _ h hF => ⟨h.1, hF⟩
theorem main_1_2 : Claimed_1_2 := comes_1 fun _ _ _ _ _ _ h hF => ⟨h.2.1, hF⟩
end Jvm.Pilot.@@N@@
namespace Jvm.Pilot.@@N@@
open Jvm Jvm.ClassFile Sem Op Lib Jvm.Free Jvm.Stand Jvm.Pilot.@@N@@.Jvm.D
/-! MADE BY PROGRAM (witnessworld.py) out of the Statement's table words and the real class files: 11 classes; the members and pool entries that the words name. The judged class is class 1, her method 3. -/
namespace start1
open Jvm.ClassFile
def u (s : String) : CpInfo := .utf8 (stringToUtf16 s)
/-- a pool by its gaps: so many unusable entries, then the entry; so many at the end -/
def gap : Nat → List CpInfo → List CpInfo
  | 0, r => r
  | n + 1, r => .unusable :: gap n r
def poolList (es : List (Nat × CpInfo)) (last : Nat) : List CpInfo := es.foldr (fun e r => gap e.1 (e.2 :: r)) (gap last [])
def pool (es : List (Nat × CpInfo)) (last : Nat) : Array CpInfo := ⟨poolList es last⟩
def fileOf (pool : Array CpInfo) (this : Nat) (attrs : Array Attribute := #[]) (ms : Array MethodInfo := #[]) (fl : Nat := 33) (sup : Nat := 0) (ifs : Array Nat := #[]) (fds : Array FieldInfo := #[]) : ClassFile where
  minorVersion := 0
  majorVersion := 65
  constantPool := pool
  accessFlags := fl
  thisClass := this
  superClass := sup
  interfaces := ifs
  fields := fds
  methods := ms
  attributes := attrs
def plain (name : String) (sup : Option ClassId) : Class where
  name := name
  kind := .ordinary
  loader := none
  accessFlags := 33
  super := sup
  interfaces := #[]
  cf := none
  fields := #[]
  methods := #[]
  instanceTypes := #[]
  staticTypes := #[]
  resolved := #[]
  callSites := []
  init := .initialized
  statics := none
  mirror := none

def pool0 : Array CpInfo := pool [(5, u "<init>"), (0, u "()V"), (1, .class_ 10), (1, u "java/lang/Object")] 113

def k0c0 : Code := { maxStack := 0, maxLocals := 1, code := object_method_1_code, exceptionTable := #[], attributes := #[] }
def k0m0 : Method := { name := "<init>", desc := "()V", sig := { parameters := [], returnType := none }, accessFlags := 1, code := some k0c0 }
/-- java/lang/Object -/
def k0 : Class := { plain "java/lang/Object" none with
  accessFlags := 33
  interfaces := #[]
  cf := some (fileOf pool0 8 #[] #[{ accessFlags := 1, nameIndex := 5, descriptorIndex := 6, attributes := #[] }] 33 0 #[] #[])
  fields := #[]
  methods := #[k0m0]
  instanceTypes := #[]
  staticTypes := #[]
  resolved := Array.replicate 124 none
  statics := none }

def pool1 : Array CpInfo := pool [(2, .class_ 4), (1, u "java/lang/Object"), (0, u "<init>"), (0, u "()V"), (0, .long 64), (1, .methodref 10 11), (0, .class_ 12), (0, .nameAndType 13 14), (0, u "com/example/bit0/bit0/table/FingerprintTableSetPinLaw"), (0, u "part"), (0, u "(JJI)J"), (0, .integer 2147483647), (0, .long 2), (1, .class_ 19), (0, u "com/example/bit0/bit0/table/FingerprintTable"), (0, .methodref 18 21), (0, .nameAndType 5 22), (0, u "(JI)V"), (0, .methodref 18 24), (0, .nameAndType 25 26), (0, u "set"), (0, u "(JJ)V"), (0, .long 63), (1, .methodref 18 30), (0, .nameAndType 31 32), (0, u "word"), (0, u "(I)J"), (0, .methodref 10 34), (0, .nameAndType 35 36), (0, u "expected"), (0, u "(JJJJJI)J"), (3, u "law"), (0, u "(IIJJJJ)Z")] 2

def k1m0 : Method := { name := "<init>", desc := "()V", sig := { parameters := [], returnType := none }, accessFlags := 1, code := none }
def k1c1 : Code := { maxStack := 4, maxLocals := 9, code := method_2_code, exceptionTable := #[], attributes := #[] }
def k1m1 : Method := { name := "part", desc := "(JJI)J", sig := { parameters := [.long, .long, .int], returnType := some .long }, accessFlags := 10, code := some k1c1 }
def k1c2 : Code := { maxStack := 10, maxLocals := 11, code := method_3_code, exceptionTable := #[], attributes := #[] }
def k1m2 : Method := { name := "expected", desc := "(JJJJJI)J", sig := { parameters := [.long, .long, .long, .long, .long, .int], returnType := some .long }, accessFlags := 10, code := some k1c2 }
def k1c3 : Code := { maxStack := 13, maxLocals := 28, code := code, exceptionTable := #[], attributes := #[] }
def k1m3 : Method := { name := "law", desc := "(IIJJJJ)Z", sig := { parameters := [.int, .int, .long, .long, .long, .long], returnType := some .boolean }, accessFlags := 9, code := some k1c3 }
/-- com/example/bit0/bit0/table/FingerprintTableSetPinLaw -/
def k1 : Class := { plain "com/example/bit0/bit0/table/FingerprintTableSetPinLaw" (some 0) with
  accessFlags := 49
  interfaces := #[]
  cf := some (fileOf pool1 10 #[] #[{ accessFlags := 1, nameIndex := 5, descriptorIndex := 6, attributes := #[] }, { accessFlags := 10, nameIndex := 13, descriptorIndex := 14, attributes := #[] }, { accessFlags := 10, nameIndex := 35, descriptorIndex := 36, attributes := #[] }, { accessFlags := 9, nameIndex := 40, descriptorIndex := 41, attributes := #[] }] 49 2 #[] #[])
  fields := #[]
  methods := #[k1m0, k1m1, k1m2, k1m3]
  instanceTypes := #[]
  staticTypes := #[]
  resolved := Array.replicate 44 none
  statics := none }

def pool2 : Array CpInfo := pool [(3, .methodref 4 5), (0, .class_ 6), (0, .nameAndType 7 8), (0, u "java/lang/Object"), (0, u "<init>"), (0, u "()V"), (0, .methodref 10 11), (0, .class_ 12), (0, .nameAndType 13 14), (0, u "com/example/bit0/bit0/table/FingerprintTable"), (0, u "wordCount"), (0, u "(JI)I"), (0, .fieldref 10 16), (0, .nameAndType 17 18), (0, u "words"), (0, u "[J"), (0, .fieldref 10 20), (0, .nameAndType 21 22), (0, u "size"), (0, u "J"), (0, .fieldref 10 24), (0, .nameAndType 25 26), (0, u "width"), (0, u "I"), (0, .fieldref 10 28), (0, .nameAndType 29 22), (0, u "mask"), (12, .long 137438952896), (6, .long 64), (1, .long 18446744073709551615), (5, u "MAX_WIDTH"), (2, u "MAX_BITS"), (0, u "(JI)V"), (7, u "word"), (0, u "(I)J"), (0, u "set"), (0, u "(JJ)V")] 22

def k2c0 : Code := { maxStack := 5, maxLocals := 4, code := prog_27_method_1_code, exceptionTable := #[], attributes := #[] }
def k2m0 : Method := { name := "<init>", desc := "(JI)V", sig := { parameters := [.long, .int], returnType := none }, accessFlags := 1, code := some k2c0 }
def k2c1 : Code := { maxStack := 7, maxLocals := 3, code := prog_27_method_3_code, exceptionTable := #[], attributes := #[] }
def k2m1 : Method := { name := "wordCount", desc := "(JI)I", sig := { parameters := [.long, .int], returnType := some .int }, accessFlags := 10, code := some k2c1 }
def k2c2 : Code := { maxStack := 2, maxLocals := 2, code := prog_27_method_6_code, exceptionTable := #[], attributes := #[] }
def k2m2 : Method := { name := "word", desc := "(I)J", sig := { parameters := [.int], returnType := some .long }, accessFlags := 1, code := some k2c2 }
def k2c3 : Code := { maxStack := 8, maxLocals := 9, code := prog_27_method_8_code, exceptionTable := #[], attributes := #[] }
def k2m3 : Method := { name := "set", desc := "(JJ)V", sig := { parameters := [.long, .long], returnType := none }, accessFlags := 1, code := some k2c3 }
/-- com/example/bit0/bit0/table/FingerprintTable -/
def k2 : Class := { plain "com/example/bit0/bit0/table/FingerprintTable" (some 0) with
  accessFlags := 33
  interfaces := #[]
  cf := some (fileOf pool2 10 #[] #[{ accessFlags := 1, nameIndex := 7, descriptorIndex := 61, attributes := #[] }, { accessFlags := 10, nameIndex := 13, descriptorIndex := 14, attributes := #[] }, { accessFlags := 1, nameIndex := 69, descriptorIndex := 70, attributes := #[] }, { accessFlags := 1, nameIndex := 71, descriptorIndex := 72, attributes := #[] }] 33 4 #[] #[{ accessFlags := 25, nameIndex := 57, descriptorIndex := 26, attributes := #[] }, { accessFlags := 25, nameIndex := 60, descriptorIndex := 22, attributes := #[] }, { accessFlags := 18, nameIndex := 17, descriptorIndex := 18, attributes := #[] }, { accessFlags := 18, nameIndex := 21, descriptorIndex := 22, attributes := #[] }, { accessFlags := 18, nameIndex := 25, descriptorIndex := 26, attributes := #[] }, { accessFlags := 18, nameIndex := 29, descriptorIndex := 22, attributes := #[] }])
  fields := #[{ name := "MAX_WIDTH", type := .int, accessFlags := 25, slot := 0, constantValue := 0 }, { name := "MAX_BITS", type := .long, accessFlags := 25, slot := 1, constantValue := 0 }, { name := "words", type := (.array .long), accessFlags := 18, slot := 0, constantValue := 0 }, { name := "size", type := .long, accessFlags := 18, slot := 1, constantValue := 0 }, { name := "width", type := .int, accessFlags := 18, slot := 2, constantValue := 0 }, { name := "mask", type := .long, accessFlags := 18, slot := 3, constantValue := 0 }]
  methods := #[k2m0, k2m1, k2m2, k2m3]
  instanceTypes := #[(.array .long), .long, .int, .long]
  staticTypes := #[.int, .long]
  resolved := Array.replicate 95 none
  statics := none }

def pool3 : Array CpInfo := pool [(1, u "java/lang/Cloneable"), (0, .class_ 1), (0, u "java/lang/Object"), (0, .class_ 3)] 3

/-- java/lang/Cloneable -/
def k3 : Class := { plain "java/lang/Cloneable" (some 0) with
  accessFlags := 1537
  interfaces := #[]
  cf := some (fileOf pool3 2 #[] #[] 1537 4 #[] #[])
  fields := #[]
  methods := #[]
  instanceTypes := #[]
  staticTypes := #[]
  resolved := Array.replicate 8 none
  statics := none }

def pool4 : Array CpInfo := pool [(1, u "java/io/Serializable"), (0, .class_ 1), (0, u "java/lang/Object"), (0, .class_ 3)] 3

/-- java/io/Serializable -/
def k4 : Class := { plain "java/io/Serializable" (some 0) with
  accessFlags := 1537
  interfaces := #[]
  cf := some (fileOf pool4 2 #[] #[] 1537 4 #[] #[])
  fields := #[]
  methods := #[]
  instanceTypes := #[]
  staticTypes := #[]
  resolved := Array.replicate 8 none
  statics := none }

/-- the primitive byte -/
def k5 : Class := { plain "byte" none with kind := .primitive 'B', accessFlags := 0x411 }
/-- [B -/
def k6 : Class := { plain "[B" (some 0) with kind := .array 5 .byte, interfaces := #[3, 4], accessFlags := 1041 }

/-- the primitive int -/
def k7 : Class := { plain "int" none with kind := .primitive 'I', accessFlags := 0x411 }
/-- [I -/
def k8 : Class := { plain "[I" (some 0) with kind := .array 7 .int, interfaces := #[3, 4], accessFlags := 1041 }

/-- the primitive long -/
def k9 : Class := { plain "long" none with kind := .primitive 'J', accessFlags := 0x411 }
/-- [J -/
def k10 : Class := { plain "[J" (some 0) with kind := .array 9 .long, interfaces := #[3, 4], accessFlags := 1041 }

def heap : Heap := #[]
def classes : Array Class := #[k0, k1, k2, k3, k4, k5, k6, k7, k8, k9, k10]
def interned : List (Array UInt16 × Addr) := []
def slotsUsed : Nat := 0
def theMethod : MethodId := ⟨1, 3⟩
def args0 : Array Value := #[.int 5, .int 3, .long 2, .long 1, .long 9, .long 7]
def aboutOver (below : List Frame) : State where
  vm := { classes := classes, interned := interned.toArray }
  heap := heap
  slotsUsed := slotsUsed
  threads := #[{ frames := .invoking theMethod args0 :: below }]
def below0 : List Frame := [.native { method := ⟨0, 0⟩, args := #[] }]
def about1 : State := aboutOver below0
def p0 : Program := .bare "" "" ""
def e0 : Env := launch0.env 0 0 0
theorem w_frames : about1.frames = Frame.invoking theMethod args0 :: below0 := rfl
set_option maxRecDepth 65536 in
theorem w_args : argsFit about1.vm theMethod args0 = true := by decide +kernel
set_option maxRecDepth 65536 in
theorem w_heap : heapFits about1 = true := by decide +kernel
set_option maxRecDepth 65536 in
theorem w_runnable : about1.curStatus? = some .runnable := by decide +kernel
set_option maxRecDepth 65536 in
theorem w_alone : about1.alone = true := by decide +kernel
set_option maxRecDepth 65536 in
theorem w_named : about1.methodNamed? x = some theMethod := by decide +kernel
set_option maxRecDepth 65536 in
theorem w_hears : about1.hears theMethod below0 = true := by decide +kernel
set_option maxRecDepth 65536 in
theorem w_ripe : about1.ripe theMethod args0 below0 = true := by decide +kernel
theorem w_running : about1.status = .running := rfl
set_option maxRecDepth 65536 in
theorem w_room : about1.hasRoom e0.platform room_1 = true :=
  launch0.hasRoom_least _ room_1 (by decide +kernel) (by decide +kernel) (by decide +kernel) (by decide +kernel) (by decide +kernel) (by decide +kernel)
theorem allAtoms_all (ts : List Jvm.Cond) (a : Array Jvm.Value) (st : Jvm.State) : (allAtoms ts).before a st = ts.all (fun c => c.before a st) := by
  induction ts with
  | nil => rfl
  | cons c t ih =>
    show (Jvm.Cond.and c (allAtoms t)).before a st = _
    rw [Jvm.Cond.before_and, ih, List.all_cons]
def words1 : List Jvm.Cond := Jvm.Cond.code x code maxLocals ret :: tables_1
/-- a 'code' word, met by the world's own term for the bytes: nothing is compared byte by byte -/
theorem code_word {y : MethodName} {bytes : ByteArray} {mx : Nat} {rt : Option FieldType} {a : Array Value} {s : State} {m : MethodId} {meth : Method} {c : Code} (h1 : s.methodNamed? y = some m) (h2 : s.vm.method? m = some meth) (h3 : meth.code = some c) (h4 : c.code = bytes)
    (h5 : (c.maxLocals == mx && c.exceptionTable.isEmpty && decide (c.maxStack ≤ mostOperands) && decide (meth.sig.returnType = rt) && !meth.locks && decide (parseMethodDescriptor y.desc = some meth.sig)) = true) : (Jvm.Cond.code y bytes mx rt).before a s = true := by
  simp only [Bool.and_eq_true, beq_iff_eq, Bool.not_eq_true', decide_eq_true_eq] at h5
  obtain ⟨⟨⟨⟨⟨g1, g2⟩, g3⟩, g4⟩, g5⟩, g6⟩ := h5
  simp [Cond.before, Cond.holds, Cond.value, h1, h2, h3, h4, g1, g2, g3, g4, g5, g6]
def isCode : Jvm.Cond → Bool
  | .code _ _ _ _ => true
  | _ => false
theorem all_split {L : List Jvm.Cond} {P : Jvm.Cond → Bool} (h1 : L.all (fun c => isCode c || P c) = true) (h2 : ∀ c ∈ L.filter isCode, P c = true) : L.all P = true := by
  refine List.all_eq_true.mpr fun c hc => ?_
  have h := List.all_eq_true.mp h1 c hc
  rcases Bool.eq_false_or_eq_true (isCode c) with hi | hi
  · exact h2 c (List.mem_filter.mpr ⟨hc, hi⟩)
  · simpa [hi] using h
set_option maxRecDepth 65536 in
theorem w_c0 : (Jvm.Cond.code x code maxLocals ret).before args0 about1 = true := code_word (m := ⟨1, 3⟩) (meth := k1m3) (c := k1c3) (by decide +kernel) rfl rfl rfl (by decide +kernel)
set_option maxRecDepth 65536 in
theorem w_c1 : (Jvm.Cond.code ({ cls := "com/example/bit0/bit0/table/FingerprintTable", name := "<init>", desc := "(JI)V" } : Jvm.MethodName) prog_27_method_1_code (4 : Nat) (Option.none : Option Jvm.ClassFile.FieldType)).before args0 about1 = true := code_word (m := ⟨2, 0⟩) (meth := k2m0) (c := k2c0) (by decide +kernel) rfl rfl rfl (by decide +kernel)
set_option maxRecDepth 65536 in
theorem w_c2 : (Jvm.Cond.code ({ cls := "java/lang/Object", name := "<init>", desc := "()V" } : Jvm.MethodName) object_method_1_code (1 : Nat) (Option.none : Option Jvm.ClassFile.FieldType)).before args0 about1 = true := code_word (m := ⟨0, 0⟩) (meth := k0m0) (c := k0c0) (by decide +kernel) rfl rfl rfl (by decide +kernel)
set_option maxRecDepth 65536 in
theorem w_c3 : (Jvm.Cond.code ({ cls := "com/example/bit0/bit0/table/FingerprintTable", name := "wordCount", desc := "(JI)I" } : Jvm.MethodName) prog_27_method_3_code (3 : Nat) (Option.some Jvm.ClassFile.FieldType.int)).before args0 about1 = true := code_word (m := ⟨2, 1⟩) (meth := k2m1) (c := k2c1) (by decide +kernel) rfl rfl rfl (by decide +kernel)
set_option maxRecDepth 65536 in
theorem w_c4 : (Jvm.Cond.code ({ cls := "com/example/bit0/bit0/table/FingerprintTable", name := "set", desc := "(JJ)V" } : Jvm.MethodName) prog_27_method_8_code (9 : Nat) (Option.none : Option Jvm.ClassFile.FieldType)).before args0 about1 = true := code_word (m := ⟨2, 3⟩) (meth := k2m3) (c := k2c3) (by decide +kernel) rfl rfl rfl (by decide +kernel)
set_option maxRecDepth 65536 in
theorem w_c5 : (Jvm.Cond.code ({ cls := "com/example/bit0/bit0/table/FingerprintTable", name := "word", desc := "(I)J" } : Jvm.MethodName) prog_27_method_6_code (2 : Nat) (Option.some Jvm.ClassFile.FieldType.long)).before args0 about1 = true := code_word (m := ⟨2, 2⟩) (meth := k2m2) (c := k2c2) (by decide +kernel) rfl rfl rfl (by decide +kernel)
set_option maxRecDepth 65536 in
theorem w_c6 : (Jvm.Cond.code ({ cls := "com/example/bit0/bit0/table/FingerprintTableSetPinLaw", name := "expected", desc := "(JJJJJI)J" } : Jvm.MethodName) method_3_code (11 : Nat) (Option.some Jvm.ClassFile.FieldType.long)).before args0 about1 = true := code_word (m := ⟨1, 2⟩) (meth := k1m2) (c := k1c2) (by decide +kernel) rfl rfl rfl (by decide +kernel)
set_option maxRecDepth 65536 in
theorem w_c7 : (Jvm.Cond.code ({ cls := "com/example/bit0/bit0/table/FingerprintTableSetPinLaw", name := "part", desc := "(JJI)J" } : Jvm.MethodName) method_2_code (9 : Nat) (Option.some Jvm.ClassFile.FieldType.long)).before args0 about1 = true := code_word (m := ⟨1, 1⟩) (meth := k1m1) (c := k1c1) (by decide +kernel) rfl rfl rfl (by decide +kernel)
def codes1 : List Jvm.Cond := [Jvm.Cond.code x code maxLocals ret, Jvm.Cond.code ({ cls := "com/example/bit0/bit0/table/FingerprintTable", name := "<init>", desc := "(JI)V" } : Jvm.MethodName) prog_27_method_1_code (4 : Nat) (Option.none : Option Jvm.ClassFile.FieldType), Jvm.Cond.code ({ cls := "java/lang/Object", name := "<init>", desc := "()V" } : Jvm.MethodName) object_method_1_code (1 : Nat) (Option.none : Option Jvm.ClassFile.FieldType), Jvm.Cond.code ({ cls := "com/example/bit0/bit0/table/FingerprintTable", name := "wordCount", desc := "(JI)I" } : Jvm.MethodName) prog_27_method_3_code (3 : Nat) (Option.some Jvm.ClassFile.FieldType.int), Jvm.Cond.code ({ cls := "com/example/bit0/bit0/table/FingerprintTable", name := "set", desc := "(JJ)V" } : Jvm.MethodName) prog_27_method_8_code (9 : Nat) (Option.none : Option Jvm.ClassFile.FieldType), Jvm.Cond.code ({ cls := "com/example/bit0/bit0/table/FingerprintTable", name := "word", desc := "(I)J" } : Jvm.MethodName) prog_27_method_6_code (2 : Nat) (Option.some Jvm.ClassFile.FieldType.long), Jvm.Cond.code ({ cls := "com/example/bit0/bit0/table/FingerprintTableSetPinLaw", name := "expected", desc := "(JJJJJI)J" } : Jvm.MethodName) method_3_code (11 : Nat) (Option.some Jvm.ClassFile.FieldType.long), Jvm.Cond.code ({ cls := "com/example/bit0/bit0/table/FingerprintTableSetPinLaw", name := "part", desc := "(JJI)J" } : Jvm.MethodName) method_2_code (9 : Nat) (Option.some Jvm.ClassFile.FieldType.long)]
set_option maxRecDepth 65536 in
theorem codes_eq : words1.filter isCode = codes1 := rfl
theorem w_codes : ∀ c ∈ words1.filter isCode, c.before args0 about1 = true := by
  rw [codes_eq]
  intro c hc
  simp only [codes1, List.mem_cons, List.not_mem_nil, or_false] at hc
  rcases hc with rfl | rfl | rfl | rfl | rfl | rfl | rfl | rfl
  · exact w_c0
  · exact w_c1
  · exact w_c2
  · exact w_c3
  · exact w_c4
  · exact w_c5
  · exact w_c6
  · exact w_c7
set_option maxRecDepth 65536 in
theorem w_t1 : (words1.take 24).all (fun c => isCode c || c.before args0 about1) = true := by decide +kernel
set_option maxRecDepth 65536 in
theorem w_t2 : (words1.drop 24).all (fun c => isCode c || c.before args0 about1) = true := by decide +kernel
theorem w_tables : (allAtoms (Jvm.Cond.code x code maxLocals ret :: tables_1)).before args0 about1 = true := by
  rw [allAtoms_all]
  show words1.all (fun c => c.before args0 about1) = true
  refine all_split ?_ w_codes
  rw [← List.take_append_drop 24 words1, List.all_append, w_t1, w_t2]
  rfl
set_option maxRecDepth 65536 in
theorem w_case : (Jvm.Cond.and given_1 narrow_1).before args0 about1 = true := by decide +kernel
theorem w_applies : (headSpec (Jvm.Cond.code x code maxLocals ret :: tables_1) room_1).applies x e0.platform about1 = true :=
  (Spec.applies_iff w_frames).mpr ⟨w_running, w_runnable, w_alone, w_named, w_hears, w_ripe, w_room, w_tables⟩
theorem atStart : AtStart classFile x code maxLocals ret World_1 tables_1 room_1 Calls_1 rest_1 Pre_1 launch0 p0 e0 about1 theMethod args0 below0 :=
  ⟨lists_1, trivial, launch0.admits_env _ _ _, launch0.least_env, fairChoices_fair.cas, fairChoices_fair.clock, w_frames, w_args, w_heap, w_applies, trivial, trivial, w_case⟩
end start1
theorem witness_1 : WitnessClaimed_1 := ⟨start1.p0, start1.e0, start1.about1, start1.theMethod, start1.args0, start1.below0, start1.atStart⟩
end Jvm.Pilot.@@N@@
