import JvmDerived
import JvmDerived.Pilot.@@N@@Statement
import JvmDerived.Pilot.@@N@@Code
set_option linter.unusedVariables false
set_option linter.unusedSimpArgs false
@@BLOCK:NumsL.lean.txt@@
@@BLOCK:Masks.lean.txt@@
@@BLOCK:Nums.lean.txt@@
namespace Jvm.Pilot.@@N@@
open Jvm Jvm.ClassFile Sem Op Lib Jvm.Free Jvm.Stand Jvm.LawKit Jvm.RoadKit Bundle Jvm.Pilot.@@N@@.Jvm.D
section Own
variable {p : Program} {l : Launch} {e : Env} {R : Room} {s : State} {m : MethodId} {args : Array Value} {below : List Frame} {meth : Method} {c : Code} {T T' : State} {locs : List Loc} {cells slots : Nat} {Z : State} {h h' : Heap} {n0 : Nat} {a0 : Array Value} {CC SS : Nat} {Q : Option Value → Heap → List Loc → Prop} {g g' : JFrame} {pc : Nat} {Ls : Array Slot} {rest st : List Value}
/-- from here the run comes to its end, and Q holds there -/
def own_Run (p : Program) (e : Env) (below : List Frame) (s : State) (CC SS : Nat) (Q : Option Value → Heap → List Loc → Prop) (T : State) (g : JFrame) : Prop :=
  ∃ s₂ o, Steps p.tables e below (T.setTop g) s₂ ∧ s₂.status = .running ∧ Ended s₂ below o ∧ ∃ v L, o = .returned v ∧ Q v s₂.heap L ∧ FrameEnd s o s₂ L CC SS
theorem own_run (sp : ∀ t, Steps p.tables e below (T'.setTop g') t → Steps p.tables e below (T.setTop g) t) (r : own_Run p e below s CC SS Q T' g') : own_Run p e below s CC SS Q T g := by
  obtain ⟨s₂, o, h1, r⟩ := r; exact ⟨s₂, o, sp _ h1, r⟩
theorem own_enter {ml : Nat} (q : entryFrame m args ml = g) (r : own_Run p e below s CC SS Q T g) : ∃ s₂ o, Steps p.tables e below (T.setTop (entryFrame m args ml)) s₂ ∧ s₂.status = .running ∧ Ended s₂ below o ∧ ∃ v L, o = .returned v ∧ Q v s₂.heap L ∧ FrameEnd s o s₂ L CC SS := by rw [q]; exact r
theorem own_retN {t : FieldType} {z : Int32} (X : Stand p l e R s m args below meth c T locs cells slots) (hx : p.tables.exec = Jvm.exec) (hlk : meth.locks = false) (hret : meth.sig.returnType = some t) (ht : t = .boolean ∨ t = .byte ∨ t = .char ∨ t = .short) (hd : decode c.code pc = .ok (.ireturn, 1)) (hc : cells ≤ CC) (hs : slots ≤ SS) (q : Q (some (.int (nar t z))) T.heap locs) : own_Run p e below s CC SS Q T (mkF m pc Ls (.int z :: rest)) := by
  obtain ⟨fs, hr, hrun, hended, hW, hsame⟩ := X.leave (v := some (.int (nar t z))) (fun h => by rw [hret] at h; cases h) hlk
  exact ⟨_, _, retN X hx hret ht hd hr, hrun, hended, _, _, rfl, q, ⟨_, rfl⟩, hW, hsame.mono hc hs⟩
theorem own_retI {z : Int32} (X : Stand p l e R s m args below meth c T locs cells slots) (hx : p.tables.exec = Jvm.exec) (hlk : meth.locks = false) (hret : meth.sig.returnType = some .int) (hd : decode c.code pc = .ok (.ireturn, 1)) (hc : cells ≤ CC) (hs : slots ≤ SS) (q : Q (some (.int z)) T.heap locs) : own_Run p e below s CC SS Q T (mkF m pc Ls (.int z :: rest)) := by
  obtain ⟨fs, hr, hrun, hended, hW, hsame⟩ := X.leave (v := some (.int z)) (fun h => by rw [hret] at h; cases h) hlk
  refine ⟨_, _, ?_, hrun, hended, _, _, rfl, q, ⟨_, rfl⟩, hW, hsame.mono hc hs⟩
  have hm' : T.vm.method? m = some meth := X.method'
  have hn : narrow .int (.int z) = .int z := rfl
  show Steps p.tables e below (T.setTop { method := m, pc := pc, locals := Ls, stack := _ :: rest, locked := none }) _
  jvm_step X.here [X.here.top, hx, hd, hm', hret, hn]
  first | (intro acts; rw [hr _ acts rfl rfl rfl]) | rw [hr _ _ rfl rfl rfl]
  exact Steps.refl _
theorem own_retL {z : Int64} (X : Stand p l e R s m args below meth c T locs cells slots) (hx : p.tables.exec = Jvm.exec) (hlk : meth.locks = false) (hret : meth.sig.returnType = some .long) (hd : decode c.code pc = .ok (.lreturn, 1)) (hc : cells ≤ CC) (hs : slots ≤ SS) (q : Q (some (.long z)) T.heap locs) : own_Run p e below s CC SS Q T (mkF m pc Ls [.long z]) := by
  obtain ⟨fs, hr, hrun, hended, hW, hsame⟩ := X.leave (v := some (.long z)) (fun h => by rw [hret] at h; cases h) hlk
  exact ⟨_, _, X.lreturnOut hx hret hd hr, hrun, hended, _, _, rfl, q, ⟨_, rfl⟩, hW, hsame.mono hc hs⟩
theorem own_retV (X : Stand p l e R s m args below meth c T locs cells slots) (hx : p.tables.exec = Jvm.exec) (hlk : meth.locks = false) (hret : meth.sig.returnType = none) (hd : decode c.code pc = .ok (.return_, 1)) (hc : cells ≤ CC) (hs : slots ≤ SS) (q : Q none T.heap locs) : own_Run p e below s CC SS Q T (mkF m pc Ls []) := by
  obtain ⟨fs, hr, hrun, hended, hW, hsame⟩ := X.leave (v := none) (fun _ => rfl) hlk
  exact ⟨_, _, X.returnOut hx hret hd hr, hrun, hended, _, _, rfl, q, ⟨_, rfl⟩, hW, hsame.mono hc hs⟩
theorem own_retR {v : Value} {t : FieldType} (X : Stand p l e R s m args below meth c T locs cells slots) (hx : p.tables.exec = Jvm.exec) (hlk : meth.locks = false) (hret : meth.sig.returnType = some t) (ht : t.isReference = true) (hv : v.isRef = true) (hd : decode c.code pc = .ok (.areturn, 1)) (hc : cells ≤ CC) (hs : slots ≤ SS) (q : Q (some v) T.heap locs) : own_Run p e below s CC SS Q T (mkF m pc Ls (v :: rest)) := by
  obtain ⟨fs, hr, hrun, hended, hW, hsame⟩ := X.leave (v := some v) (fun h => by rw [hret] at h; cases h) hlk
  refine ⟨_, _, ?_, hrun, hended, _, _, rfl, q, ⟨_, rfl⟩, hW, hsame.mono hc hs⟩
  have hm' : T.vm.method? m = some meth := X.method'
  show Steps p.tables e below (T.setTop { method := m, pc := pc, locals := Ls, stack := _ :: rest, locked := none }) _
  jvm_step X.here [X.here.top, hx, hd, hm', hret, ht, hv]
  first | (intro acts; rw [hr _ acts rfl rfl rfl]) | rw [hr _ _ rfl rfl rfl]
  exact Steps.refl _
theorem own_clt {x y : Int64} (q : x < y) : ifCond.holds .lt (XT.cmpL x y) = true ∧ ifCond.holds .ge (XT.cmpL x y) = false := by
  have q' : XT.cmpL x y < 0 := (lw_lt x y).mpr q
  exact ⟨(if0 _ _).trans (tlt q').1, (if0 _ _).trans (tlt q').2.1⟩
theorem own_cnlt {x y : Int64} (q : ¬ x < y) : ifCond.holds .lt (XT.cmpL x y) = false ∧ ifCond.holds .ge (XT.cmpL x y) = true := by
  have q' : ¬ XT.cmpL x y < 0 := fun z => q ((lw_lt x y).mp z)
  exact ⟨(if0 _ _).trans (flt q').1, (if0 _ _).trans (flt q').2.1⟩
theorem own_cgt {x y : Int64} (q : y < x) : ifCond.holds .gt (XT.cmpL x y) = true ∧ ifCond.holds .le (XT.cmpL x y) = false := by
  have q' : 0 < XT.cmpL x y := (lw_gt x y).mpr q
  exact ⟨(if0 _ _).trans (tlt q').2.2.1, (if0 _ _).trans (tlt q').2.2.2⟩
theorem own_cngt {x y : Int64} (q : ¬ y < x) : ifCond.holds .gt (XT.cmpL x y) = false ∧ ifCond.holds .le (XT.cmpL x y) = true := by
  have q' : ¬ 0 < XT.cmpL x y := fun z => q ((lw_gt x y).mp z)
  exact ⟨(if0 _ _).trans (flt q').2.2.1, (if0 _ _).trans (flt q').2.2.2⟩
theorem own_ceq {x y : Int64} (q : x = y) : ifCond.holds .eq (XT.cmpL x y) = true ∧ ifCond.holds .ne (XT.cmpL x y) = false := by
  have q' : XT.cmpL x y = 0 := (lw_eq x y).mpr q
  exact ⟨(if0 _ _).trans (teq q').1, (if0 _ _).trans (teq q').2⟩
theorem own_cneq {x y : Int64} (q : ¬ x = y) : ifCond.holds .eq (XT.cmpL x y) = false ∧ ifCond.holds .ne (XT.cmpL x y) = true := by
  have q' : ¬ XT.cmpL x y = 0 := fun z => q ((lw_eq x y).mp z)
  exact ⟨(if0 _ _).trans (feq q').1, (if0 _ _).trans (feq q').2⟩
theorem own_rem (x y : Int32) : x - (x / y) * y = x % y := by
  have a := (x % y).toInt_lt; have b := (x % y).le_toInt
  rw [Int32.toInt_mod] at a b
  apply Int32.toInt_inj.mp
  rw [Int32.toInt_mod, Int32.toInt_sub, Int32.toInt_mul, Int32.toInt_div, Int.bmod_mul_bmod, Int.sub_bmod_bmod, Int.mul_comm, ← Int.tmod_def]
  exact Jvm.Kit.bmod32 b a
theorem own_irem {tb : Tables} [Ours tb] {e : Env} {below : List Frame} {T target : State} {m : MethodId} {c : Code} {g : JFrame} (h : At T m c below) (hx : tb.exec = Jvm.exec) (hg : g.method = m) {x y : Int32} {rest : List Value} (hd : decode c.code g.pc = .ok (.irem, 1)) (hs : g.stack = .int y :: .int x :: rest) (hy : y ≠ 0)
    (hr : Steps tb e below (T.setTop { g with pc := g.pc + 1, stack := .int (x % y) :: rest }) target) : Steps tb e below (T.setTop g) target := XS.irem h hx hg hd hs hy (by rw [own_rem]; exact hr)
theorem own_ldcI {own : String} {index : Nat} {x : Int32} (X : Stand p l e R s m args below meth c T locs cells slots) (hx : p.tables.exec = Jvm.exec) (hZ : Z.Warmed39 s.vm) (hown : s.vm.findClass own = some m.cls) (w : (Cond.constant own index x).before a0 Z = true) (hd : decode c.code pc = .ok (.ldc index, 2)) (k : own_Run p e below s CC SS Q T (mkF m (pc + 2) Ls (.int x :: rest))) : own_Run p e below s CC SS Q T (mkF m pc Ls rest) :=
  own_run (X.ldcInt hx hown (mvT hZ w) (g := mkF m pc Ls rest) rfl hd) k
theorem own_ldcwI {own : String} {index : Nat} {x : Int32} (X : Stand p l e R s m args below meth c T locs cells slots) (hx : p.tables.exec = Jvm.exec) (hZ : Z.Warmed39 s.vm) (hown : s.vm.findClass own = some m.cls) (w : (Cond.constant own index x).before a0 Z = true) (hd : decode c.code pc = .ok (.ldc_w index, 3)) (k : own_Run p e below s CC SS Q T (mkF m (pc + 3) Ls (.int x :: rest))) : own_Run p e below s CC SS Q T (mkF m pc Ls rest) :=
  own_run (X.ldcwInt hx hown (mvT hZ w) (g := mkF m pc Ls rest) rfl hd) k
theorem own_ldcL {own : String} {index : Nat} {x : Int64} (X : Stand p l e R s m args below meth c T locs cells slots) (hx : p.tables.exec = Jvm.exec) (hZ : Z.Warmed39 s.vm) (hown : s.vm.findClass own = some m.cls) (w : (Cond.constantLong own index x).before a0 Z = true) (hd : decode c.code pc = .ok (.ldc2_w index, 3)) (k : own_Run p e below s CC SS Q T (mkF m (pc + 3) Ls (.long x :: rest))) : own_Run p e below s CC SS Q T (mkF m pc Ls rest) :=
  own_run (X.ldc2Long hx hown (mvT hZ w) (g := mkF m pc Ls rest) rfl hd) k
/-- an array of ints or bytes: its length and what it holds -/
def own_A (Z : State) (h : Heap) (a : Addr) (ty : FieldType) (n : Int32) (xs : List Int32) : Prop :=
  xs.length = n.toNatClampNeg ∧ ∃ k, Arv Z h a k ty n (xs.map Value.int) (.int (0 : Int32))
variable {a b : Addr} {ty : FieldType} {n j x : Int32} {xs ys : List Int32} {sl : Nat} {v : Value} {ws : List Addr}
theorem own_A.lt (A : own_A Z h a ty n xs) : a < h.size := by obtain ⟨-, k, V⟩ := A; exact V.lt
theorem own_A.ext (A : own_A Z h a ty n xs) (E : Ext h h') : own_A Z h' a ty n xs := ⟨A.1, A.2.imp fun _ V => V.ext E⟩
theorem own_A.other (A : own_A Z h b ty n xs) (W : Wr h h' a sl v) (q : b ≠ a) : own_A Z h' b ty n xs := ⟨A.1, A.2.imp fun _ V => V.other W q⟩
theorem own_A.keep (A : own_A Z h a ty n xs) (K : Keep h h' ws) (q : a ∉ ws) : own_A Z h' a ty n xs := ⟨A.1, A.2.imp fun _ V => V.keep K q⟩
theorem own_A.nn (A : own_A Z h a ty n xs) : ¬ n < 0 := by obtain ⟨-, k, cl, -, -, -, q, -⟩ := A; exact q
theorem own_A.to (A : own_A Z h a ty n xs) (q : xs = ys) : own_A Z h a ty n ys := q ▸ A
theorem own_lt_clamp {j n : Int32} (hj : ¬ j < 0 ∧ j < n) : j.toNatClampNeg < n.toNatClampNeg := by
  obtain ⟨q1, q2⟩ := hj
  rw [Int32.lt_iff_toInt_lt] at q1 q2
  have e0 : (0 : Int32).toInt = 0 := rfl
  simp only [Int32.toNatClampNeg] at *; omega
theorem own_newA {aty : ArrayType} {cap : Nat} (X : Stand p l e R s m args below meth c T locs cells slots) (hx : p.tables.exec = Jvm.exec) (hZ : Z.Warmed39 s.vm) (w : (Cond.arrayClass (newarray.typeOf aty)).before a0 Z = true) (hty : newarray.typeOf aty = ty) (hdv : defaultValue ty = .int 0) (eT : T.heap = h) (hd : decode c.code pc = .ok (.newarray aty, 2)) (hn : ¬ n < 0) (hcap : n.toNatClampNeg ≤ cap) (hb : cap * 8 ≤ 536870912) (hc : cells + 1 ≤ R.cells) (hl : slots + cap ≤ R.slots)
    (k : ∀ T' h' b, b = h.size → Stand p l e R s m args below meth c T' locs (cells + 1) (slots + cap) → T'.heap = h' → Ext h h' → own_A Z h' b ty n (List.replicate n.toNatClampNeg 0) → own_Run p e below s CC SS Q T' (mkF m (pc + 2) Ls (.ref b :: rest))) :
    own_Run p e below s CC SS Q T (mkF m pc Ls (.int n :: rest)) := by
  obtain ⟨T', h', cA, X', e', E', A', sp⟩ := newP X hx hZ w eT (g := mkF m pc Ls (.int n :: rest)) rfl hd rfl hn hcap hb hc hl
  subst hty
  refine own_run sp (k T' h' _ rfl X' e' E' ⟨by simp, cA, ?_⟩)
  have V := Arv.new A' hn
  rw [hdv] at V
  have q := V.pad (pad_rep [] (.int 0) n.toNatClampNeg)
  simpa using q
theorem own_len (X : Stand p l e R s m args below meth c T locs cells slots) (hx : p.tables.exec = Jvm.exec) (hZ : Z.Warmed39 s.vm) (eT : T.heap = h) (A : own_A Z h a ty n xs) (hd : decode c.code pc = .ok (.arraylength, 1)) (k : own_Run p e below s CC SS Q T (mkF m (pc + 1) Ls (.int n :: rest))) : own_Run p e below s CC SS Q T (mkF m pc Ls (.ref a :: rest)) := by
  obtain ⟨hl, kk, cl, Ar, q1, Sz, Nn, H, G⟩ := A
  refine own_run (fun t kt => X.arraylength hx (by rw [eT]; exact Ar.1) (State.isArrayOf_alike hZ.alike Ar.2.1) (g := mkF m pc Ls (.ref a :: rest)) rfl rfl hd t (by rw [len_of Sz Nn]; exact kt)) k
theorem own_getD (xs : List Int32) (i : Nat) : (xs.map Value.int).getD i (.int 0) = .int (xs.getD i 0) := by
  simp only [List.getD_eq_getElem?_getD, List.getElem?_map]; cases xs[i]? <;> rfl
theorem own_ldI (X : Stand p l e R s m args below meth c T locs cells slots) (hx : p.tables.exec = Jvm.exec) (hZ : Z.Warmed39 s.vm) (eT : T.heap = h) (A : own_A Z h a .int n xs) (hj : ¬ j < 0 ∧ j < n) (hd : decode c.code pc = .ok (.iaload, 1)) (hv : xs.getD j.toNatClampNeg 0 = x) (k : own_Run p e below s CC SS Q T (mkF m (pc + 1) Ls (.int x :: rest))) : own_Run p e below s CC SS Q T (mkF m pc Ls (.int j :: .ref a :: rest)) := by
  obtain ⟨hl, kk, cl, Ar, q1, Sz, Nn, H, G⟩ := A
  have hin := inb_of Sz hj
  refine own_run (fun t kt => X.iaload hx (j := j) (v := .int x) (by rw [eT]; exact Ar.1) (State.isArrayOf_alike hZ.alike Ar.2.1) Ar.2.2 hin (H.at hin (by rw [own_getD, hv])) (g := mkF m pc Ls (.int j :: .ref a :: rest)) rfl rfl hd t kt) k
theorem own_ldB (X : Stand p l e R s m args below meth c T locs cells slots) (hx : p.tables.exec = Jvm.exec) (hZ : Z.Warmed39 s.vm) (eT : T.heap = h) (A : own_A Z h a .byte n xs) (hj : ¬ j < 0 ∧ j < n) (hd : decode c.code pc = .ok (.baload, 1)) (hv : xs.getD j.toNatClampNeg 0 = x) (k : own_Run p e below s CC SS Q T (mkF m (pc + 1) Ls (.int x :: rest))) : own_Run p e below s CC SS Q T (mkF m pc Ls (.int j :: .ref a :: rest)) := by
  obtain ⟨hl, kk, cl, Ar, q1, Sz, Nn, H, G⟩ := A
  have hin := inb_of Sz hj
  refine own_run (fun t kt => X.baloadBytes hx (j := j) (v := .int x) (by rw [eT]; exact Ar.1) (State.isArrayOf_alike hZ.alike Ar.2.1) Ar.2.2 hin (H.at hin (by rw [own_getD, hv])) (g := mkF m pc Ls (.int j :: .ref a :: rest)) rfl rfl hd t kt) k
theorem own_map_set (xs : List Int32) (i : Nat) (x : Int32) : (xs.map Value.int).set i (.int x) = (xs.set i x).map Value.int := by rw [List.map_set]
theorem own_stI (X : Stand p l e R s m args below meth c T locs cells slots) (hx : p.tables.exec = Jvm.exec) (hZ : Z.Warmed39 s.vm) (eT : T.heap = h) (A : own_A Z h a .int n xs) (hj : ¬ j < 0 ∧ j < n) (N : Fr n0 locs) (ga : n0 ≤ a) (hd : decode c.code pc = .ok (.iastore, 1)) (hys : xs.set j.toNatClampNeg x = ys)
    (k : ∀ T' h' locs', Stand p l e R s m args below meth c T' locs' cells slots → Fr n0 locs' → T'.heap = h' → Wr h h' a j.toNatClampNeg (.int x) → own_A Z h' a .int n ys → own_Run p e below s CC SS Q T' (mkF m (pc + 1) Ls rest)) : own_Run p e below s CC SS Q T (mkF m pc Ls (.int x :: .int j :: .ref a :: rest)) := by
  obtain ⟨hl, kk, cl, Ar, q1, Sz, Nn, H, G⟩ := A
  have hin := inb_of Sz hj
  obtain ⟨T', h', X', e', W, sp⟩ := stI X hx hZ eT Ar (j := j) (x := x) hin (g := mkF m pc Ls (.int x :: .int j :: .ref a :: rest)) rfl rfl hd
  have V := Arv.set Ar q1 Sz Nn H G (show fits .int (.int x) = true from rfl) W _ rfl (by rw [List.length_map, hl]; exact own_lt_clamp hj)
  refine own_run sp (k T' h' _ X' (Fr.snoc X' N ga) e' W ⟨by rw [← hys, List.length_set]; exact hl, kk, ?_⟩)
  rw [← hys, ← own_map_set]; exact V
theorem own_stB (X : Stand p l e R s m args below meth c T locs cells slots) (hx : p.tables.exec = Jvm.exec) (hZ : Z.Warmed39 s.vm) (eT : T.heap = h) (A : own_A Z h a .byte n xs) (hj : ¬ j < 0 ∧ j < n) (N : Fr n0 locs) (ga : n0 ≤ a) (hd : decode c.code pc = .ok (.bastore, 1)) (hys : xs.set j.toNatClampNeg (nar .byte x) = ys)
    (k : ∀ T' h' locs', Stand p l e R s m args below meth c T' locs' cells slots → Fr n0 locs' → T'.heap = h' → Wr h h' a j.toNatClampNeg (.int (nar .byte x)) → own_A Z h' a .byte n ys → own_Run p e below s CC SS Q T' (mkF m (pc + 1) Ls rest)) : own_Run p e below s CC SS Q T (mkF m pc Ls (.int x :: .int j :: .ref a :: rest)) := by
  obtain ⟨hl, kk, cl, Ar, q1, Sz, Nn, H, G⟩ := A
  have hin := inb_of Sz hj
  obtain ⟨T', h', X', e', W, sp⟩ := stB X hx hZ eT Ar (j := j) (x := x) hin (g := mkF m pc Ls (.int x :: .int j :: .ref a :: rest)) rfl rfl hd
  have V := Arv.set Ar q1 Sz Nn H G (fits_nar_byte x) W _ rfl (by rw [List.length_map, hl]; exact own_lt_clamp hj)
  refine own_run sp (k T' h' _ X' (Fr.snoc X' N ga) e' W ⟨by rw [← hys, List.length_set]; exact hl, kk, ?_⟩)
  rw [← hys, ← own_map_set]; exact V
/-- an array of which only the length is said -/
def own_L (Z : State) (h : Heap) (a : Addr) (n : Int32) : Prop := ∃ (ty : FieldType) (k : ClassId) (vs : List Value) (d : Value), Arv Z h a k ty n vs d
theorem own_L.lt (A : own_L Z h a n) : a < h.size := by obtain ⟨_, _, _, _, V⟩ := A; exact V.lt
theorem own_L.ext (A : own_L Z h a n) (E : Ext h h') : own_L Z h' a n := by obtain ⟨_, _, _, _, V⟩ := A; exact ⟨_, _, _, _, V.ext E⟩
theorem own_L.other (A : own_L Z h b n) (W : Wr h h' a sl v) (q : b ≠ a) : own_L Z h' b n := by obtain ⟨_, _, _, _, V⟩ := A; exact ⟨_, _, _, _, V.other W q⟩
theorem own_L.keep (A : own_L Z h a n) (K : Keep h h' ws) (q : a ∉ ws) : own_L Z h' a n := by obtain ⟨_, _, _, _, V⟩ := A; exact ⟨_, _, _, _, V.keep K q⟩
theorem own_A.toL (A : own_A Z h a ty n xs) : own_L Z h a n := by obtain ⟨-, k, V⟩ := A; exact ⟨_, _, _, _, V⟩
theorem own_newL {aty : ArrayType} {cap : Nat} (X : Stand p l e R s m args below meth c T locs cells slots) (hx : p.tables.exec = Jvm.exec) (hZ : Z.Warmed39 s.vm) (w : (Cond.arrayClass (newarray.typeOf aty)).before a0 Z = true) (eT : T.heap = h) (hd : decode c.code pc = .ok (.newarray aty, 2)) (hn : ¬ n < 0) (hcap : n.toNatClampNeg ≤ cap) (hb : cap * 8 ≤ 536870912) (hc : cells + 1 ≤ R.cells) (hl : slots + cap ≤ R.slots)
    (k : ∀ T' h' b, b = h.size → Stand p l e R s m args below meth c T' locs (cells + 1) (slots + cap) → T'.heap = h' → Ext h h' → own_L Z h' b n → own_Run p e below s CC SS Q T' (mkF m (pc + 2) Ls (.ref b :: rest))) :
    own_Run p e below s CC SS Q T (mkF m pc Ls (.int n :: rest)) := by
  obtain ⟨T', h', cA, X', e', E', A', sp⟩ := newP X hx hZ w eT (g := mkF m pc Ls (.int n :: rest)) rfl hd rfl hn hcap hb hc hl
  exact own_run sp (k T' h' _ rfl X' e' E' ⟨_, _, _, _, Arv.new A' hn⟩)
theorem own_lenL (X : Stand p l e R s m args below meth c T locs cells slots) (hx : p.tables.exec = Jvm.exec) (hZ : Z.Warmed39 s.vm) (eT : T.heap = h) (A : own_L Z h a n) (hd : decode c.code pc = .ok (.arraylength, 1)) (k : own_Run p e below s CC SS Q T (mkF m (pc + 1) Ls (.int n :: rest))) : own_Run p e below s CC SS Q T (mkF m pc Ls (.ref a :: rest)) := by
  obtain ⟨ty, kk, vs, d, cl, Ar, q1, Sz, Nn, H, G⟩ := A
  refine own_run (fun t kt => X.arraylength hx (by rw [eT]; exact Ar.1) (State.isArrayOf_alike hZ.alike Ar.2.1) (g := mkF m pc Ls (.ref a :: rest)) rfl rfl hd t (by rw [len_of Sz Nn]; exact kt)) k
/-- an array of references that holds nothing but null -/
def own_U (Z : State) (h : Heap) (a : Addr) (n : Int32) : Prop := ∃ (C : String) (k : ClassId), Arv Z h a k (.object C) n [] .null
theorem own_U.lt (A : own_U Z h a n) : a < h.size := by obtain ⟨_, _, V⟩ := A; exact V.lt
theorem own_U.ext (A : own_U Z h a n) (E : Ext h h') : own_U Z h' a n := by obtain ⟨_, _, V⟩ := A; exact ⟨_, _, V.ext E⟩
theorem own_U.toL (A : own_U Z h a n) : own_L Z h a n := by obtain ⟨_, _, V⟩ := A; exact ⟨_, _, _, _, V⟩
theorem own_newU {own K : String} {index cap : Nat} (X : Stand p l e R s m args below meth c T locs cells slots) (hx : p.tables.exec = Jvm.exec) (hZ : Z.Warmed39 s.vm) (hown : s.vm.findClass own = some m.cls) (w1 : (Cond.classLink own index K).before a0 Z = true) (w2 : (Cond.arrayOver (.object K)).before a0 Z = true) (eT : T.heap = h) (hd : decode c.code pc = .ok (.anewarray index, 3)) (hn : ¬ n < 0) (hcap : n.toNatClampNeg ≤ cap) (hb : cap * 8 ≤ 536870912) (hc : cells + 1 ≤ R.cells) (hl : slots + cap ≤ R.slots)
    (k : ∀ T' h' b, b = h.size → Stand p l e R s m args below meth c T' locs (cells + 1) (slots + cap) → T'.heap = h' → Ext h h' → own_U Z h' b n → own_Run p e below s CC SS Q T' (mkF m (pc + 3) Ls (.ref b :: rest))) :
    own_Run p e below s CC SS Q T (mkF m pc Ls (.int n :: rest)) := by
  obtain ⟨T', h', cA, X', e', E', A', -, sp⟩ := newR X hx hZ hown w1 w2 eT (g := mkF m pc Ls (.int n :: rest)) rfl hd rfl hn hcap hb hc hl
  exact own_run sp (k T' h' _ rfl X' e' E' ⟨_, _, Arv.new A' hn⟩)
theorem own_ldU (X : Stand p l e R s m args below meth c T locs cells slots) (hx : p.tables.exec = Jvm.exec) (hZ : Z.Warmed39 s.vm) (eT : T.heap = h) (A : own_U Z h a n) (hj : ¬ j < 0 ∧ j < n) (hd : decode c.code pc = .ok (.aaload, 1)) (k : own_Run p e below s CC SS Q T (mkF m (pc + 1) Ls (.null :: rest))) : own_Run p e below s CC SS Q T (mkF m pc Ls (.int j :: .ref a :: rest)) := by
  obtain ⟨C, kk, cl, Ar, q1, Sz, Nn, H, G⟩ := A
  have hin := inb_of Sz hj
  refine own_run (fun t kt => X.aaload hx (j := j) (v := .null) (by rw [eT]; exact Ar.1) (State.isArrayOf_alike hZ.alike Ar.2.1) rfl Ar.2.2 hin (H.at hin (by simp)) (g := mkF m pc Ls (.int j :: .ref a :: rest)) rfl rfl hd t kt) k
/-- new -/
theorem own_new {own K : String} {index sz : Nat} (X : Stand p l e R s m args below meth c T locs cells slots) (hx : p.tables.exec = Jvm.exec) (hZ : Z.Warmed39 s.vm) (hown : s.vm.findClass own = some m.cls) (w : (Cond.classLink own index K).before a0 Z = true) (wi : (Cond.instantiable K sz).before a0 Z = true) (wz : (Cond.initialized K).before a0 Z = true) (eT : T.heap = h) (hd : decode c.code pc = .ok (.new index, 3)) (hc : cells + 1 ≤ R.cells) (hl : slots + sz ≤ R.slots)
    (k : ∀ T' h' b, b = h.size → Stand p l e R s m args below meth c T' locs (cells + 1) (slots + sz) → T'.heap = h' → Ext h h' → Exa Z h' b K → (∀ {O nm d : String} {ty : FieldType}, Laid Z a0 K O nm d → parseFieldDescriptor d = some ty → Fld Z h' b O nm d (defaultValue ty)) → own_Run p e below s CC SS Q T' (mkF m (pc + 3) Ls (.ref b :: rest))) :
    own_Run p e below s CC SS Q T (mkF m pc Ls rest) := by
  obtain ⟨T', h', X', e', E', A', D', -, sp⟩ := newO X hx hZ hown w wi wz eT (g := mkF m pc Ls rest) rfl hd hc hl
  exact own_run sp (k T' h' _ rfl X' e' E' A' D')
theorem own_getF {own R0 O nm d host : String} {index : Nat} (X : Stand p l e R s m args below meth c T locs cells slots) (hx : p.tables.exec = Jvm.exec) (hZ : Z.Warmed39 s.vm) (hown : s.vm.findClass own = some m.cls) (w : (Cond.fieldLink own index R0 nm d).before a0 Z = true ∨ (Cond.fieldLinkNest own index R0 nm d host).before a0 Z = true) (via : Via Z R0 O nm d) (eT : T.heap = h) (F : Fld Z h a O nm d v) (hd : decode c.code pc = .ok (.getfield index, 3))
    (k : ∀ T', Stand p l e R s m args below meth c T' locs cells slots → T'.heap = h → own_Run p e below s CC SS Q T' (mkF m (pc + 3) Ls (v :: rest))) : own_Run p e below s CC SS Q T (mkF m pc Ls (.ref a :: rest)) := by
  obtain ⟨T', X', e', sp⟩ := getF X hx hZ hown w via eT F (g := mkF m pc Ls (.ref a :: rest)) rfl rfl hd
  exact own_run sp (k T' X' e')
theorem own_getS {own R0 O nm d : String} {index : Nat} (X : Stand p l e R s m args below meth c T locs cells slots) (hx : p.tables.exec = Jvm.exec) (hZ : Z.Warmed39 s.vm) (hown : s.vm.findClass own = some m.cls) (w : (Cond.fieldLink own index R0 nm d).before a0 Z = true) (via : Via Z R0 O nm d) (eT : T.heap = h) (F : Sta Z h O nm d v) (hd : decode c.code pc = .ok (.getstatic index, 3))
    (k : ∀ T', Stand p l e R s m args below meth c T' locs cells slots → T'.heap = h → own_Run p e below s CC SS Q T' (mkF m (pc + 3) Ls (v :: rest))) : own_Run p e below s CC SS Q T (mkF m pc Ls rest) := by
  obtain ⟨T', X', e', sp⟩ := getS (host := "") X hx hZ hown w via eT F (g := mkF m pc Ls rest) rfl hd
  exact own_run sp (k T' X' e')
theorem own_StaKeep {O nm d K : String} (F : Sta Z h O nm d v) (Kp : Keep h h' [a]) (E : Exa Z h a K) : Sta Z h' O nm d v := by
  obtain ⟨cf, i, k, f, st, cell, h1, h2, h3, h4, h5, h6, h7⟩ := F
  obtain ⟨cell', k', q1, -, -, q4, -⟩ := E
  have ne : st ≠ a := fun e => by subst e; cases h5.symm.trans q1; rw [h6] at q4; cases q4
  exact ⟨cf, i, k, f, st, cell, h1, h2, h3, h4, Kp.2.1 _ _ h5 (ninS ne nin0), h6, h7⟩
theorem own_StaKeepA {O nm d : String} (F : Sta Z h O nm d v) (Kp : Keep h h' [a]) (A : own_A Z h a ty n xs) : Sta Z h' O nm d v := by
  obtain ⟨cf, i, k, f, st, cell, h1, h2, h3, h4, h5, h6, h7⟩ := F
  obtain ⟨-, kk, cl, Ar, -⟩ := A
  have q4 := Ar.plain
  have ne : st ≠ a := fun e => by subst e; cases h5.symm.trans Ar.1; rw [h6] at q4; cases q4
  exact ⟨cf, i, k, f, st, cell, h1, h2, h3, h4, Kp.2.1 _ _ h5 (ninS ne nin0), h6, h7⟩
theorem own_putF {own R0 O nm d host K : String} {index kk : Nat} {old : Value} (X : Stand p l e R s m args below meth c T locs cells slots) (hx : p.tables.exec = Jvm.exec) (hZ : Z.Warmed39 s.vm) (hown : s.vm.findClass own = some m.cls) (w : (Cond.fieldLink own index R0 nm d).before a0 Z = true ∨ (Cond.fieldLinkNest own index R0 nm d host).before a0 Z = true) (via : Via Z R0 O nm d) (eT : T.heap = h) (F : Fld Z h a O nm d old) (E : Exa Z h a K) (L : (Cond.lays K O nm d).before a0 Z = true ∨ ((Cond.laysFinal K O nm d).before a0 Z = true ∧ own = O ∧ meth.name = "<init>")) (wi : (Cond.instantiable K kk).before a0 Z = true) (hty : parseFieldDescriptor d = some ty) (hn : narrow ty v = v) (hf : fits ty v = true) (N : Fr n0 locs) (ga : n0 ≤ a) (hd : decode c.code pc = .ok (.putfield index, 3))
    (k : ∀ T' h' locs', Stand p l e R s m args below meth c T' locs' cells slots → Fr n0 locs' → T'.heap = h' → Wr h h' a (Jvm.RoadKit.slotOf Z O nm d) v → Fld Z h' a O nm d v → own_Run p e below s CC SS Q T' (mkF m (pc + 3) Ls rest)) : own_Run p e below s CC SS Q T (mkF m pc Ls (v :: .ref a :: rest)) := by
  obtain ⟨T', h', X', e', W, sp⟩ := putF X hx hZ hown w via eT F E L wi hty hn hf (g := mkF m pc Ls (v :: .ref a :: rest)) rfl rfl hd
  exact own_run sp (k T' h' _ X' (Fr.snoc X' N ga) e' W (F.same W))
theorem own_initO {own : String} {index W : Nat} (X : Stand p l e R s m args below meth c T locs cells slots) (hx : p.tables.exec = Jvm.exec) (hZ : Z.Warmed39 s.vm) (hown : s.vm.findClass own = some m.cls) (w1 : (Cond.methodLink own index Lib.objectInit).before a0 Z = true) (w2 : (Cond.instanceMethod Lib.objectInit).before a0 Z = true) (w3 : (Cond.code Lib.objectInit ⟨#[0xb1]⟩ 1 none).before a0 Z = true) (eT : T.heap = h) (hsize : Ls.size = c.maxLocals) (hd : decode c.code pc = .ok (.invokespecial index, 3)) (hf : 1 ≤ R.frames) (hW : (rest.map fun v => v.category).sum ≤ W) (hl : W + 12 ≤ R.locals)
    (k : ∀ T', Stand p l e R s m args below meth c T' locs cells slots → T'.heap = h → own_Run p e below s CC SS Q T' (mkF m (pc + 3) Ls rest)) : own_Run p e below s CC SS Q T (mkF m pc Ls (.ref a :: rest)) := by
  obtain ⟨T', X', e', sp⟩ := initO X hx hZ hown w1 w2 w3 eT (g := mkF m pc Ls (.ref a :: rest)) rfl hsize rfl hd hf (W := W) (by show 2 * 0 + _ ≤ _; omega) hl
  exact own_run sp (k T' X' e')
variable {own : String} {index maxL W : Nat} {y z : MethodName} {bytes : ByteArray} {ret : Option FieldType} {rm : Room} {argsL : List Value} {Q' : Option Value → Heap → List Loc → Prop}
/-- a static method by its contract -/
theorem own_callS (X : Stand p l e R s m args below meth c T locs cells slots) (hx : p.tables.exec = Jvm.exec) (hZ : Z.Warmed39 s.vm) (hown : s.vm.findClass own = some m.cls) (w1 : (Cond.methodLink own index y).before a0 Z = true) (w2 : (Cond.static y).before a0 Z = true) (w3 : (Cond.initialized y.cls).before a0 Z = true) (w4 : (Cond.code y bytes maxL ret).before a0 Z = true) (hy : y.cls ≠ "java/lang/invoke/MethodHandle" ∧ y.cls ≠ "java/lang/invoke/VarHandle")
    (hM : MetFree l y (head1 [Cond.code y bytes maxL ret] rm) (fun a U => a = argsL.toArray ∧ Z.Warmed39 U.vm ∧ U.heap = h) (fun _ _ _ _ _ => True) (fun _ U o U' => ∃ v L, o = .returned v ∧ Q' v U'.heap L ∧ FrameEnd U o U' L rm.cells rm.slots)) (eT : T.heap = h) (hf : rm.frames + 1 ≤ R.frames) (hl : W + (maxL + 11) + rm.locals ≤ R.locals) (hcl : cells + rm.cells ≤ R.cells) (hsl : slots + rm.slots ≤ R.slots) (hsize : Ls.size = c.maxLocals)
    (hlen : ∀ sig, parseMethodDescriptor y.desc = some sig → argsL.length = sig.parameters.length) (hs : st = argsL.reverse ++ rest) (hW : (rest.map fun v => v.category).sum ≤ W) (hd : decode c.code pc = .ok (.invokestatic index, 3))
    (k : ∀ T' v L, Stand p l e R s m args below meth c T' (locs ++ L) (cells + rm.cells) (slots + rm.slots) → Q' v T'.heap L → own_Run p e below s CC SS Q T' (mkF m (pc + 3) Ls (v.toList ++ rest))) : own_Run p e below s CC SS Q T (mkF m pc Ls st) := by
  obtain ⟨v, _, ⟨T1, L1, k1, n1⟩, -, X1, ⟨Lc, hQ, l1, y1, z1⟩, sp⟩ := Jvm.LawKit.callS X hx hown (mvT hZ w1) (mvT hZ w2) (mvT hZ w3) (mvT hZ w4) hy (backOf (W := W) hM hZ w4 w3 hf hl) (g := mkF m pc Ls st) rfl hsize (argsL := argsL) (rest := rest) hlen hs (by show 2 * 0 + _ ≤ _; omega) hd (fun _ _ => ⟨rfl, eT, hcl, hsl⟩)
  dsimp only [Pt.U, Pt.locs, Pt.cells, Pt.slots] at X1 l1 y1 z1 sp hQ
  subst l1 y1 z1
  exact own_run sp (k T1 v Lc X1 hQ)
/-- a constructor by its contract -/
theorem own_callI (X : Stand p l e R s m args below meth c T locs cells slots) (hx : p.tables.exec = Jvm.exec) (hZ : Z.Warmed39 s.vm) (hown : s.vm.findClass own = some m.cls) (hy1 : y.name = "<init>") (w1 : (Cond.methodLink own index y).before a0 Z = true) (w2 : (Cond.instanceMethod y).before a0 Z = true) (w3 : (Cond.initialized y.cls).before a0 Z = true) (w4 : (Cond.code y bytes maxL none).before a0 Z = true) (hy : y.cls ≠ "java/lang/invoke/MethodHandle" ∧ y.cls ≠ "java/lang/invoke/VarHandle")
    (hM : MetFree l y (head1 [Cond.code y bytes maxL none] rm) (fun a U => a = (.ref b :: argsL).toArray ∧ Z.Warmed39 U.vm ∧ U.heap = h) (fun _ _ _ _ _ => True) (fun _ U o U' => ∃ v L, o = .returned v ∧ Q' v U'.heap L ∧ FrameEnd U o U' L rm.cells rm.slots)) (eT : T.heap = h) (hf : rm.frames + 1 ≤ R.frames) (hl : W + (maxL + 11) + rm.locals ≤ R.locals) (hcl : cells + rm.cells ≤ R.cells) (hsl : slots + rm.slots ≤ R.slots) (hsize : Ls.size = c.maxLocals)
    (hlen : ∀ sig, parseMethodDescriptor y.desc = some sig → argsL.length = sig.parameters.length) (hs : st = argsL.reverse ++ .ref b :: rest) (hW : (rest.map fun v => v.category).sum ≤ W) (hd : decode c.code pc = .ok (.invokespecial index, 3))
    (k : ∀ T' v L, Stand p l e R s m args below meth c T' (locs ++ L) (cells + rm.cells) (slots + rm.slots) → Q' v T'.heap L → own_Run p e below s CC SS Q T' (mkF m (pc + 3) Ls (v.toList ++ rest))) : own_Run p e below s CC SS Q T (mkF m pc Ls st) := by
  obtain ⟨v, _, ⟨T1, L1, k1, n1⟩, -, X1, ⟨Lc, hQ, l1, y1, z1⟩, sp⟩ := X.specialBack hx (y := y) hy1 hown (mvT hZ w1) (mvT hZ w2) (mvT hZ w4) hy (backOf (W := W) hM hZ w4 w3 hf hl) (g := mkF m pc Ls st) rfl hsize (Steps.refl _) (a := b) (argsL := argsL) (rest := rest) hlen hs (by show 2 * 0 + _ ≤ _; omega) hd (fun _ _ => ⟨rfl, eT, hcl, hsl⟩)
  dsimp only [Pt.U, Pt.locs, Pt.cells, Pt.slots] at X1 l1 y1 z1 sp hQ
  subst l1 y1 z1
  exact own_run (fun t kt => sp.trans kt) (k T1 v Lc X1 hQ)
/-- an instance method by its contract -/
theorem own_callV {K : String} (X : Stand p l e R s m args below meth c T locs cells slots) (hx : p.tables.exec = Jvm.exec) (hZ : Z.Warmed39 s.vm) (hown : s.vm.findClass own = some m.cls) (w1 : (Cond.methodLink own index y).before a0 Z = true) (w2 : (Cond.declares y).before a0 Z = true) (w5 : (Cond.selects K y y).before a0 Z = true) (w6 : (Cond.instanceMethod y).before a0 Z = true) (w3 : (Cond.initialized y.cls).before a0 Z = true) (w4 : (Cond.code y bytes maxL ret).before a0 Z = true) (hy : y.cls ≠ "java/lang/invoke/MethodHandle" ∧ y.cls ≠ "java/lang/invoke/VarHandle") (E : Exa Z h b K)
    (hM : MetFree l y (head1 [Cond.code y bytes maxL ret] rm) (fun a U => a = (.ref b :: argsL).toArray ∧ Z.Warmed39 U.vm ∧ U.heap = h) (fun _ _ _ _ _ => True) (fun _ U o U' => ∃ v L, o = .returned v ∧ Q' v U'.heap L ∧ FrameEnd U o U' L rm.cells rm.slots)) (eT : T.heap = h) (hf : rm.frames + 1 ≤ R.frames) (hl : W + (maxL + 11) + rm.locals ≤ R.locals) (hcl : cells + rm.cells ≤ R.cells) (hsl : slots + rm.slots ≤ R.slots) (hsize : Ls.size = c.maxLocals)
    (hlen : ∀ sig, parseMethodDescriptor y.desc = some sig → argsL.length = sig.parameters.length) (hs : st = argsL.reverse ++ .ref b :: rest) (hW : (rest.map fun v => v.category).sum ≤ W) (hd : decode c.code pc = .ok (.invokevirtual index, 3))
    (k : ∀ T' v L, Stand p l e R s m args below meth c T' (locs ++ L) (cells + rm.cells) (slots + rm.slots) → Q' v T'.heap L → own_Run p e below s CC SS Q T' (mkF m (pc + 3) Ls (v.toList ++ rest))) : own_Run p e below s CC SS Q T (mkF m pc Ls st) := by
  obtain ⟨cq, kq, qa, qb, qc⟩ := isOf hZ eT E
  obtain ⟨v, _, ⟨T1, L1, k1, n1⟩, -, X1, ⟨Lc, hQ, l1, y1, z1⟩, sp⟩ := X.virtualBack hx (y := y) (z := y) hown (mvT hZ w1) (mvT hZ w2) (notFace_of_selects (args := #[]) (mvT hZ w5)) (mvT hZ w5) (mvT hZ w6) hy (backOf (W := W) hM hZ w4 w3 hf hl) qa qc (g := mkF m pc Ls st) rfl hsize (Steps.refl _) (argsL := argsL) (rest := rest) hlen hs (by show 2 * 0 + _ ≤ _; omega) hd (fun _ _ => ⟨rfl, eT, hcl, hsl⟩)
  dsimp only [Pt.U, Pt.locs, Pt.cells, Pt.slots] at X1 l1 y1 z1 sp hQ
  subst l1 y1 z1
  exact own_run (fun t kt => sp.trans kt) (k T1 v Lc X1 hQ)
/-- a private instance method by its contract -/
theorem own_callP {kk : Nat} {K : String} (X : Stand p l e R s m args below meth c T locs cells slots) (hx : p.tables.exec = Jvm.exec) (hZ : Z.Warmed39 s.vm) (hown : s.vm.findClass own = some m.cls) (w1 : (Cond.methodLink own index y).before a0 Z = true) (w2 : (Cond.instanceMethod y).before a0 Z = true) (wi : (Cond.instantiable y.cls kk).before a0 Z = true) (wp : (Cond.privateMethod y).before a0 Z = true) (w3 : (Cond.initialized y.cls).before a0 Z = true) (w4 : (Cond.code y bytes maxL ret).before a0 Z = true) (hy : y.cls ≠ "java/lang/invoke/MethodHandle" ∧ y.cls ≠ "java/lang/invoke/VarHandle") (E : Exa Z h b K)
    (hM : MetFree l y (head1 [Cond.code y bytes maxL ret] rm) (fun a U => a = (.ref b :: argsL).toArray ∧ Z.Warmed39 U.vm ∧ U.heap = h) (fun _ _ _ _ _ => True) (fun _ U o U' => ∃ v L, o = .returned v ∧ Q' v U'.heap L ∧ FrameEnd U o U' L rm.cells rm.slots)) (eT : T.heap = h) (hf : rm.frames + 1 ≤ R.frames) (hl : W + (maxL + 11) + rm.locals ≤ R.locals) (hcl : cells + rm.cells ≤ R.cells) (hsl : slots + rm.slots ≤ R.slots) (hsize : Ls.size = c.maxLocals)
    (hlen : ∀ sig, parseMethodDescriptor y.desc = some sig → argsL.length = sig.parameters.length) (hs : st = argsL.reverse ++ .ref b :: rest) (hW : (rest.map fun v => v.category).sum ≤ W) (hd : decode c.code pc = .ok (.invokevirtual index, 3))
    (k : ∀ T' v L, Stand p l e R s m args below meth c T' (locs ++ L) (cells + rm.cells) (slots + rm.slots) → Q' v T'.heap L → own_Run p e below s CC SS Q T' (mkF m (pc + 3) Ls (v.toList ++ rest))) : own_Run p e below s CC SS Q T (mkF m pc Ls st) := by
  obtain ⟨cq, q1, q2⟩ := E.cell
  obtain ⟨cI, kI, hc, hk, -, hniab, -, -⟩ := Cond.instantiable_spec (mvT (args := args) hZ wi)
  have hni : kI.isInterface = false := (Bool.or_eq_false_iff.mp hniab).1
  have hpriv : s.PrivateAt y := Cond.privateMethod_at (mvP hZ wp (args := #[]))
  have hsel : (Cond.selects y.cls y y).before args s = true := selects_self_of_private hc hk hni hpriv (mvT hZ w2) hy
  obtain ⟨v, _, ⟨T1, L1, k1, n1⟩, -, X1, ⟨Lc, hQ, l1, y1, z1⟩, sp⟩ := X.privateBack hx (y := y) hown (mvT hZ w1) (mvT hZ w2) hsel hpriv (mvT hZ w4) hy (backOf (W := W) hM hZ w4 w3 hf hl) (g := mkF m pc Ls st) rfl hsize (Steps.refl _) (a := b) (by rw [eT]; exact q1) q2 (argsL := argsL) (rest := rest) hlen hs (by show 2 * 0 + _ ≤ _; omega) hd (fun _ _ => ⟨rfl, eT, hcl, hsl⟩)
  dsimp only [Pt.U, Pt.locs, Pt.cells, Pt.slots] at X1 l1 y1 z1 sp hQ
  subst l1 y1 z1
  exact own_run (fun t kt => sp.trans kt) (k T1 v Lc X1 hQ)
end Own
theorem own_pn1 : plainName "com/example/lean_markup/leanmarkup/util/ByteSearchInPinLaw" = true := by first | (simp [plainName, overriddenIn]; done) | decide +kernel
theorem own_ef1 (m : MethodId) (p0 : Int32) (p1 : Int32) (p2 : Int32) : entryFrame m #[(.int p0), (.int p1), (.int p2)] 4 = mkF m 0 #[.val (.int p0), .val (.int p1), .val (.int p2), .unset] [] := by first | (simp [entryFrame, mkF, argsToLocals, Value.category]; done) | rfl
def own_R1 : Room := ({ frames := 0, cells := 0, slots := 0, locals := 0 } : Room)
def own_f1 (p0 : Int32) (p1 : Int32) (p2 : Int32) : Int32 := (nar .byte (XT.ushr p0 ((8 : Int32) * ((XT.ushr p1 ((2 : Int32) * p2)) &&& (3 : Int32)))).toInt8.toInt32)
def Q1 (z : Int32) (h0 : Heap) (n0 : Nat) (v : Option Value) (h : Heap) (L : List Loc) : Prop := v = some (Value.int z) ∧ Fr n0 L ∧ h = h0
theorem d1_0 : decode method_2_code 0 = .ok (.iload_n 1, 1) := by decide +kernel
theorem d1_1 : decode method_2_code 1 = .ok (.iconst 2, 1) := by decide +kernel
theorem d1_2 : decode method_2_code 2 = .ok (.iload_n 2, 1) := by decide +kernel
theorem d1_3 : decode method_2_code 3 = .ok (.imul, 1) := by decide +kernel
theorem d1_4 : decode method_2_code 4 = .ok (.iushr, 1) := by decide +kernel
theorem d1_5 : decode method_2_code 5 = .ok (.iconst 3, 1) := by decide +kernel
theorem d1_6 : decode method_2_code 6 = .ok (.iand, 1) := by decide +kernel
theorem d1_7 : decode method_2_code 7 = .ok (.istore_n 3, 1) := by decide +kernel
theorem d1_8 : decode method_2_code 8 = .ok (.iload_n 0, 1) := by decide +kernel
theorem d1_9 : decode method_2_code 9 = .ok (.bipush 8, 2) := by decide +kernel
theorem d1_11 : decode method_2_code 11 = .ok (.iload_n 3, 1) := by decide +kernel
theorem d1_12 : decode method_2_code 12 = .ok (.imul, 1) := by decide +kernel
theorem d1_13 : decode method_2_code 13 = .ok (.iushr, 1) := by decide +kernel
theorem d1_14 : decode method_2_code 14 = .ok (.i2b, 1) := by decide +kernel
theorem d1_15 : decode method_2_code 15 = .ok (.ireturn, 1) := by decide +kernel
set_option maxRecDepth 65536 in
set_option maxHeartbeats 40000000 in
theorem rm1 (l : Launch) (Z : State) (a0 : Array Value) (hw : ∀ d ∈ tables_1, d.before a0 Z = true) (ws : List Jvm.Cond) (p0 : Int32) (p1 : Int32) (p2 : Int32) (h0 : Heap) (n0 : Nat) :
    MetFree l (⟨"com/example/lean_markup/leanmarkup/util/ByteSearchInPinLaw", "sym", "(III)B"⟩ : MethodName) (head1 (Jvm.Cond.code (⟨"com/example/lean_markup/leanmarkup/util/ByteSearchInPinLaw", "sym", "(III)B"⟩ : MethodName) method_2_code 4 (some .byte) :: ws) own_R1) (fun a U => a = #[(.int p0), (.int p1), (.int p2)] ∧ Z.Warmed39 U.vm ∧ U.heap = h0) (fun _ _ _ _ _ => True) (fun _ U o U' => ∃ v L, o = .returned v ∧ Q1 (own_f1 p0 p1 p2) h0 n0 v U'.heap L ∧ FrameEnd U o U' L own_R1.cells own_R1.slots) := by
  refine MetFree.of_bodySF (plainFor_of_name own_pn1) hisR ?_
  intro p e s m args below meth c s₁ Bd hml0 hP hK
  obtain ⟨ha, hZ, hh⟩ := hP
  have hx := Bd.exec
  have hby := Bd.bytes
  have hml : c.maxLocals = 4 := hml0
  have hown : s.vm.findClass "com/example/lean_markup/leanmarkup/util/ByteSearchInPinLaw" = some m.cls := findClass_of_methodNamed Bd.named
  have hnm := (name_of_methodNamed Bd.named Bd.method).1
  have X0 : Stand p l e own_R1 s m args below meth c s₁ [] 0 0 := Stand.of_body Bd
  have e0 : s₁.heap = h0 := by rw [← hh, Bd.state]; rfl
  have N0 := Fr.nil n0
  refine own_enter (Q := (Q1 (own_f1 p0 p1 p2) h0 n0)) (g := mkF m 0 #[.val (.int p0), .val (.int p1), .val (.int p2), .unset] []) (by rw [ha]; exact own_ef1 m p0 p1 p2) ?_
  refine own_run (g' := (mkF m 8 #[.val (.int p0), .val (.int p1), .val (.int p2), .val (.int ((XT.ushr p1 ((2 : Int32) * p2)) &&& (3 : Int32)))] [])) (fun _ kt => XS.iloadN X0.here hx rfl (hb hby d1_0) rfl (XS.iconst X0.here hx rfl (hb hby d1_1) (XS.iloadN X0.here hx rfl (hb hby d1_2) rfl (XS.imul X0.here hx rfl (hb hby d1_3) rfl (XS.iushr X0.here hx rfl (hb hby d1_4) rfl (XS.iconst X0.here hx rfl (hb hby d1_5) (XS.iand X0.here hx rfl (hb hby d1_6) rfl (XS.istoreN X0.here hx rfl (hb hby d1_7) rfl (l' := #[.val (.int p0), .val (.int p1), .val (.int p2), .val (.int ((XT.ushr p1 ((2 : Int32) * p2)) &&& (3 : Int32)))]) rfl (kt))))))))) ?_
  refine own_run (g' := (mkF m 15 #[.val (.int p0), .val (.int p1), .val (.int p2), .val (.int ((XT.ushr p1 ((2 : Int32) * p2)) &&& (3 : Int32)))] [(.int (XT.ushr p0 ((8 : Int32) * ((XT.ushr p1 ((2 : Int32) * p2)) &&& (3 : Int32)))).toInt8.toInt32)])) (fun _ kt => XS.iloadN X0.here hx rfl (hb hby d1_8) rfl (XS.bipush X0.here hx rfl (hb hby d1_9) (XS.iloadN X0.here hx rfl (hb hby d1_11) rfl (XS.imul X0.here hx rfl (hb hby d1_12) rfl (XS.iushr X0.here hx rfl (hb hby d1_13) rfl (XS.i2b X0.here hx rfl (hb hby d1_14) rfl (kt))))))) ?_
  have hf : own_f1 p0 p1 p2 = (nar .byte (XT.ushr p0 ((8 : Int32) * ((XT.ushr p1 ((2 : Int32) * p2)) &&& (3 : Int32)))).toInt8.toInt32) := by rfl
  exact own_retN (t := .byte) X0 hx Bd.notSynchronized Bd.returns (by simp) (hb hby d1_15) (by decide) (by decide) ⟨congrArg (fun z => some (Value.int z)) hf.symm, N0, e0⟩
theorem own_clamp {n : Nat} (h : n < 2147483648) : (Int32.ofNat n).toNatClampNeg = n := by
  have e1 : (Int32.ofNat n).toInt = n := len_toInt h
  simp only [Int32.toNatClampNeg, e1]; omega
theorem own_one (i : Nat) : Int32.ofNat i + (1 : Int32) = Int32.ofNat (i + 1) := (Int32.ofNat_add i 1).symm
theorem own_ofnat_lt {j : Nat} {n : Int32} (h : j < 2147483648) : Int32.ofNat j < n ↔ j < n.toNatClampNeg := by
  have e1 : (Int32.ofNat j).toInt = j := len_toInt h
  rw [Int32.lt_iff_toInt_lt, e1]; simp only [Int32.toNatClampNeg]; omega
theorem own_clamp_lt (n : Int32) : n.toNatClampNeg < 2147483648 := by
  have := n.toInt_lt; simp only [Int32.toNatClampNeg]; omega
theorem own_ofnat_nn {j : Nat} (h : j < 2147483648) : ¬ Int32.ofNat j < 0 := by
  have e1 : (Int32.ofNat j).toInt = j := len_toInt h
  rw [Int32.lt_iff_toInt_lt, e1]; simp
theorem own_back {p : Int32} (h : ¬ p < 0) : Int32.ofNat p.toNatClampNeg = p := by
  have e1 : (Int32.ofNat p.toNatClampNeg).toInt = p.toNatClampNeg := len_toInt (own_clamp_lt p)
  rw [← Int32.toInt_inj, e1]
  rw [Int32.lt_iff_toInt_lt] at h
  simp only [Int32.toNatClampNeg]; simp at h; omega
theorem own_i32 {x k : Int32} (h : x.toInt = k.toInt) : x = k := Int32.toInt_inj.mp h
theorem own_and3 (x : Int32) : (x &&& (3 : Int32)) = 0 ∨ (x &&& (3 : Int32)) = 1 ∨ (x &&& (3 : Int32)) = 2 ∨ (x &&& (3 : Int32)) = 3 := by
  have e := Jvm.Kit.i32_mask x 3 (k := 2) (by decide) (by decide)
  have hb : x.toInt % 2 ^ 2 = 0 ∨ x.toInt % 2 ^ 2 = 1 ∨ x.toInt % 2 ^ 2 = 2 ∨ x.toInt % 2 ^ 2 = 3 := by omega
  rcases hb with h | h | h | h
  · exact Or.inl (own_i32 (k := 0) (e.trans h))
  · exact Or.inr (Or.inl (own_i32 (k := 1) (e.trans h)))
  · exact Or.inr (Or.inr (Or.inl (own_i32 (k := 2) (e.trans h))))
  · exact Or.inr (Or.inr (Or.inr (own_i32 (k := 3) (e.trans h))))

theorem own_at0 {at_ k : Int32} (hat : at_ = 0 ∨ at_ = 1 ∨ at_ = 2 ∨ at_ = 3 ∨ at_ = 4 ∨ at_ = 5) (hk : k = 1 ∨ k = 2 ∨ k = 3) (h : ¬ (6 : Int32) < at_ + k) : (¬ at_ < 0 ∧ at_ < (6 : Int32)) ∧ ((1 : Int32) < k → ¬ (at_ + (1 : Int32)) < 0 ∧ (at_ + (1 : Int32)) < (6 : Int32)) ∧ ((2 : Int32) < k → ¬ (at_ + (2 : Int32)) < 0 ∧ (at_ + (2 : Int32)) < (6 : Int32)) := by
  rcases hat with h' | h' | h' | h' | h' | h' <;> rcases hk with h'' | h'' | h'' <;> subst h' h'' <;> revert h <;> decide
theorem own_k0 {k : Int32} (hk : k = 1 ∨ k = 2 ∨ k = 3) : (0 : Int32) < k := by rcases hk with h | h | h <;> subst h <;> decide
theorem own_pn7 : plainName "com/example/lean_markup/leanmarkup/util/ByteSearchInPinLaw" = true := by first | (simp [plainName, overriddenIn]; done) | decide +kernel
theorem own_ef7 (m : MethodId) (o0 : Addr) (o1 : Addr) (p2 : Int32) : entryFrame m #[(.ref o0), (.ref o1), (.int p2)] 4 = mkF m 0 #[.val (.ref o0), .val (.ref o1), .val (.int p2), .unset] [] := by first | (simp [entryFrame, mkF, argsToLocals, Value.category]; done) | rfl
def own_R7 : Room := ({ frames := 0, cells := 0, slots := 0, locals := 0 } : Room)
def own_f7_46 (p2 : Int32) (k : Int32) (bs : List Int32) (ps : List Int32) : Int32 := (if (2 : Int32) < k then (if (bs.getD (p2 + (2 : Int32)).toNatClampNeg 0) = (ps.getD (2 : Int32).toNatClampNeg 0) then (1 : Int32) else (0 : Int32)) else (1 : Int32))
def own_f7 (p2 : Int32) (k : Int32) (bs : List Int32) (ps : List Int32) : Int32 := (if (6 : Int32) < (p2 + k) then (0 : Int32) else (if (bs.getD p2.toNatClampNeg 0) = (ps.getD (0 : Int32).toNatClampNeg 0) then (if (1 : Int32) < k then (if (bs.getD (p2 + (1 : Int32)).toNatClampNeg 0) = (ps.getD (1 : Int32).toNatClampNeg 0) then (own_f7_46 p2 k bs ps) else (0 : Int32)) else (own_f7_46 p2 k bs ps)) else (0 : Int32)))
def Q7 (z : Int32) (h0 : Heap) (n0 : Nat) (v : Option Value) (h : Heap) (L : List Loc) : Prop := v = some (Value.int z) ∧ Fr n0 L ∧ h = h0
theorem d7_0 : decode method_3_code 0 = .ok (.aload_n 1, 1) := by decide +kernel
theorem d7_1 : decode method_3_code 1 = .ok (.arraylength, 1) := by decide +kernel
theorem d7_2 : decode method_3_code 2 = .ok (.istore_n 3, 1) := by decide +kernel
theorem d7_3 : decode method_3_code 3 = .ok (.iload_n 2, 1) := by decide +kernel
theorem d7_4 : decode method_3_code 4 = .ok (.ifCond .lt 11, 3) := by decide +kernel
theorem d7_7 : decode method_3_code 7 = .ok (.iload_n 2, 1) := by decide +kernel
theorem d7_8 : decode method_3_code 8 = .ok (.iload_n 3, 1) := by decide +kernel
theorem d7_9 : decode method_3_code 9 = .ok (.iadd, 1) := by decide +kernel
theorem d7_10 : decode method_3_code 10 = .ok (.aload_n 0, 1) := by decide +kernel
theorem d7_11 : decode method_3_code 11 = .ok (.arraylength, 1) := by decide +kernel
theorem d7_12 : decode method_3_code 12 = .ok (.if_icmp .le 5, 3) := by decide +kernel
theorem d7_15 : decode method_3_code 15 = .ok (.iconst 0, 1) := by decide +kernel
theorem d7_16 : decode method_3_code 16 = .ok (.ireturn, 1) := by decide +kernel
theorem d7_17 : decode method_3_code 17 = .ok (.aload_n 0, 1) := by decide +kernel
theorem d7_18 : decode method_3_code 18 = .ok (.iload_n 2, 1) := by decide +kernel
theorem d7_19 : decode method_3_code 19 = .ok (.baload, 1) := by decide +kernel
theorem d7_20 : decode method_3_code 20 = .ok (.aload_n 1, 1) := by decide +kernel
theorem d7_21 : decode method_3_code 21 = .ok (.iconst 0, 1) := by decide +kernel
theorem d7_22 : decode method_3_code 22 = .ok (.baload, 1) := by decide +kernel
theorem d7_23 : decode method_3_code 23 = .ok (.if_icmp .eq 5, 3) := by decide +kernel
theorem d7_26 : decode method_3_code 26 = .ok (.iconst 0, 1) := by decide +kernel
theorem d7_27 : decode method_3_code 27 = .ok (.ireturn, 1) := by decide +kernel
theorem d7_28 : decode method_3_code 28 = .ok (.iload_n 3, 1) := by decide +kernel
theorem d7_29 : decode method_3_code 29 = .ok (.iconst 1, 1) := by decide +kernel
theorem d7_30 : decode method_3_code 30 = .ok (.if_icmp .le 16, 3) := by decide +kernel
theorem d7_33 : decode method_3_code 33 = .ok (.aload_n 0, 1) := by decide +kernel
theorem d7_34 : decode method_3_code 34 = .ok (.iload_n 2, 1) := by decide +kernel
theorem d7_35 : decode method_3_code 35 = .ok (.iconst 1, 1) := by decide +kernel
theorem d7_36 : decode method_3_code 36 = .ok (.iadd, 1) := by decide +kernel
theorem d7_37 : decode method_3_code 37 = .ok (.baload, 1) := by decide +kernel
theorem d7_38 : decode method_3_code 38 = .ok (.aload_n 1, 1) := by decide +kernel
theorem d7_39 : decode method_3_code 39 = .ok (.iconst 1, 1) := by decide +kernel
theorem d7_40 : decode method_3_code 40 = .ok (.baload, 1) := by decide +kernel
theorem d7_41 : decode method_3_code 41 = .ok (.if_icmp .eq 5, 3) := by decide +kernel
theorem d7_44 : decode method_3_code 44 = .ok (.iconst 0, 1) := by decide +kernel
theorem d7_45 : decode method_3_code 45 = .ok (.ireturn, 1) := by decide +kernel
theorem d7_46 : decode method_3_code 46 = .ok (.iload_n 3, 1) := by decide +kernel
theorem d7_47 : decode method_3_code 47 = .ok (.iconst 2, 1) := by decide +kernel
theorem d7_48 : decode method_3_code 48 = .ok (.if_icmp .le 16, 3) := by decide +kernel
theorem d7_51 : decode method_3_code 51 = .ok (.aload_n 0, 1) := by decide +kernel
theorem d7_52 : decode method_3_code 52 = .ok (.iload_n 2, 1) := by decide +kernel
theorem d7_53 : decode method_3_code 53 = .ok (.iconst 2, 1) := by decide +kernel
theorem d7_54 : decode method_3_code 54 = .ok (.iadd, 1) := by decide +kernel
theorem d7_55 : decode method_3_code 55 = .ok (.baload, 1) := by decide +kernel
theorem d7_56 : decode method_3_code 56 = .ok (.aload_n 1, 1) := by decide +kernel
theorem d7_57 : decode method_3_code 57 = .ok (.iconst 2, 1) := by decide +kernel
theorem d7_58 : decode method_3_code 58 = .ok (.baload, 1) := by decide +kernel
theorem d7_59 : decode method_3_code 59 = .ok (.if_icmp .eq 5, 3) := by decide +kernel
theorem d7_62 : decode method_3_code 62 = .ok (.iconst 0, 1) := by decide +kernel
theorem d7_63 : decode method_3_code 63 = .ok (.ireturn, 1) := by decide +kernel
theorem d7_64 : decode method_3_code 64 = .ok (.iconst 1, 1) := by decide +kernel
theorem d7_65 : decode method_3_code 65 = .ok (.ireturn, 1) := by decide +kernel
set_option maxRecDepth 65536 in
set_option maxHeartbeats 40000000 in
theorem rm7 (l : Launch) (Z : State) (a0 : Array Value) (hw : ∀ d ∈ tables_1, d.before a0 Z = true) (ws : List Jvm.Cond) (o0 : Addr) (o1 : Addr) (p2 : Int32) (k : Int32) (bs : List Int32) (ps : List Int32) (h0 : Heap) (n0 : Nat) (A1 : own_A Z h0 o0 .byte (6 : Int32) bs) (A2 : own_A Z h0 o1 .byte k ps) (hk : k = 1 ∨ k = 2 ∨ k = 3) (hat : p2 = 0 ∨ p2 = 1 ∨ p2 = 2 ∨ p2 = 3 ∨ p2 = 4 ∨ p2 = 5) :
    MetFree l (⟨"com/example/lean_markup/leanmarkup/util/ByteSearchInPinLaw", "matchAt", "([B[BI)Z"⟩ : MethodName) (head1 (Jvm.Cond.code (⟨"com/example/lean_markup/leanmarkup/util/ByteSearchInPinLaw", "matchAt", "([B[BI)Z"⟩ : MethodName) method_3_code 4 (some .boolean) :: ws) own_R7) (fun a U => a = #[(.ref o0), (.ref o1), (.int p2)] ∧ Z.Warmed39 U.vm ∧ U.heap = h0) (fun _ _ _ _ _ => True) (fun _ U o U' => ∃ v L, o = .returned v ∧ Q7 (own_f7 p2 k bs ps) h0 n0 v U'.heap L ∧ FrameEnd U o U' L own_R7.cells own_R7.slots) := by
  refine MetFree.of_bodySF (plainFor_of_name own_pn7) hisR ?_
  intro p e s m args below meth c s₁ Bd hml0 hP hK
  obtain ⟨ha, hZ, hh⟩ := hP
  have hx := Bd.exec
  have hby := Bd.bytes
  have hml : c.maxLocals = 4 := hml0
  have hown : s.vm.findClass "com/example/lean_markup/leanmarkup/util/ByteSearchInPinLaw" = some m.cls := findClass_of_methodNamed Bd.named
  have hnm := (name_of_methodNamed Bd.named Bd.method).1
  have X0 : Stand p l e own_R7 s m args below meth c s₁ [] 0 0 := Stand.of_body Bd
  have e0 : s₁.heap = h0 := by rw [← hh, Bd.state]; rfl
  have N0 := Fr.nil n0
  refine own_enter (Q := (Q7 (own_f7 p2 k bs ps) h0 n0)) (g := mkF m 0 #[.val (.ref o0), .val (.ref o1), .val (.int p2), .unset] []) (by rw [ha]; exact own_ef7 m o0 o1 p2) ?_
  refine own_run (g' := (mkF m 1 #[.val (.ref o0), .val (.ref o1), .val (.int p2), .unset] [(.ref o1)])) (fun _ kt => XS.aloadN X0.here hx rfl (hb hby d7_0) rfl rfl (kt)) ?_
  refine own_len X0 hx hZ e0 A2 (hb hby d7_1) ?_
  have hd4 : ¬ (p2 < (0 : Int32)) := by rcases hat with h | h | h | h | h | h <;> subst h <;> decide
  refine own_run (g' := (mkF m 11 #[.val (.ref o0), .val (.ref o1), .val (.int p2), .val (.int k)] [(.ref o0), (.int (p2 + k))])) (fun _ kt => XS.istoreN X0.here hx rfl (hb hby d7_2) rfl (l' := #[.val (.ref o0), .val (.ref o1), .val (.int p2), .val (.int k)]) rfl (XS.iloadN X0.here hx rfl (hb hby d7_3) rfl (XS.ifNo X0.here hx rfl (hb hby d7_4) rfl ((if0 _ _).trans (flt hd4).1) (XS.iloadN X0.here hx rfl (hb hby d7_7) rfl (XS.iloadN X0.here hx rfl (hb hby d7_8) rfl (XS.iadd X0.here hx rfl (hb hby d7_9) rfl (XS.aloadN X0.here hx rfl (hb hby d7_10) rfl rfl (kt)))))))) ?_
  refine own_len X0 hx hZ e0 A1 (hb hby d7_11) ?_
  by_cases hc12 : (6 : Int32) < (p2 + k)
  · refine own_run (g' := (mkF m 16 #[.val (.ref o0), .val (.ref o1), .val (.int p2), .val (.int k)] [(.int (0 : Int32))])) (fun _ kt => XS.icmpNo X0.here hx rfl (hb hby d7_12) rfl ((tlt hc12).2.2.2) (XS.iconst X0.here hx rfl (hb hby d7_15) (kt))) ?_
    have hf : own_f7 p2 k bs ps = (0 : Int32) := by unfold own_f7; rw [if_pos hc12]
    exact own_retN (t := .boolean) X0 hx Bd.notSynchronized Bd.returns (by simp) (hb hby d7_16) (by decide) (by decide) ⟨congrArg (fun z => some (Value.int z)) hf.symm, N0, e0⟩
  · refine own_run (g' := (mkF m 19 #[.val (.ref o0), .val (.ref o1), .val (.int p2), .val (.int k)] [(.int p2), (.ref o0)])) (fun _ kt => XS.icmpYes X0.here hx rfl (pc0 := 12) (pc' := 17) rfl (hb hby d7_12) rfl ((flt hc12).2.2.2) (by decide) (by decide) (XS.aloadN X0.here hx rfl (hb hby d7_17) rfl rfl (XS.iloadN X0.here hx rfl (hb hby d7_18) rfl (kt)))) ?_
    refine own_ldB X0 hx hZ e0 A1 (j := p2) (own_at0 hat hk hc12).1 (hb hby d7_19) (x := (bs.getD p2.toNatClampNeg 0)) rfl ?_
    refine own_run (g' := (mkF m 22 #[.val (.ref o0), .val (.ref o1), .val (.int p2), .val (.int k)] [(.int (0 : Int32)), (.ref o1), (.int (bs.getD p2.toNatClampNeg 0))])) (fun _ kt => XS.aloadN X0.here hx rfl (hb hby d7_20) rfl rfl (XS.iconst X0.here hx rfl (hb hby d7_21) (kt))) ?_
    refine own_ldB X0 hx hZ e0 A2 (j := (0 : Int32)) ⟨by decide, own_k0 hk⟩ (hb hby d7_22) (x := (ps.getD (0 : Int32).toNatClampNeg 0)) rfl ?_
    by_cases hc23 : (bs.getD p2.toNatClampNeg 0) = (ps.getD (0 : Int32).toNatClampNeg 0)
    · refine own_run (g' := (mkF m 30 #[.val (.ref o0), .val (.ref o1), .val (.int p2), .val (.int k)] [(.int (1 : Int32)), (.int k)])) (fun _ kt => XS.icmpYes X0.here hx rfl (pc0 := 23) (pc' := 28) rfl (hb hby d7_23) rfl ((teq hc23).1) (by decide) (by decide) (XS.iloadN X0.here hx rfl (hb hby d7_28) rfl (XS.iconst X0.here hx rfl (hb hby d7_29) (kt)))) ?_
      have at46 : own_Run p e below s own_R7.cells own_R7.slots (Q7 (own_f7_46 p2 k bs ps) h0 n0) s₁ (mkF m 46 #[.val (.ref o0), .val (.ref o1), .val (.int p2), .val (.int k)] []) := by
        refine own_run (g' := (mkF m 48 #[.val (.ref o0), .val (.ref o1), .val (.int p2), .val (.int k)] [(.int (2 : Int32)), (.int k)])) (fun _ kt => XS.iloadN X0.here hx rfl (hb hby d7_46) rfl (XS.iconst X0.here hx rfl (hb hby d7_47) (kt))) ?_
        by_cases hc48 : (2 : Int32) < k
        · refine own_run (g' := (mkF m 55 #[.val (.ref o0), .val (.ref o1), .val (.int p2), .val (.int k)] [(.int (p2 + (2 : Int32))), (.ref o0)])) (fun _ kt => XS.icmpNo X0.here hx rfl (hb hby d7_48) rfl ((tlt hc48).2.2.2) (XS.aloadN X0.here hx rfl (hb hby d7_51) rfl rfl (XS.iloadN X0.here hx rfl (hb hby d7_52) rfl (XS.iconst X0.here hx rfl (hb hby d7_53) (XS.iadd X0.here hx rfl (hb hby d7_54) rfl (kt)))))) ?_
          refine own_ldB X0 hx hZ e0 A1 (j := (p2 + (2 : Int32))) ((own_at0 hat hk hc12).2.2 hc48) (hb hby d7_55) (x := (bs.getD (p2 + (2 : Int32)).toNatClampNeg 0)) rfl ?_
          refine own_run (g' := (mkF m 58 #[.val (.ref o0), .val (.ref o1), .val (.int p2), .val (.int k)] [(.int (2 : Int32)), (.ref o1), (.int (bs.getD (p2 + (2 : Int32)).toNatClampNeg 0))])) (fun _ kt => XS.aloadN X0.here hx rfl (hb hby d7_56) rfl rfl (XS.iconst X0.here hx rfl (hb hby d7_57) (kt))) ?_
          refine own_ldB X0 hx hZ e0 A2 (j := (2 : Int32)) ⟨by decide, hc48⟩ (hb hby d7_58) (x := (ps.getD (2 : Int32).toNatClampNeg 0)) rfl ?_
          by_cases hc59 : (bs.getD (p2 + (2 : Int32)).toNatClampNeg 0) = (ps.getD (2 : Int32).toNatClampNeg 0)
          · refine own_run (g' := (mkF m 65 #[.val (.ref o0), .val (.ref o1), .val (.int p2), .val (.int k)] [(.int (1 : Int32))])) (fun _ kt => XS.icmpYes X0.here hx rfl (pc0 := 59) (pc' := 64) rfl (hb hby d7_59) rfl ((teq hc59).1) (by decide) (by decide) (XS.iconst X0.here hx rfl (hb hby d7_64) (kt))) ?_
            have hf : own_f7_46 p2 k bs ps = (1 : Int32) := by unfold own_f7_46; rw [if_pos hc48, if_pos hc59]
            exact own_retN (t := .boolean) X0 hx Bd.notSynchronized Bd.returns (by simp) (hb hby d7_65) (by decide) (by decide) ⟨congrArg (fun z => some (Value.int z)) hf.symm, N0, e0⟩
          · refine own_run (g' := (mkF m 63 #[.val (.ref o0), .val (.ref o1), .val (.int p2), .val (.int k)] [(.int (0 : Int32))])) (fun _ kt => XS.icmpNo X0.here hx rfl (hb hby d7_59) rfl ((feq hc59).1) (XS.iconst X0.here hx rfl (hb hby d7_62) (kt))) ?_
            have hf : own_f7_46 p2 k bs ps = (0 : Int32) := by unfold own_f7_46; rw [if_pos hc48, if_neg hc59]
            exact own_retN (t := .boolean) X0 hx Bd.notSynchronized Bd.returns (by simp) (hb hby d7_63) (by decide) (by decide) ⟨congrArg (fun z => some (Value.int z)) hf.symm, N0, e0⟩
        · refine own_run (g' := (mkF m 65 #[.val (.ref o0), .val (.ref o1), .val (.int p2), .val (.int k)] [(.int (1 : Int32))])) (fun _ kt => XS.icmpYes X0.here hx rfl (pc0 := 48) (pc' := 64) rfl (hb hby d7_48) rfl ((flt hc48).2.2.2) (by decide) (by decide) (XS.iconst X0.here hx rfl (hb hby d7_64) (kt))) ?_
          have hf : own_f7_46 p2 k bs ps = (1 : Int32) := by unfold own_f7_46; rw [if_neg hc48]
          exact own_retN (t := .boolean) X0 hx Bd.notSynchronized Bd.returns (by simp) (hb hby d7_65) (by decide) (by decide) ⟨congrArg (fun z => some (Value.int z)) hf.symm, N0, e0⟩
      by_cases hc30 : (1 : Int32) < k
      · refine own_run (g' := (mkF m 37 #[.val (.ref o0), .val (.ref o1), .val (.int p2), .val (.int k)] [(.int (p2 + (1 : Int32))), (.ref o0)])) (fun _ kt => XS.icmpNo X0.here hx rfl (hb hby d7_30) rfl ((tlt hc30).2.2.2) (XS.aloadN X0.here hx rfl (hb hby d7_33) rfl rfl (XS.iloadN X0.here hx rfl (hb hby d7_34) rfl (XS.iconst X0.here hx rfl (hb hby d7_35) (XS.iadd X0.here hx rfl (hb hby d7_36) rfl (kt)))))) ?_
        refine own_ldB X0 hx hZ e0 A1 (j := (p2 + (1 : Int32))) ((own_at0 hat hk hc12).2.1 hc30) (hb hby d7_37) (x := (bs.getD (p2 + (1 : Int32)).toNatClampNeg 0)) rfl ?_
        refine own_run (g' := (mkF m 40 #[.val (.ref o0), .val (.ref o1), .val (.int p2), .val (.int k)] [(.int (1 : Int32)), (.ref o1), (.int (bs.getD (p2 + (1 : Int32)).toNatClampNeg 0))])) (fun _ kt => XS.aloadN X0.here hx rfl (hb hby d7_38) rfl rfl (XS.iconst X0.here hx rfl (hb hby d7_39) (kt))) ?_
        refine own_ldB X0 hx hZ e0 A2 (j := (1 : Int32)) ⟨by decide, hc30⟩ (hb hby d7_40) (x := (ps.getD (1 : Int32).toNatClampNeg 0)) rfl ?_
        by_cases hc41 : (bs.getD (p2 + (1 : Int32)).toNatClampNeg 0) = (ps.getD (1 : Int32).toNatClampNeg 0)
        · refine own_run (g' := (mkF m 46 #[.val (.ref o0), .val (.ref o1), .val (.int p2), .val (.int k)] [])) (fun _ kt => XS.icmpYes X0.here hx rfl (pc0 := 41) (pc' := 46) rfl (hb hby d7_41) rfl ((teq hc41).1) (by decide) (by decide) (kt)) ?_
          have hf : own_f7 p2 k bs ps = own_f7_46 p2 k bs ps := by unfold own_f7; rw [if_neg hc12, if_pos hc23, if_pos hc30, if_pos hc41]
          rw [hf]; exact at46
        · refine own_run (g' := (mkF m 45 #[.val (.ref o0), .val (.ref o1), .val (.int p2), .val (.int k)] [(.int (0 : Int32))])) (fun _ kt => XS.icmpNo X0.here hx rfl (hb hby d7_41) rfl ((feq hc41).1) (XS.iconst X0.here hx rfl (hb hby d7_44) (kt))) ?_
          have hf : own_f7 p2 k bs ps = (0 : Int32) := by unfold own_f7; rw [if_neg hc12, if_pos hc23, if_pos hc30, if_neg hc41]
          exact own_retN (t := .boolean) X0 hx Bd.notSynchronized Bd.returns (by simp) (hb hby d7_45) (by decide) (by decide) ⟨congrArg (fun z => some (Value.int z)) hf.symm, N0, e0⟩
      · refine own_run (g' := (mkF m 46 #[.val (.ref o0), .val (.ref o1), .val (.int p2), .val (.int k)] [])) (fun _ kt => XS.icmpYes X0.here hx rfl (pc0 := 30) (pc' := 46) rfl (hb hby d7_30) rfl ((flt hc30).2.2.2) (by decide) (by decide) (kt)) ?_
        have hf : own_f7 p2 k bs ps = own_f7_46 p2 k bs ps := by unfold own_f7; rw [if_neg hc12, if_pos hc23, if_neg hc30]
        rw [hf]; exact at46
    · refine own_run (g' := (mkF m 27 #[.val (.ref o0), .val (.ref o1), .val (.int p2), .val (.int k)] [(.int (0 : Int32))])) (fun _ kt => XS.icmpNo X0.here hx rfl (hb hby d7_23) rfl ((feq hc23).1) (XS.iconst X0.here hx rfl (hb hby d7_26) (kt))) ?_
      have hf : own_f7 p2 k bs ps = (0 : Int32) := by unfold own_f7; rw [if_neg hc12, if_neg hc23]
      exact own_retN (t := .boolean) X0 hx Bd.notSynchronized Bd.returns (by simp) (hb hby d7_27) (by decide) (by decide) ⟨congrArg (fun z => some (Value.int z)) hf.symm, N0, e0⟩
theorem own_pn2 : plainName "com/example/lean_markup/leanmarkup/util/ByteSearchInPinLaw" = true := by first | (simp [plainName, overriddenIn]; done) | decide +kernel
theorem own_ef2 (m : MethodId) (o0 : Addr) (o1 : Addr) (p2 : Int32) (p3 : Int32) (p4 : Int32) : entryFrame m #[(.ref o0), (.ref o1), (.int p2), (.int p3), (.int p4)] 5 = mkF m 0 #[.val (.ref o0), .val (.ref o1), .val (.int p2), .val (.int p3), .val (.int p4)] [] := by first | (simp [entryFrame, mkF, argsToLocals, Value.category]; done) | rfl
def own_R2 : Room := ({ frames := 1, cells := 0, slots := 0, locals := 15 } : Room)
theorem own_pd0 : parseMethodDescriptor "([B[BI)Z" = some ⟨[(.array .byte), (.array .byte), .int], some .boolean⟩ := by decide +kernel
def own_f2 (p2 : Int32) (p3 : Int32) (p4 : Int32) (k : Int32) (bs : List Int32) (ps : List Int32) : Int32 := (if p4 < p2 then (0 : Int32) else (if p3 < (p4 + k) then (0 : Int32) else (if (own_f7 p4 k bs ps) = (0 : Int32) then (0 : Int32) else (1 : Int32))))
def Q2 (z : Int32) (h0 : Heap) (n0 : Nat) (v : Option Value) (h : Heap) (L : List Loc) : Prop := v = some (Value.int z) ∧ Fr n0 L ∧ h = h0
theorem d2_0 : decode method_4_code 0 = .ok (.iload 4, 2) := by decide +kernel
theorem d2_2 : decode method_4_code 2 = .ok (.iload_n 2, 1) := by decide +kernel
theorem d2_3 : decode method_4_code 3 = .ok (.if_icmp .lt 26, 3) := by decide +kernel
theorem d2_6 : decode method_4_code 6 = .ok (.iload 4, 2) := by decide +kernel
theorem d2_8 : decode method_4_code 8 = .ok (.aload_n 1, 1) := by decide +kernel
theorem d2_9 : decode method_4_code 9 = .ok (.arraylength, 1) := by decide +kernel
theorem d2_10 : decode method_4_code 10 = .ok (.iadd, 1) := by decide +kernel
theorem d2_11 : decode method_4_code 11 = .ok (.iload_n 3, 1) := by decide +kernel
theorem d2_12 : decode method_4_code 12 = .ok (.if_icmp .gt 17, 3) := by decide +kernel
theorem d2_15 : decode method_4_code 15 = .ok (.aload_n 0, 1) := by decide +kernel
theorem d2_16 : decode method_4_code 16 = .ok (.aload_n 1, 1) := by decide +kernel
theorem d2_17 : decode method_4_code 17 = .ok (.iload 4, 2) := by decide +kernel
theorem d2_19 : decode method_4_code 19 = .ok (.invokestatic 7, 3) := by decide +kernel
theorem d2_22 : decode method_4_code 22 = .ok (.ifCond .eq 7, 3) := by decide +kernel
theorem d2_25 : decode method_4_code 25 = .ok (.iconst 1, 1) := by decide +kernel
theorem d2_26 : decode method_4_code 26 = .ok (.goto 4, 3) := by decide +kernel
theorem d2_29 : decode method_4_code 29 = .ok (.iconst 0, 1) := by decide +kernel
theorem d2_30 : decode method_4_code 30 = .ok (.ireturn, 1) := by decide +kernel
set_option maxRecDepth 65536 in
set_option maxHeartbeats 40000000 in
theorem rm2 (l : Launch) (Z : State) (a0 : Array Value) (hw : ∀ d ∈ tables_1, d.before a0 Z = true) (ws : List Jvm.Cond) (o0 : Addr) (o1 : Addr) (p2 : Int32) (p3 : Int32) (p4 : Int32) (k : Int32) (bs : List Int32) (ps : List Int32) (h0 : Heap) (n0 : Nat) (A1 : own_A Z h0 o0 .byte (6 : Int32) bs) (A2 : own_A Z h0 o1 .byte k ps) (hk : k = 1 ∨ k = 2 ∨ k = 3) (hat : p4 = 0 ∨ p4 = 1 ∨ p4 = 2 ∨ p4 = 3 ∨ p4 = 4 ∨ p4 = 5) :
    MetFree l (⟨"com/example/lean_markup/leanmarkup/util/ByteSearchInPinLaw", "ok", "([B[BIII)Z"⟩ : MethodName) (head1 (Jvm.Cond.code (⟨"com/example/lean_markup/leanmarkup/util/ByteSearchInPinLaw", "ok", "([B[BIII)Z"⟩ : MethodName) method_4_code 5 (some .boolean) :: ws) own_R2) (fun a U => a = #[(.ref o0), (.ref o1), (.int p2), (.int p3), (.int p4)] ∧ Z.Warmed39 U.vm ∧ U.heap = h0) (fun _ _ _ _ _ => True) (fun _ U o U' => ∃ v L, o = .returned v ∧ Q2 (own_f2 p2 p3 p4 k bs ps) h0 n0 v U'.heap L ∧ FrameEnd U o U' L own_R2.cells own_R2.slots) := by
  refine MetFree.of_bodySF (plainFor_of_name own_pn2) hisR ?_
  intro p e s m args below meth c s₁ Bd hml0 hP hK
  obtain ⟨ha, hZ, hh⟩ := hP
  have hx := Bd.exec
  have hby := Bd.bytes
  have hml : c.maxLocals = 5 := hml0
  have hown : s.vm.findClass "com/example/lean_markup/leanmarkup/util/ByteSearchInPinLaw" = some m.cls := findClass_of_methodNamed Bd.named
  have hnm := (name_of_methodNamed Bd.named Bd.method).1
  have X0 : Stand p l e own_R2 s m args below meth c s₁ [] 0 0 := Stand.of_body Bd
  have e0 : s₁.heap = h0 := by rw [← hh, Bd.state]; rfl
  have N0 := Fr.nil n0
  refine own_enter (Q := (Q2 (own_f2 p2 p3 p4 k bs ps) h0 n0)) (g := mkF m 0 #[.val (.ref o0), .val (.ref o1), .val (.int p2), .val (.int p3), .val (.int p4)] []) (by rw [ha]; exact own_ef2 m o0 o1 p2 p3 p4) ?_
  refine own_run (g' := (mkF m 3 #[.val (.ref o0), .val (.ref o1), .val (.int p2), .val (.int p3), .val (.int p4)] [(.int p2), (.int p4)])) (fun _ kt => XS.iload X0.here hx rfl (hb hby d2_0) rfl (XS.iloadN X0.here hx rfl (hb hby d2_2) rfl (kt))) ?_
  by_cases hc3 : p4 < p2
  · refine own_run (g' := (mkF m 30 #[.val (.ref o0), .val (.ref o1), .val (.int p2), .val (.int p3), .val (.int p4)] [(.int (0 : Int32))])) (fun _ kt => XS.icmpYes X0.here hx rfl (pc0 := 3) (pc' := 29) rfl (hb hby d2_3) rfl ((tlt hc3).1) (by decide) (by decide) (XS.iconst X0.here hx rfl (hb hby d2_29) (kt))) ?_
    have hf : own_f2 p2 p3 p4 k bs ps = (0 : Int32) := by unfold own_f2; rw [if_pos hc3]
    exact own_retN (t := .boolean) X0 hx Bd.notSynchronized Bd.returns (by simp) (hb hby d2_30) (by decide) (by decide) ⟨congrArg (fun z => some (Value.int z)) hf.symm, N0, e0⟩
  · refine own_run (g' := (mkF m 9 #[.val (.ref o0), .val (.ref o1), .val (.int p2), .val (.int p3), .val (.int p4)] [(.ref o1), (.int p4)])) (fun _ kt => XS.icmpNo X0.here hx rfl (hb hby d2_3) rfl ((flt hc3).1) (XS.iload X0.here hx rfl (hb hby d2_6) rfl (XS.aloadN X0.here hx rfl (hb hby d2_8) rfl rfl (kt)))) ?_
    refine own_len X0 hx hZ e0 A2 (hb hby d2_9) ?_
    refine own_run (g' := (mkF m 12 #[.val (.ref o0), .val (.ref o1), .val (.int p2), .val (.int p3), .val (.int p4)] [(.int p3), (.int (p4 + k))])) (fun _ kt => XS.iadd X0.here hx rfl (hb hby d2_10) rfl (XS.iloadN X0.here hx rfl (hb hby d2_11) rfl (kt))) ?_
    by_cases hc12 : p3 < (p4 + k)
    · refine own_run (g' := (mkF m 30 #[.val (.ref o0), .val (.ref o1), .val (.int p2), .val (.int p3), .val (.int p4)] [(.int (0 : Int32))])) (fun _ kt => XS.icmpYes X0.here hx rfl (pc0 := 12) (pc' := 29) rfl (hb hby d2_12) rfl ((tlt hc12).2.2.1) (by decide) (by decide) (XS.iconst X0.here hx rfl (hb hby d2_29) (kt))) ?_
      have hf : own_f2 p2 p3 p4 k bs ps = (0 : Int32) := by unfold own_f2; rw [if_neg hc3, if_pos hc12]
      exact own_retN (t := .boolean) X0 hx Bd.notSynchronized Bd.returns (by simp) (hb hby d2_30) (by decide) (by decide) ⟨congrArg (fun z => some (Value.int z)) hf.symm, N0, e0⟩
    · refine own_run (g' := (mkF m 19 #[.val (.ref o0), .val (.ref o1), .val (.int p2), .val (.int p3), .val (.int p4)] [(.int p4), (.ref o1), (.ref o0)])) (fun _ kt => XS.icmpNo X0.here hx rfl (hb hby d2_12) rfl ((flt hc12).2.2.1) (XS.aloadN X0.here hx rfl (hb hby d2_15) rfl rfl (XS.aloadN X0.here hx rfl (hb hby d2_16) rfl rfl (XS.iload X0.here hx rfl (hb hby d2_17) rfl (kt))))) ?_
      refine own_callS X0 hx hZ hown (hw _ (List.mem_of_getElem? (i := 32) rfl)) (hw _ (List.mem_of_getElem? (i := 33) rfl)) (hw _ (List.mem_of_getElem? (i := 3) rfl)) (hw _ (List.mem_of_getElem? (i := 34) rfl)) (by decide) (rm7 l Z a0 hw [] o0 o1 p4 k bs ps h0 n0 A1 A2 hk hat) e0 (by decide) (by decide) (by decide) (by decide) (by rw [hml]; rfl) (argsL := [(.ref o0), (.ref o1), (.int p4)]) (rest := []) (lenOf own_pd0 rfl) rfl (W := 0) (Nat.le_of_eq rfl) (hb hby d2_19) ?_
      intro T1 r1 L1 X1 hQ1
      obtain ⟨rfl, Nq1, e1⟩ := hQ1
      have N1 := Fr.app N0 Nq1
      by_cases hc22 : (own_f7 p4 k bs ps) = (0 : Int32)
      · refine own_run (g' := (mkF m 30 #[.val (.ref o0), .val (.ref o1), .val (.int p2), .val (.int p3), .val (.int p4)] [(.int (0 : Int32))])) (fun _ kt => XS.ifYes X1.here hx rfl (pc0 := 22) (pc' := 29) rfl (hb hby d2_22) rfl ((if0 _ _).trans (teq hc22).1) (by decide) (by decide) (XS.iconst X1.here hx rfl (hb hby d2_29) (kt))) ?_
        have hf : own_f2 p2 p3 p4 k bs ps = (0 : Int32) := by unfold own_f2; rw [if_neg hc3, if_neg hc12, if_pos hc22]
        exact own_retN (t := .boolean) X1 hx Bd.notSynchronized Bd.returns (by simp) (hb hby d2_30) (by decide) (by decide) ⟨congrArg (fun z => some (Value.int z)) hf.symm, N1, e1⟩
      · refine own_run (g' := (mkF m 30 #[.val (.ref o0), .val (.ref o1), .val (.int p2), .val (.int p3), .val (.int p4)] [(.int (1 : Int32))])) (fun _ kt => XS.ifNo X1.here hx rfl (hb hby d2_22) rfl ((if0 _ _).trans (feq hc22).1) (XS.iconst X1.here hx rfl (hb hby d2_25) (XS.goto X1.here hx rfl (pc0 := 26) (pc' := 30) rfl (hb hby d2_26) (by decide) (by decide) (kt)))) ?_
        have hf : own_f2 p2 p3 p4 k bs ps = (1 : Int32) := by unfold own_f2; rw [if_neg hc3, if_neg hc12, if_neg hc22]
        exact own_retN (t := .boolean) X1 hx Bd.notSynchronized Bd.returns (by simp) (hb hby d2_30) (by decide) (by decide) ⟨congrArg (fun z => some (Value.int z)) hf.symm, N1, e1⟩
theorem own_pn5 : plainName "java/util/Arrays" = true := by first | (simp [plainName, overriddenIn]; done) | decide +kernel
theorem own_ef5 (m : MethodId) (o0 : Addr) (p1 : Int32) : entryFrame m #[(.ref o0), (.int p1)] 4 = mkF m 0 #[.val (.ref o0), .val (.int p1), .unset, .unset] [] := by first | (simp [entryFrame, mkF, argsToLocals, Value.category]; done) | rfl
def own_R5 : Room := ({ frames := 0, cells := 0, slots := 0, locals := 0 } : Room)
def Q5 (Z : State) (o0 : Addr) (p1 : Int32) (h0 : Heap) (n0 : Nat) (v : Option Value) (h : Heap) (L : List Loc) : Prop := v = none ∧ Fr n0 L ∧ Keep h0 h [o0] ∧ own_A Z h o0 .int (256 : Int32) (List.replicate 256 p1)
theorem own_fill (xs : List Int32) (p : Int32) (j : Nat) (hl : xs.length = 256) (hj : j < 256) : (List.replicate j p ++ xs.drop j).set j p = List.replicate (j + 1) p ++ xs.drop (j + 1) := by
  rw [List.set_append_right _ _ (by simp)]
  have : xs.drop j = xs[j]'(by omega) :: xs.drop (j + 1) := (List.drop_eq_getElem_cons (by omega))
  rw [List.length_replicate, Nat.sub_self, this, List.set_cons_zero, List.replicate_succ', List.append_assoc, List.singleton_append]
theorem d5_0 : decode jdk_65_method_103_code 0 = .ok (.iconst 0, 1) := by decide +kernel
theorem d5_1 : decode jdk_65_method_103_code 1 = .ok (.istore_n 2, 1) := by decide +kernel
theorem d5_2 : decode jdk_65_method_103_code 2 = .ok (.aload_n 0, 1) := by decide +kernel
theorem d5_3 : decode jdk_65_method_103_code 3 = .ok (.arraylength, 1) := by decide +kernel
theorem d5_4 : decode jdk_65_method_103_code 4 = .ok (.istore_n 3, 1) := by decide +kernel
theorem d5_5 : decode jdk_65_method_103_code 5 = .ok (.iload_n 2, 1) := by decide +kernel
theorem d5_6 : decode jdk_65_method_103_code 6 = .ok (.iload_n 3, 1) := by decide +kernel
theorem d5_7 : decode jdk_65_method_103_code 7 = .ok (.if_icmp .ge 13, 3) := by decide +kernel
theorem d5_10 : decode jdk_65_method_103_code 10 = .ok (.aload_n 0, 1) := by decide +kernel
theorem d5_11 : decode jdk_65_method_103_code 11 = .ok (.iload_n 2, 1) := by decide +kernel
theorem d5_12 : decode jdk_65_method_103_code 12 = .ok (.iload_n 1, 1) := by decide +kernel
theorem d5_13 : decode jdk_65_method_103_code 13 = .ok (.iastore, 1) := by decide +kernel
theorem d5_14 : decode jdk_65_method_103_code 14 = .ok (.iinc 2 1, 3) := by decide +kernel
theorem d5_17 : decode jdk_65_method_103_code 17 = .ok (.goto (-12), 3) := by decide +kernel
theorem d5_20 : decode jdk_65_method_103_code 20 = .ok (.return_, 1) := by decide +kernel
set_option maxRecDepth 65536 in
set_option maxHeartbeats 40000000 in
theorem rm5 (l : Launch) (Z : State) (a0 : Array Value) (hw : ∀ d ∈ tables_1, d.before a0 Z = true) (ws : List Jvm.Cond) (o0 : Addr) (p1 : Int32) (xs : List Int32) (h0 : Heap) (n0 : Nat) (Z0 : n0 ≤ h0.size) (A0 : own_A Z h0 o0 .int (256 : Int32) xs) (g_o0 : n0 ≤ o0) :
    MetFree l (⟨"java/util/Arrays", "fill", "([II)V"⟩ : MethodName) (head1 (Jvm.Cond.code (⟨"java/util/Arrays", "fill", "([II)V"⟩ : MethodName) jdk_65_method_103_code 4 none :: ws) own_R5) (fun a U => a = #[(.ref o0), (.int p1)] ∧ Z.Warmed39 U.vm ∧ U.heap = h0) (fun _ _ _ _ _ => True) (fun _ U o U' => ∃ v L, o = .returned v ∧ Q5 Z o0 p1 h0 n0 v U'.heap L ∧ FrameEnd U o U' L own_R5.cells own_R5.slots) := by
  refine MetFree.of_bodySF (plainFor_of_name own_pn5) hisR ?_
  intro p e s m args below meth c s₁ Bd hml0 hP hK
  obtain ⟨ha, hZ, hh⟩ := hP
  have hx := Bd.exec
  have hby := Bd.bytes
  have hml : c.maxLocals = 4 := hml0
  have hown : s.vm.findClass "java/util/Arrays" = some m.cls := findClass_of_methodNamed Bd.named
  have hnm := (name_of_methodNamed Bd.named Bd.method).1
  have X0 : Stand p l e own_R5 s m args below meth c s₁ [] 0 0 := Stand.of_body Bd
  have e0 : s₁.heap = h0 := by rw [← hh, Bd.state]; rfl
  have N0 := Fr.nil n0
  refine own_enter (Q := (Q5 Z o0 p1 h0 n0)) (g := mkF m 0 #[.val (.ref o0), .val (.int p1), .unset, .unset] []) (by rw [ha]; exact own_ef5 m o0 p1) ?_
  have hlen : xs.length = 256 := A0.1
  refine own_run (g' := (mkF m 3 #[.val (.ref o0), .val (.int p1), .val (.int (0 : Int32)), .unset] [(.ref o0)])) (fun _ kt => XS.iconst X0.here hx rfl (hb hby d5_0) (XS.istoreN X0.here hx rfl (hb hby d5_1) rfl (l' := #[.val (.ref o0), .val (.int p1), .val (.int (0 : Int32)), .unset]) rfl (XS.aloadN X0.here hx rfl (hb hby d5_2) rfl rfl (kt)))) ?_
  refine own_len X0 hx hZ e0 A0 (hb hby d5_3) ?_
  refine own_run (g' := (mkF m 5 #[.val (.ref o0), .val (.int p1), .val (.int (0 : Int32)), .val (.int (256 : Int32))] [])) (fun _ kt => XS.istoreN X0.here hx rfl (hb hby d5_4) rfl (l' := #[.val (.ref o0), .val (.int p1), .val (.int (0 : Int32)), .val (.int (256 : Int32))]) rfl (kt)) ?_
  have loop1 : ∀ (mz : Nat) (T1 : State) (L1 : List Loc) (h1 : Heap) (i : Int32) (ys : List Int32) (j : Nat), Stand p l e own_R5 s m args below meth c T1 L1 0 0 → Fr n0 L1 → T1.heap = h1 → n0 ≤ h1.size → Keep h0 h1 [o0] → own_A Z h1 o0 .int (256 : Int32) ys → (i = Int32.ofNat j) → (j ≤ 256) → (ys = List.replicate j p1 ++ xs.drop j) → 256 - j = mz → own_Run p e below s own_R5.cells own_R5.slots (Q5 Z o0 p1 h0 n0) T1 (mkF m 5 #[.val (.ref o0), .val (.int p1), .val (.int i), .val (.int (256 : Int32))] []) := by
    intro mz
    induction mz using Nat.strongRecOn with
    | _ mz ih1 =>
      intro T1 L1 h1 i ys j X1 N1 e1 Zh1 Kh1 A2 hij hj hys hmz
      refine own_run (g' := (mkF m 7 #[.val (.ref o0), .val (.int p1), .val (.int i), .val (.int (256 : Int32))] [(.int (256 : Int32)), (.int i)])) (fun _ kt => XS.iloadN X1.here hx rfl (hb hby d5_5) rfl (XS.iloadN X1.here hx rfl (hb hby d5_6) rfl (kt))) ?_
      have hjc : i.toNatClampNeg = j := by rw [hij]; exact own_clamp (by omega)
      have hcc : i < (256 : Int32) ↔ j < 256 := by rw [hij]; exact own_ofnat_lt (by omega)
      by_cases hc7 : i < (256 : Int32)
      · refine own_run (g' := (mkF m 10 #[.val (.ref o0), .val (.int p1), .val (.int i), .val (.int (256 : Int32))] [])) (fun _ kt => XS.icmpNo X1.here hx rfl (hb hby d5_7) rfl ((tlt hc7).2.1) (kt)) ?_
        have hjn : j < 256 := hcc.mp hc7
        refine own_run (g' := (mkF m 13 #[.val (.ref o0), .val (.int p1), .val (.int i), .val (.int (256 : Int32))] [(.int p1), (.int i), (.ref o0)])) (fun _ kt => XS.aloadN X1.here hx rfl (hb hby d5_10) rfl rfl (XS.iloadN X1.here hx rfl (hb hby d5_11) rfl (XS.iloadN X1.here hx rfl (hb hby d5_12) rfl (kt)))) ?_
        refine own_stI X1 hx hZ e1 A2 (j := i) ⟨by rw [hij]; exact own_ofnat_nn (by omega), hc7⟩ N1 g_o0 (hb hby d5_13) (ys := (ys.set i.toNatClampNeg p1)) rfl ?_
        intro T3 h3 L3 X3 N3 e3 W3 A3
        have KpW3 : Keep h0 h3 [o0] := Keep.wr Kh1 W3 (Or.inl (List.mem_of_getElem? (i := 0) rfl))
        have ZW3 : n0 ≤ h3.size := Nat.le_trans Zh1 (Keep.of_wr W3).1
        refine own_run (g' := (mkF m 5 #[.val (.ref o0), .val (.int p1), .val (.int (i + (1 : Int32))), .val (.int (256 : Int32))] [])) (fun _ kt => XS.iinc X3.here hx rfl (hb hby d5_14) rfl (l' := #[.val (.ref o0), .val (.int p1), .val (.int (i + (1 : Int32))), .val (.int (256 : Int32))]) rfl (XS.goto X3.here hx rfl (pc0 := 17) (pc' := 5) rfl (hb hby d5_17) (by decide) (by decide) (kt))) ?_
        exact ih1 _ (by omega) T3 _ h3 (i + (1 : Int32)) (ys.set i.toNatClampNeg p1) (j + 1) X3 N3 e3 ZW3 KpW3 A3 (by rw [hij]; exact own_one _) hjn (by rw [hys, hjc]; exact own_fill xs p1 j hlen hjn) rfl
      · refine own_run (g' := (mkF m 20 #[.val (.ref o0), .val (.int p1), .val (.int i), .val (.int (256 : Int32))] [])) (fun _ kt => XS.icmpYes X1.here hx rfl (pc0 := 7) (pc' := 20) rfl (hb hby d5_7) rfl ((flt hc7).2.1) (by decide) (by decide) (kt)) ?_
        have hend : ys = List.replicate 256 p1 := by rw [hys, show j = 256 from by have : ¬ j < 256 := fun q => hc7 (hcc.mpr q); omega]; simp [hlen]
        exact own_retV X1 hx Bd.notSynchronized Bd.returns (hb hby d5_20) (by decide) (by decide) (by rw [e1]; exact ⟨rfl, N1, Kh1, hend ▸ A2⟩)
  exact loop1 _ s₁ _ h0 (0 : Int32) xs 0 X0 N0 e0 Z0 (Keep.refl h0 [o0]) A0 rfl (Nat.zero_le _) (by simp) rfl
theorem own_pn3 : plainName "com/example/lean_markup/leanmarkup/util/ByteSearch" = true := by first | (simp [plainName, overriddenIn]; done) | decide +kernel
theorem own_ef3 (m : MethodId) (o0 : Addr) (o1 : Addr) : entryFrame m #[(.ref o0), (.ref o1)] 3 = mkF m 0 #[.val (.ref o0), .val (.ref o1), .unset] [] := by first | (simp [entryFrame, mkF, argsToLocals, Value.category]; done) | rfl
def own_R3 : Room := ({ frames := 1, cells := 1, slots := 256, locals := 15 } : Room)
def own_mv (ps : List Int32) (k : Int32) : Nat → List Int32
  | 0 => List.replicate 256 k
  | j + 1 => (own_mv ps k j).set ((ps.getD j 0) &&& (255 : Int32)).toNatClampNeg ((k - (1 : Int32)) - Int32.ofNat j)
theorem own_b255 (x : Int32) : ¬ (x &&& (255 : Int32)) < 0 ∧ (x &&& (255 : Int32)) < (256 : Int32) := by
  have e := Jvm.Kit.i32_mask x 255 (k := 8) (by decide) (by decide)
  rw [Int32.lt_iff_toInt_lt, Int32.lt_iff_toInt_lt, e]
  have h0 : (0 : Int32).toInt = 0 := rfl
  have h1 : (256 : Int32).toInt = 256 := rfl
  omega
def Q3 (Z : State) (o0 o1 : Addr) (k : Int32) (ps : List Int32) (h0 : Heap) (n0 : Nat) (v : Option Value) (h : Heap) (L : List Loc) : Prop := v = none ∧ Fr n0 L ∧ Keep h0 h [o0] ∧ ∃ x : Addr, n0 ≤ x ∧ o0 ≠ x ∧ Fld Z h o0 "com/example/lean_markup/leanmarkup/util/ByteSearch" "moves" "[I" (.ref x) ∧ Fld Z h o0 "com/example/lean_markup/leanmarkup/util/ByteSearch" "part" "[B" (.ref o1) ∧ own_A Z h x .int (256 : Int32) (own_mv ps k (k.toNatClampNeg - 1))
theorem own_pd1 : parseMethodDescriptor "([II)V" = some ⟨[(.array .int), .int], none⟩ := by decide +kernel
theorem d3_0 : decode prog_202_method_1_code 0 = .ok (.aload_n 0, 1) := by decide +kernel
theorem d3_1 : decode prog_202_method_1_code 1 = .ok (.invokespecial 1, 3) := by decide +kernel
theorem d3_4 : decode prog_202_method_1_code 4 = .ok (.aload_n 0, 1) := by decide +kernel
theorem d3_5 : decode prog_202_method_1_code 5 = .ok (.sipush 256, 3) := by decide +kernel
theorem d3_8 : decode prog_202_method_1_code 8 = .ok (.newarray .int, 2) := by decide +kernel
theorem d3_10 : decode prog_202_method_1_code 10 = .ok (.putfield 7, 3) := by decide +kernel
theorem d3_13 : decode prog_202_method_1_code 13 = .ok (.aload_n 1, 1) := by decide +kernel
theorem d3_14 : decode prog_202_method_1_code 14 = .ok (.arraylength, 1) := by decide +kernel
theorem d3_15 : decode prog_202_method_1_code 15 = .ok (.ifCond .ne 13, 3) := by decide +kernel
theorem d3_28 : decode prog_202_method_1_code 28 = .ok (.aload_n 0, 1) := by decide +kernel
theorem d3_29 : decode prog_202_method_1_code 29 = .ok (.aload_n 1, 1) := by decide +kernel
theorem d3_30 : decode prog_202_method_1_code 30 = .ok (.putfield 20, 3) := by decide +kernel
theorem d3_33 : decode prog_202_method_1_code 33 = .ok (.aload_n 0, 1) := by decide +kernel
theorem d3_34 : decode prog_202_method_1_code 34 = .ok (.getfield 7, 3) := by decide +kernel
theorem d3_37 : decode prog_202_method_1_code 37 = .ok (.aload_n 1, 1) := by decide +kernel
theorem d3_38 : decode prog_202_method_1_code 38 = .ok (.arraylength, 1) := by decide +kernel
theorem d3_39 : decode prog_202_method_1_code 39 = .ok (.invokestatic 24, 3) := by decide +kernel
theorem d3_42 : decode prog_202_method_1_code 42 = .ok (.iconst 0, 1) := by decide +kernel
theorem d3_43 : decode prog_202_method_1_code 43 = .ok (.istore_n 2, 1) := by decide +kernel
theorem d3_44 : decode prog_202_method_1_code 44 = .ok (.iload_n 2, 1) := by decide +kernel
theorem d3_45 : decode prog_202_method_1_code 45 = .ok (.aload_n 1, 1) := by decide +kernel
theorem d3_46 : decode prog_202_method_1_code 46 = .ok (.arraylength, 1) := by decide +kernel
theorem d3_47 : decode prog_202_method_1_code 47 = .ok (.iconst 1, 1) := by decide +kernel
theorem d3_48 : decode prog_202_method_1_code 48 = .ok (.isub, 1) := by decide +kernel
theorem d3_49 : decode prog_202_method_1_code 49 = .ok (.if_icmp .ge 27, 3) := by decide +kernel
theorem d3_52 : decode prog_202_method_1_code 52 = .ok (.aload_n 0, 1) := by decide +kernel
theorem d3_53 : decode prog_202_method_1_code 53 = .ok (.getfield 7, 3) := by decide +kernel
theorem d3_56 : decode prog_202_method_1_code 56 = .ok (.aload_n 1, 1) := by decide +kernel
theorem d3_57 : decode prog_202_method_1_code 57 = .ok (.iload_n 2, 1) := by decide +kernel
theorem d3_58 : decode prog_202_method_1_code 58 = .ok (.baload, 1) := by decide +kernel
theorem d3_59 : decode prog_202_method_1_code 59 = .ok (.sipush 255, 3) := by decide +kernel
theorem d3_62 : decode prog_202_method_1_code 62 = .ok (.iand, 1) := by decide +kernel
theorem d3_63 : decode prog_202_method_1_code 63 = .ok (.aload_n 1, 1) := by decide +kernel
theorem d3_64 : decode prog_202_method_1_code 64 = .ok (.arraylength, 1) := by decide +kernel
theorem d3_65 : decode prog_202_method_1_code 65 = .ok (.iconst 1, 1) := by decide +kernel
theorem d3_66 : decode prog_202_method_1_code 66 = .ok (.isub, 1) := by decide +kernel
theorem d3_67 : decode prog_202_method_1_code 67 = .ok (.iload_n 2, 1) := by decide +kernel
theorem d3_68 : decode prog_202_method_1_code 68 = .ok (.isub, 1) := by decide +kernel
theorem d3_69 : decode prog_202_method_1_code 69 = .ok (.iastore, 1) := by decide +kernel
theorem d3_70 : decode prog_202_method_1_code 70 = .ok (.iinc 2 1, 3) := by decide +kernel
theorem d3_73 : decode prog_202_method_1_code 73 = .ok (.goto (-29), 3) := by decide +kernel
theorem d3_76 : decode prog_202_method_1_code 76 = .ok (.return_, 1) := by decide +kernel
set_option maxRecDepth 65536 in
set_option maxHeartbeats 40000000 in
theorem rm3 (l : Launch) (Z : State) (a0 : Array Value) (hw : ∀ d ∈ tables_1, d.before a0 Z = true) (ws : List Jvm.Cond) (o0 : Addr) (o1 : Addr) (k : Int32) (ps : List Int32) (h0 : Heap) (n0 : Nat) (Z0 : n0 ≤ h0.size) (K0 : Exa Z h0 o0 "com/example/lean_markup/leanmarkup/util/ByteSearch") (F1 : Fld Z h0 o0 "com/example/lean_markup/leanmarkup/util/ByteSearch" "moves" "[I" .null) (F2 : Fld Z h0 o0 "com/example/lean_markup/leanmarkup/util/ByteSearch" "part" "[B" .null) (A1 : own_A Z h0 o1 .byte k ps) (g_o0 : n0 ≤ o0) (ne_o0_o1 : o0 ≠ o1) (hk : k = 1 ∨ k = 2 ∨ k = 3) :
    MetFree l (⟨"com/example/lean_markup/leanmarkup/util/ByteSearch", "<init>", "([B)V"⟩ : MethodName) (head1 (Jvm.Cond.code (⟨"com/example/lean_markup/leanmarkup/util/ByteSearch", "<init>", "([B)V"⟩ : MethodName) prog_202_method_1_code 3 none :: ws) own_R3) (fun a U => a = #[(.ref o0), (.ref o1)] ∧ Z.Warmed39 U.vm ∧ U.heap = h0) (fun _ _ _ _ _ => True) (fun _ U o U' => ∃ v L, o = .returned v ∧ Q3 Z o0 o1 k ps h0 n0 v U'.heap L ∧ FrameEnd U o U' L own_R3.cells own_R3.slots) := by
  refine MetFree.of_bodySF (plainFor_of_name own_pn3) hisR ?_
  intro p e s m args below meth c s₁ Bd hml0 hP hK
  obtain ⟨ha, hZ, hh⟩ := hP
  have hx := Bd.exec
  have hby := Bd.bytes
  have hml : c.maxLocals = 3 := hml0
  have hown : s.vm.findClass "com/example/lean_markup/leanmarkup/util/ByteSearch" = some m.cls := findClass_of_methodNamed Bd.named
  have hnm := (name_of_methodNamed Bd.named Bd.method).1
  have X0 : Stand p l e own_R3 s m args below meth c s₁ [] 0 0 := Stand.of_body Bd
  have e0 : s₁.heap = h0 := by rw [← hh, Bd.state]; rfl
  have N0 := Fr.nil n0
  refine own_enter (Q := (Q3 Z o0 o1 k ps h0 n0)) (g := mkF m 0 #[.val (.ref o0), .val (.ref o1), .unset] []) (by rw [ha]; exact own_ef3 m o0 o1) ?_
  refine own_run (g' := (mkF m 1 #[.val (.ref o0), .val (.ref o1), .unset] [(.ref o0)])) (fun _ kt => XS.aloadN X0.here hx rfl (hb hby d3_0) rfl rfl (kt)) ?_
  refine own_initO X0 hx hZ hown (hw _ (List.mem_of_getElem? (i := 15) rfl)) (hw _ (List.mem_of_getElem? (i := 16) rfl)) (hw _ (List.mem_of_getElem? (i := 17) rfl)) e0 (by rw [hml]; rfl) (hb hby d3_1) (by decide) (W := 0) (Nat.le_of_eq rfl) (by decide) ?_
  intro T1 X1 e1
  refine own_run (g' := (mkF m 8 #[.val (.ref o0), .val (.ref o1), .unset] [(.int (256 : Int32)), (.ref o0)])) (fun _ kt => XS.aloadN X1.here hx rfl (hb hby d3_4) rfl rfl (XS.sipush X1.here hx rfl (hb hby d3_5) (kt))) ?_
  refine own_newA X1 hx hZ (aty := .int) (hw _ (List.mem_of_getElem? (i := 18) rfl)) (ty := .int) rfl rfl e1 (hb hby d3_8) (by decide) (cap := 256) (by decide) (by decide) (by decide) (by decide) ?_
  intro T2 h2 b2 qq2 X2 e2 E2 A2
  have ne_o0_b2 : o0 ≠ b2 := Nat.ne_of_lt (by rw [qq2]; exact K0.lt)
  have ne_o1_b2 : o1 ≠ b2 := Nat.ne_of_lt (by rw [qq2]; exact A1.lt)
  replace K0 := K0.ext E2
  replace F1 := F1.ext E2
  replace F2 := F2.ext E2
  replace A1 := A1.ext E2
  have g_b2 : n0 ≤ b2 := by rw [qq2]; exact Z0
  have Z2 : n0 ≤ h2.size := Nat.le_trans Z0 E2.1
  have sz_b2 : h0.size ≤ b2 := by rw [qq2]; exact (Keep.refl h0 [o0]).1
  have Kp2 : Keep h0 h2 [o0] := Keep.ext (Keep.refl h0 [o0]) E2
  refine own_putF X2 hx hZ hown (host := "") (Or.inl (hw _ (List.mem_of_getElem? (i := 19) rfl))) Via.refl e2 F1 K0 (Or.inr ⟨(hw _ (List.mem_of_getElem? (i := 20) rfl)), rfl, hnm⟩) (hw _ (List.mem_of_getElem? (i := 10) rfl)) (ty := (.array .int)) (by decide) rfl rfl N0 g_o0 (hb hby d3_10) ?_
  intro T3 h3 L3 X3 N3 e3 W3 F3
  replace K0 := K0.wr W3
  replace F2 := F2.other W3 (Or.inr (slot_ne (Or.inr (hw _ (List.mem_of_getElem? (i := 22) rfl))) (Or.inr (hw _ (List.mem_of_getElem? (i := 20) rfl))) (by decide) (t := (.array .byte)) (t' := (.array .int)) (by decide) (by decide)))
  replace A1 := A1.other W3 (Ne.symm ne_o0_o1)
  replace A2 := A2.other W3 (Ne.symm ne_o0_b2)
  have KpW3 : Keep h0 h3 [o0] := Keep.wr Kp2 W3 (Or.inl (List.mem_of_getElem? (i := 0) rfl))
  have ZW3 : n0 ≤ h3.size := Nat.le_trans Z2 (Keep.of_wr W3).1
  refine own_run (g' := (mkF m 14 #[.val (.ref o0), .val (.ref o1), .unset] [(.ref o1)])) (fun _ kt => XS.aloadN X3.here hx rfl (hb hby d3_13) rfl rfl (kt)) ?_
  refine own_len X3 hx hZ e3 A1 (hb hby d3_14) ?_
  have hd15 : ¬ (k = (0 : Int32)) := by rcases hk with h | h | h <;> subst h <;> decide
  refine own_run (g' := (mkF m 30 #[.val (.ref o0), .val (.ref o1), .unset] [(.ref o1), (.ref o0)])) (fun _ kt => XS.ifYes X3.here hx rfl (pc0 := 15) (pc' := 28) rfl (hb hby d3_15) rfl ((if0 _ _).trans (feq hd15).2) (by decide) (by decide) (XS.aloadN X3.here hx rfl (hb hby d3_28) rfl rfl (XS.aloadN X3.here hx rfl (hb hby d3_29) rfl rfl (kt)))) ?_
  refine own_putF X3 hx hZ hown (host := "") (Or.inl (hw _ (List.mem_of_getElem? (i := 21) rfl))) Via.refl e3 F2 K0 (Or.inr ⟨(hw _ (List.mem_of_getElem? (i := 22) rfl)), rfl, hnm⟩) (hw _ (List.mem_of_getElem? (i := 10) rfl)) (ty := (.array .byte)) (by decide) rfl rfl N3 g_o0 (hb hby d3_30) ?_
  intro T4 h4 L4 X4 N4 e4 W4 F4
  replace K0 := K0.wr W4
  replace F3 := F3.other W4 (Or.inr (slot_ne (Or.inr (hw _ (List.mem_of_getElem? (i := 20) rfl))) (Or.inr (hw _ (List.mem_of_getElem? (i := 22) rfl))) (by decide) (t := (.array .int)) (t' := (.array .byte)) (by decide) (by decide)))
  replace A1 := A1.other W4 (Ne.symm ne_o0_o1)
  replace A2 := A2.other W4 (Ne.symm ne_o0_b2)
  have KpW4 : Keep h0 h4 [o0] := Keep.wr KpW3 W4 (Or.inl (List.mem_of_getElem? (i := 0) rfl))
  have ZW4 : n0 ≤ h4.size := Nat.le_trans ZW3 (Keep.of_wr W4).1
  refine own_run (g' := (mkF m 34 #[.val (.ref o0), .val (.ref o1), .unset] [(.ref o0)])) (fun _ kt => XS.aloadN X4.here hx rfl (hb hby d3_33) rfl rfl (kt)) ?_
  refine own_getF X4 hx hZ hown (host := "") (Or.inl (hw _ (List.mem_of_getElem? (i := 19) rfl))) Via.refl e4 F3 (hb hby d3_34) ?_
  intro T5 X5 e5
  refine own_run (g' := (mkF m 38 #[.val (.ref o0), .val (.ref o1), .unset] [(.ref o1), (.ref b2)])) (fun _ kt => XS.aloadN X5.here hx rfl (hb hby d3_37) rfl rfl (kt)) ?_
  refine own_len X5 hx hZ e5 A1 (hb hby d3_38) ?_
  refine own_callS X5 hx hZ hown (hw _ (List.mem_of_getElem? (i := 23) rfl)) (hw _ (List.mem_of_getElem? (i := 24) rfl)) (hw _ (List.mem_of_getElem? (i := 25) rfl)) (hw _ (List.mem_of_getElem? (i := 26) rfl)) (by decide) (rm5 l Z a0 hw [] b2 k (List.replicate (256 : Int32).toNatClampNeg 0) h4 n0 ZW4 A2 g_b2) e5 (by decide) (by decide) (by decide) (by decide) (by rw [hml]; rfl) (argsL := [(.ref b2), (.int k)]) (rest := []) (lenOf own_pd1 rfl) rfl (W := 0) (Nat.le_of_eq rfl) (hb hby d3_39) ?_
  intro T6 r6 L6 X6 hQ6
  obtain ⟨rfl, Nq6, Kc6, A6⟩ := hQ6
  have N6 := Fr.app N4 Nq6
  replace K0 := K0.keep Kc6
  replace F3 := F3.keep Kc6 (ninS ne_o0_b2 nin0)
  replace F4 := F4.keep Kc6 (ninS ne_o0_b2 nin0)
  replace A1 := A1.keep Kc6 (ninS ne_o1_b2 nin0)
  have Z6 : n0 ≤ T6.heap.size := Nat.le_trans ZW4 Kc6.1
  have Kp6 : Keep h0 T6.heap [o0] := Keep.trans KpW4 Kc6 (allS (Or.inr sz_b2) all0)
  refine own_run (g' := (mkF m 44 #[.val (.ref o0), .val (.ref o1), .val (.int (0 : Int32))] [])) (fun _ kt => XS.iconst X6.here hx rfl (hb hby d3_42) (XS.istoreN X6.here hx rfl (hb hby d3_43) rfl (l' := #[.val (.ref o0), .val (.ref o1), .val (.int (0 : Int32))]) rfl (kt))) ?_
  have loop7 : ∀ (mz : Nat) (T7 : State) (L7 : List Loc) (h7 : Heap) (i : Int32) (ys : List Int32) (j : Nat), Stand p l e own_R3 s m args below meth c T7 L7 1 256 → Fr n0 L7 → T7.heap = h7 → n0 ≤ h7.size → Keep h0 h7 [o0] → Exa Z h7 o0 "com/example/lean_markup/leanmarkup/util/ByteSearch" → Fld Z h7 o0 "com/example/lean_markup/leanmarkup/util/ByteSearch" "moves" "[I" (.ref b2) → Fld Z h7 o0 "com/example/lean_markup/leanmarkup/util/ByteSearch" "part" "[B" (.ref o1) → own_A Z h7 o1 .byte k ps → own_A Z h7 b2 .int (256 : Int32) ys → (i = Int32.ofNat j) → (j ≤ k.toNatClampNeg - 1) → (ys = own_mv ps k j) → k.toNatClampNeg - 1 - j = mz → own_Run p e below s own_R3.cells own_R3.slots (Q3 Z o0 o1 k ps h0 n0) T7 (mkF m 44 #[.val (.ref o0), .val (.ref o1), .val (.int i)] []) := by
    intro mz
    induction mz using Nat.strongRecOn with
    | _ mz ih7 =>
      intro T7 L7 h7 i ys j X7 N7 e7 Zh7 Kh7 K8 F9 F10 A11 A12 hij hj hys hmz
      refine own_run (g' := (mkF m 46 #[.val (.ref o0), .val (.ref o1), .val (.int i)] [(.ref o1), (.int i)])) (fun _ kt => XS.iloadN X7.here hx rfl (hb hby d3_44) rfl (XS.aloadN X7.here hx rfl (hb hby d3_45) rfl rfl (kt))) ?_
      refine own_len X7 hx hZ e7 A11 (hb hby d3_46) ?_
      refine own_run (g' := (mkF m 49 #[.val (.ref o0), .val (.ref o1), .val (.int i)] [(.int (k - (1 : Int32))), (.int i)])) (fun _ kt => XS.iconst X7.here hx rfl (hb hby d3_47) (XS.isub X7.here hx rfl (hb hby d3_48) rfl (kt))) ?_
      have hk3 : k.toNatClampNeg ≤ 3 := by rcases hk with h | h | h <;> subst h <;> decide
      have hjc : i.toNatClampNeg = j := by rw [hij]; exact own_clamp (by omega)
      have hcc : i < k - (1 : Int32) ↔ j < k.toNatClampNeg - 1 := by rw [hij, own_ofnat_lt (by omega)]; rcases hk with h | h | h <;> subst h <;> exact Iff.rfl
      by_cases hc49 : i < (k - (1 : Int32))
      · refine own_run (g' := (mkF m 52 #[.val (.ref o0), .val (.ref o1), .val (.int i)] [])) (fun _ kt => XS.icmpNo X7.here hx rfl (hb hby d3_49) rfl ((tlt hc49).2.1) (kt)) ?_
        have hjn : j < k.toNatClampNeg - 1 := hcc.mp hc49
        refine own_run (g' := (mkF m 53 #[.val (.ref o0), .val (.ref o1), .val (.int i)] [(.ref o0)])) (fun _ kt => XS.aloadN X7.here hx rfl (hb hby d3_52) rfl rfl (kt)) ?_
        refine own_getF X7 hx hZ hown (host := "") (Or.inl (hw _ (List.mem_of_getElem? (i := 19) rfl))) Via.refl e7 F9 (hb hby d3_53) ?_
        intro T13 X13 e13
        refine own_run (g' := (mkF m 58 #[.val (.ref o0), .val (.ref o1), .val (.int i)] [(.int i), (.ref o1), (.ref b2)])) (fun _ kt => XS.aloadN X13.here hx rfl (hb hby d3_56) rfl rfl (XS.iloadN X13.here hx rfl (hb hby d3_57) rfl (kt))) ?_
        refine own_ldB X13 hx hZ e13 A11 (j := i) ⟨by rw [hij]; exact own_ofnat_nn (by omega), by rw [hij]; exact (own_ofnat_lt (by omega)).mpr (by omega)⟩ (hb hby d3_58) (x := (ps.getD i.toNatClampNeg 0)) rfl ?_
        refine own_run (g' := (mkF m 64 #[.val (.ref o0), .val (.ref o1), .val (.int i)] [(.ref o1), (.int ((ps.getD i.toNatClampNeg 0) &&& (255 : Int32))), (.ref b2)])) (fun _ kt => XS.sipush X13.here hx rfl (hb hby d3_59) (XS.iand X13.here hx rfl (hb hby d3_62) rfl (XS.aloadN X13.here hx rfl (hb hby d3_63) rfl rfl (kt)))) ?_
        refine own_len X13 hx hZ e13 A11 (hb hby d3_64) ?_
        refine own_run (g' := (mkF m 69 #[.val (.ref o0), .val (.ref o1), .val (.int i)] [(.int ((k - (1 : Int32)) - i)), (.int ((ps.getD i.toNatClampNeg 0) &&& (255 : Int32))), (.ref b2)])) (fun _ kt => XS.iconst X13.here hx rfl (hb hby d3_65) (XS.isub X13.here hx rfl (hb hby d3_66) rfl (XS.iloadN X13.here hx rfl (hb hby d3_67) rfl (XS.isub X13.here hx rfl (hb hby d3_68) rfl (kt))))) ?_
        refine own_stI X13 hx hZ e13 A12 (j := ((ps.getD i.toNatClampNeg 0) &&& (255 : Int32))) (own_b255 _) N7 g_b2 (hb hby d3_69) (ys := (ys.set ((ps.getD i.toNatClampNeg 0) &&& (255 : Int32)).toNatClampNeg ((k - (1 : Int32)) - i))) rfl ?_
        intro T14 h14 L14 X14 N14 e14 W14 A14
        replace K8 := K8.wr W14
        replace F9 := F9.other W14 (Or.inl ne_o0_b2)
        replace F10 := F10.other W14 (Or.inl ne_o0_b2)
        replace A11 := A11.other W14 ne_o1_b2
        have KpW14 : Keep h0 h14 [o0] := Keep.wr Kh7 W14 (Or.inr sz_b2)
        have ZW14 : n0 ≤ h14.size := Nat.le_trans Zh7 (Keep.of_wr W14).1
        refine own_run (g' := (mkF m 44 #[.val (.ref o0), .val (.ref o1), .val (.int (i + (1 : Int32)))] [])) (fun _ kt => XS.iinc X14.here hx rfl (hb hby d3_70) rfl (l' := #[.val (.ref o0), .val (.ref o1), .val (.int (i + (1 : Int32)))]) rfl (XS.goto X14.here hx rfl (pc0 := 73) (pc' := 44) rfl (hb hby d3_73) (by decide) (by decide) (kt))) ?_
        exact ih7 _ (by omega) T14 _ h14 (i + (1 : Int32)) (ys.set ((ps.getD i.toNatClampNeg 0) &&& (255 : Int32)).toNatClampNeg ((k - (1 : Int32)) - i)) (j + 1) X14 N14 e14 ZW14 KpW14 K8 F9 F10 A11 A14 (by rw [hij]; exact own_one _) hjn (by rw [hys, own_mv, hjc, hij]) rfl
      · refine own_run (g' := (mkF m 76 #[.val (.ref o0), .val (.ref o1), .val (.int i)] [])) (fun _ kt => XS.icmpYes X7.here hx rfl (pc0 := 49) (pc' := 76) rfl (hb hby d3_49) rfl ((flt hc49).2.1) (by decide) (by decide) (kt)) ?_
        have hend : ys = own_mv ps k (k.toNatClampNeg - 1) := by rw [hys, show j = k.toNatClampNeg - 1 from by have : ¬ j < k.toNatClampNeg - 1 := fun q => hc49 (hcc.mpr q); omega]
        exact own_retV X7 hx Bd.notSynchronized Bd.returns (hb hby d3_76) (by decide) (by decide) (by rw [e7]; exact ⟨rfl, N7, Kh7, b2, g_b2, ne_o0_b2, F9, F10, hend ▸ A12⟩)
  exact loop7 _ T6 _ T6.heap (0 : Int32) (List.replicate 256 k) 0 X6 N6 rfl Z6 Kp6 K0 F3 F4 A1 A6 rfl (Nat.zero_le _) rfl rfl
theorem own_cl {x : Int32} {n : Nat} (h : x.toInt = n) : x.toNatClampNeg = n := by simp only [Int32.toNatClampNeg, h]; omega
theorem own_iofnat {n : Nat} (h : n < 1000) : (Int32.ofNat n).toInt = n := len_toInt (by omega)
def own_mt (bs ps : List Int32) (K i : Nat) : Prop := ∀ t, t < K → bs.getD (i + t) 0 = ps.getD t 0
def own_first (bs ps : List Int32) (K F T : Nat) (r : Int32) : Prop :=
  (∃ i, r = Int32.ofNat i ∧ F ≤ i ∧ i + K ≤ T ∧ own_mt bs ps K i ∧ ∀ i', F ≤ i' → i' < i → ¬ own_mt bs ps K i') ∨ (r = (-1 : Int32) ∧ ∀ i, F ≤ i → i + K ≤ T → ¬ own_mt bs ps K i)
def own_hp (ms ps : List Int32) (K j : Nat) : Prop := ∀ x : Int32, ∃ d : Nat, ms.getD (x &&& (255 : Int32)).toNatClampNeg 0 = Int32.ofNat d ∧ 1 ≤ d ∧ d ≤ K ∧ ∀ t, t < j → ps.getD t 0 = x → d ≤ K - 1 - t
theorem own_mv_len (ps : List Int32) (k : Int32) (j : Nat) : (own_mv ps k j).length = 256 := by
  induction j with
  | zero => rw [own_mv, List.length_replicate]
  | succ j ih => rw [own_mv, List.length_set]; exact ih
theorem own_mv_hp (ps : List Int32) (k : Int32) (K : Nat) (hK : k.toInt = K) (h1 : 1 ≤ K) (h3 : K ≤ 3) : ∀ j, j ≤ K - 1 → own_hp (own_mv ps k j) ps K j := by
  have e1 : (1 : Int32).toInt = 1 := rfl
  intro j
  induction j with
  | zero =>
    intro _ x
    have hb := own_b255 x
    have hlt : (x &&& (255 : Int32)).toNatClampNeg < 256 := by
      have hh := hb.2
      rw [Int32.lt_iff_toInt_lt] at hh
      have h256 : (256 : Int32).toInt = 256 := rfl
      simp only [Int32.toNatClampNeg]; omega
    refine ⟨K, ?_, h1, Nat.le_refl _, fun t ht => absurd ht (Nat.not_lt_zero _)⟩
    rw [own_mv, List.getD_eq_getElem?_getD, List.getElem?_replicate, if_pos hlt]
    show k = _
    exact Int32.toInt_inj.mp (by rw [hK, own_iofnat (by omega)])
  | succ j ih =>
    intro hj x
    obtain ⟨d, hd, hd1, hdK, hdt⟩ := ih (by omega) x
    rw [own_mv]
    have hb := own_b255 x
    have hlt : (x &&& (255 : Int32)).toNatClampNeg < 256 := by
      have hh := hb.2
      rw [Int32.lt_iff_toInt_lt] at hh
      have h256 : (256 : Int32).toInt = 256 := rfl
      simp only [Int32.toNatClampNeg]; omega
    by_cases q : ((ps.getD j 0) &&& (255 : Int32)).toNatClampNeg = (x &&& (255 : Int32)).toNatClampNeg
    · refine ⟨K - 1 - j, ?_, by omega, by omega, fun t ht _ => by omega⟩
      rw [q, List.getD_eq_getElem?_getD, List.getElem?_set_self (by rw [own_mv_len]; exact hlt)]
      show (k - (1 : Int32)) - Int32.ofNat j = _
      have s1 : (k - (1 : Int32)).toInt = K - 1 := by rw [Jvm.Kit.i32_sub (by omega) (by omega), hK, e1]
      have s2 : (Int32.ofNat j).toInt = j := own_iofnat (by omega)
      have s3 : ((k - (1 : Int32)) - Int32.ofNat j).toInt = K - 1 - j := by rw [Jvm.Kit.i32_sub (by omega) (by omega), s1, s2]
      exact Int32.toInt_inj.mp (by rw [s3, own_iofnat (by omega)]; omega)
    · refine ⟨d, ?_, hd1, hdK, fun t ht e => ?_⟩
      · rw [List.getD_eq_getElem?_getD, List.getElem?_set_ne q, ← List.getD_eq_getElem?_getD]; exact hd
      · by_cases z : t = j
        · subst z; exact absurd (by rw [e]) q
        · exact hdt t (by omega) e
/-- a mismatch at a, and the move -/
theorem own_skip {bs ps : List Int32} {K F a d c : Nat} (hno : ∀ i', F ≤ i' → i' < a → ¬ own_mt bs ps K i') (hc : c < K) (hne : ¬ bs.getD (a + c) 0 = ps.getD c 0) (hdK : d ≤ K) (hdt : ∀ t, t < K - 1 → ps.getD t 0 = bs.getD (a + (K - 1)) 0 → d ≤ K - 1 - t) : ∀ i', F ≤ i' → i' < a + d → ¬ own_mt bs ps K i' := by
  intro i' h1 h2 hm
  by_cases q : i' < a
  · exact hno i' h1 q hm
  · by_cases z : i' = a
    · subst z; exact hne (hm c hc)
    · have := hm (a + (K - 1) - i') (by omega)
      rw [show i' + (a + (K - 1) - i') = a + (K - 1) by omega] at this
      have := hdt (a + (K - 1) - i') (by omega) this.symm
      omega

theorem own_pn6 : plainName "com/example/lean_markup/leanmarkup/util/ByteSearch" = true := by first | (simp [plainName, overriddenIn]; done) | decide +kernel
theorem own_ef6 (m : MethodId) (o0 : Addr) (o1 : Addr) (p2 : Int32) (p3 : Int32) : entryFrame m #[(.ref o0), (.ref o1), (.int p2), (.int p3)] 7 = mkF m 0 #[.val (.ref o0), .val (.ref o1), .val (.int p2), .val (.int p3), .unset, .unset, .unset] [] := by first | (simp [entryFrame, mkF, argsToLocals, Value.category]; done) | rfl
def own_R6 : Room := ({ frames := 0, cells := 0, slots := 0, locals := 0 } : Room)
def Q6 (bs ps : List Int32) (K F T : Nat) (h0 : Heap) (n0 : Nat) (v : Option Value) (h : Heap) (L : List Loc) : Prop := ∃ r : Int32, v = some (.int r) ∧ Fr n0 L ∧ h = h0 ∧ own_first bs ps K F T r
theorem d6_0 : decode prog_202_method_3_code 0 = .ok (.aload_n 0, 1) := by decide +kernel
theorem d6_1 : decode prog_202_method_3_code 1 = .ok (.getfield 20, 3) := by decide +kernel
theorem d6_4 : decode prog_202_method_3_code 4 = .ok (.arraylength, 1) := by decide +kernel
theorem d6_5 : decode prog_202_method_3_code 5 = .ok (.iconst 1, 1) := by decide +kernel
theorem d6_6 : decode prog_202_method_3_code 6 = .ok (.isub, 1) := by decide +kernel
theorem d6_7 : decode prog_202_method_3_code 7 = .ok (.istore 4, 2) := by decide +kernel
theorem d6_9 : decode prog_202_method_3_code 9 = .ok (.iload_n 2, 1) := by decide +kernel
theorem d6_10 : decode prog_202_method_3_code 10 = .ok (.istore 5, 2) := by decide +kernel
theorem d6_12 : decode prog_202_method_3_code 12 = .ok (.iload 5, 2) := by decide +kernel
theorem d6_14 : decode prog_202_method_3_code 14 = .ok (.iload_n 3, 1) := by decide +kernel
theorem d6_15 : decode prog_202_method_3_code 15 = .ok (.aload_n 0, 1) := by decide +kernel
theorem d6_16 : decode prog_202_method_3_code 16 = .ok (.getfield 20, 3) := by decide +kernel
theorem d6_19 : decode prog_202_method_3_code 19 = .ok (.arraylength, 1) := by decide +kernel
theorem d6_20 : decode prog_202_method_3_code 20 = .ok (.isub, 1) := by decide +kernel
theorem d6_21 : decode prog_202_method_3_code 21 = .ok (.if_icmp .gt 67, 3) := by decide +kernel
theorem d6_24 : decode prog_202_method_3_code 24 = .ok (.iload 4, 2) := by decide +kernel
theorem d6_26 : decode prog_202_method_3_code 26 = .ok (.istore 6, 2) := by decide +kernel
theorem d6_28 : decode prog_202_method_3_code 28 = .ok (.iload 6, 2) := by decide +kernel
theorem d6_30 : decode prog_202_method_3_code 30 = .ok (.ifCond .lt 26, 3) := by decide +kernel
theorem d6_33 : decode prog_202_method_3_code 33 = .ok (.aload_n 1, 1) := by decide +kernel
theorem d6_34 : decode prog_202_method_3_code 34 = .ok (.iload 5, 2) := by decide +kernel
theorem d6_36 : decode prog_202_method_3_code 36 = .ok (.iload 6, 2) := by decide +kernel
theorem d6_38 : decode prog_202_method_3_code 38 = .ok (.iadd, 1) := by decide +kernel
theorem d6_39 : decode prog_202_method_3_code 39 = .ok (.baload, 1) := by decide +kernel
theorem d6_40 : decode prog_202_method_3_code 40 = .ok (.aload_n 0, 1) := by decide +kernel
theorem d6_41 : decode prog_202_method_3_code 41 = .ok (.getfield 20, 3) := by decide +kernel
theorem d6_44 : decode prog_202_method_3_code 44 = .ok (.iload 6, 2) := by decide +kernel
theorem d6_46 : decode prog_202_method_3_code 46 = .ok (.baload, 1) := by decide +kernel
theorem d6_47 : decode prog_202_method_3_code 47 = .ok (.if_icmp .ne 9, 3) := by decide +kernel
theorem d6_50 : decode prog_202_method_3_code 50 = .ok (.iinc 6 (-1), 3) := by decide +kernel
theorem d6_53 : decode prog_202_method_3_code 53 = .ok (.goto (-25), 3) := by decide +kernel
theorem d6_56 : decode prog_202_method_3_code 56 = .ok (.iload 6, 2) := by decide +kernel
theorem d6_58 : decode prog_202_method_3_code 58 = .ok (.ifCond .ge 6, 3) := by decide +kernel
theorem d6_61 : decode prog_202_method_3_code 61 = .ok (.iload 5, 2) := by decide +kernel
theorem d6_63 : decode prog_202_method_3_code 63 = .ok (.ireturn, 1) := by decide +kernel
theorem d6_64 : decode prog_202_method_3_code 64 = .ok (.iload 5, 2) := by decide +kernel
theorem d6_66 : decode prog_202_method_3_code 66 = .ok (.aload_n 0, 1) := by decide +kernel
theorem d6_67 : decode prog_202_method_3_code 67 = .ok (.getfield 7, 3) := by decide +kernel
theorem d6_70 : decode prog_202_method_3_code 70 = .ok (.aload_n 1, 1) := by decide +kernel
theorem d6_71 : decode prog_202_method_3_code 71 = .ok (.iload 5, 2) := by decide +kernel
theorem d6_73 : decode prog_202_method_3_code 73 = .ok (.iload 4, 2) := by decide +kernel
theorem d6_75 : decode prog_202_method_3_code 75 = .ok (.iadd, 1) := by decide +kernel
theorem d6_76 : decode prog_202_method_3_code 76 = .ok (.baload, 1) := by decide +kernel
theorem d6_77 : decode prog_202_method_3_code 77 = .ok (.sipush 255, 3) := by decide +kernel
theorem d6_80 : decode prog_202_method_3_code 80 = .ok (.iand, 1) := by decide +kernel
theorem d6_81 : decode prog_202_method_3_code 81 = .ok (.iaload, 1) := by decide +kernel
theorem d6_82 : decode prog_202_method_3_code 82 = .ok (.iadd, 1) := by decide +kernel
theorem d6_83 : decode prog_202_method_3_code 83 = .ok (.istore 5, 2) := by decide +kernel
theorem d6_85 : decode prog_202_method_3_code 85 = .ok (.goto (-73), 3) := by decide +kernel
theorem d6_88 : decode prog_202_method_3_code 88 = .ok (.iconst (-1), 1) := by decide +kernel
theorem d6_89 : decode prog_202_method_3_code 89 = .ok (.ireturn, 1) := by decide +kernel
set_option maxRecDepth 65536 in
set_option maxHeartbeats 40000000 in
theorem rm6 (l : Launch) (Z : State) (a0 : Array Value) (hw : ∀ d ∈ tables_1, d.before a0 Z = true) (ws : List Jvm.Cond) (o0 : Addr) (o1 : Addr) (p2 : Int32) (p3 : Int32) (x y : Addr) (k : Int32) (bs ps ms : List Int32) (K F T : Nat) (h0 : Heap) (n0 : Nat) (F1 : Fld Z h0 o0 "com/example/lean_markup/leanmarkup/util/ByteSearch" "part" "[B" (.ref x)) (F2 : Fld Z h0 o0 "com/example/lean_markup/leanmarkup/util/ByteSearch" "moves" "[I" (.ref y)) (A1 : own_A Z h0 o1 .byte (6 : Int32) bs) (A2 : own_A Z h0 x .byte k ps) (A3 : own_A Z h0 y .int (256 : Int32) ms) (hkK : k.toInt = K) (h1 : 1 ≤ K) (h3 : K ≤ 3) (hF : p2.toInt = F) (hF6 : F ≤ 6) (hT : p3.toInt = T) (hT6 : T ≤ 6) (hp : own_hp ms ps K (K - 1)) :
    MetFree l (⟨"com/example/lean_markup/leanmarkup/util/ByteSearch", "in", "([BII)I"⟩ : MethodName) (head1 (Jvm.Cond.code (⟨"com/example/lean_markup/leanmarkup/util/ByteSearch", "in", "([BII)I"⟩ : MethodName) prog_202_method_3_code 7 (some .int) :: ws) own_R6) (fun a U => a = #[(.ref o0), (.ref o1), (.int p2), (.int p3)] ∧ Z.Warmed39 U.vm ∧ U.heap = h0) (fun _ _ _ _ _ => True) (fun _ U o U' => ∃ v L, o = .returned v ∧ Q6 bs ps K F T h0 n0 v U'.heap L ∧ FrameEnd U o U' L own_R6.cells own_R6.slots) := by
  refine MetFree.of_bodySF (plainFor_of_name own_pn6) hisR ?_
  intro p e s m args below meth c s₁ Bd hml0 hP hK
  obtain ⟨ha, hZ, hh⟩ := hP
  have hx := Bd.exec
  have hby := Bd.bytes
  have hml : c.maxLocals = 7 := hml0
  have hown : s.vm.findClass "com/example/lean_markup/leanmarkup/util/ByteSearch" = some m.cls := findClass_of_methodNamed Bd.named
  have hnm := (name_of_methodNamed Bd.named Bd.method).1
  have X0 : Stand p l e own_R6 s m args below meth c s₁ [] 0 0 := Stand.of_body Bd
  have e0 : s₁.heap = h0 := by rw [← hh, Bd.state]; rfl
  have N0 := Fr.nil n0
  refine own_enter (Q := (Q6 bs ps K F T h0 n0)) (g := mkF m 0 #[.val (.ref o0), .val (.ref o1), .val (.int p2), .val (.int p3), .unset, .unset, .unset] []) (by rw [ha]; exact own_ef6 m o0 o1 p2 p3) ?_
  have i0 : (0 : Int32).toInt = 0 := rfl
  have i1 : (1 : Int32).toInt = 1 := rfl
  have im : (-1 : Int32).toInt = -1 := rfl
  have i6 : (6 : Int32).toInt = 6 := rfl
  have hk1 : (k - (1 : Int32)).toInt = K - 1 := by rw [Jvm.Kit.i32_sub (by omega) (by omega), hkK, i1]
  have hTK : (p3 - k).toInt = T - K := by rw [Jvm.Kit.i32_sub (by omega) (by omega), hT, hkK]
  refine own_run (g' := (mkF m 1 #[.val (.ref o0), .val (.ref o1), .val (.int p2), .val (.int p3), .unset, .unset, .unset] [(.ref o0)])) (fun _ kt => XS.aloadN X0.here hx rfl (hb hby d6_0) rfl rfl (kt)) ?_
  refine own_getF X0 hx hZ hown (host := "") (Or.inl (hw _ (List.mem_of_getElem? (i := 21) rfl))) Via.refl e0 F1 (hb hby d6_1) ?_
  intro T1 X1 e1
  refine own_len X1 hx hZ e1 A2 (hb hby d6_4) ?_
  refine own_run (g' := (mkF m 12 #[.val (.ref o0), .val (.ref o1), .val (.int p2), .val (.int p3), .val (.int (k - (1 : Int32))), .val (.int p2), .unset] [])) (fun _ kt => XS.iconst X1.here hx rfl (hb hby d6_5) (XS.isub X1.here hx rfl (hb hby d6_6) rfl (XS.istore X1.here hx rfl (hb hby d6_7) rfl (l' := #[.val (.ref o0), .val (.ref o1), .val (.int p2), .val (.int p3), .val (.int (k - (1 : Int32))), .unset, .unset]) rfl (XS.iloadN X1.here hx rfl (hb hby d6_9) rfl (XS.istore X1.here hx rfl (hb hby d6_10) rfl (l' := #[.val (.ref o0), .val (.ref o1), .val (.int p2), .val (.int p3), .val (.int (k - (1 : Int32))), .val (.int p2), .unset]) rfl (kt)))))) ?_
  have loop2 : ∀ (mz : Nat) (T2 : State) (L2 : List Loc) (i : Int32) (s2_6 : Slot) (a : Nat), Stand p l e own_R6 s m args below meth c T2 L2 0 0 → Fr n0 L2 → T2.heap = h0 → (s2_6 = .unset ∨ ∃ w, s2_6 = .val w ∧ w.category = 1) → (i.toInt = a) → (F ≤ a ∧ a ≤ 6) → (∀ i', F ≤ i' → i' < a → ¬ own_mt bs ps K i') → 7 - a = mz → own_Run p e below s own_R6.cells own_R6.slots (Q6 bs ps K F T h0 n0) T2 (mkF m 12 #[.val (.ref o0), .val (.ref o1), .val (.int p2), .val (.int p3), .val (.int (k - (1 : Int32))), .val (.int i), s2_6] []) := by
    intro mz
    induction mz using Nat.strongRecOn with
    | _ mz ih2 =>
      intro T2 L2 i s2_6 a X2 N2 e2 hs2_6 hia haF hno hmz
      refine own_run (g' := (mkF m 16 #[.val (.ref o0), .val (.ref o1), .val (.int p2), .val (.int p3), .val (.int (k - (1 : Int32))), .val (.int i), s2_6] [(.ref o0), (.int p3), (.int i)])) (fun _ kt => XS.iload X2.here hx rfl (hb hby d6_12) rfl (XS.iloadN X2.here hx rfl (hb hby d6_14) rfl (XS.aloadN X2.here hx rfl (hb hby d6_15) rfl rfl (kt)))) ?_
      refine own_getF X2 hx hZ hown (host := "") (Or.inl (hw _ (List.mem_of_getElem? (i := 21) rfl))) Via.refl e2 F1 (hb hby d6_16) ?_
      intro T3 X3 e3
      refine own_len X3 hx hZ e3 A2 (hb hby d6_19) ?_
      refine own_run (g' := (mkF m 21 #[.val (.ref o0), .val (.ref o1), .val (.int p2), .val (.int p3), .val (.int (k - (1 : Int32))), .val (.int i), s2_6] [(.int (p3 - k)), (.int i)])) (fun _ kt => XS.isub X3.here hx rfl (hb hby d6_20) rfl (kt)) ?_
      by_cases hc21 : (p3 - k) < i
      · refine own_run (g' := (mkF m 89 #[.val (.ref o0), .val (.ref o1), .val (.int p2), .val (.int p3), .val (.int (k - (1 : Int32))), .val (.int i), s2_6] [(.int (-1 : Int32))])) (fun _ kt => XS.icmpYes X3.here hx rfl (pc0 := 21) (pc' := 88) rfl (hb hby d6_21) rfl ((tlt hc21).2.2.1) (by decide) (by decide) (XS.iconst X3.here hx rfl (hb hby d6_88) (kt))) ?_
        exact own_retI X3 hx Bd.notSynchronized Bd.returns (hb hby d6_89) (by decide) (by decide) ⟨_, rfl, N2, e3, Or.inr ⟨rfl, fun i' q1 q2 => hno i' q1 (by rw [Int32.lt_iff_toInt_lt, hTK, hia] at hc21; omega)⟩⟩
      · refine own_run (g' := (mkF m 24 #[.val (.ref o0), .val (.ref o1), .val (.int p2), .val (.int p3), .val (.int (k - (1 : Int32))), .val (.int i), s2_6] [])) (fun _ kt => XS.icmpNo X3.here hx rfl (hb hby d6_21) rfl ((flt hc21).2.2.1) (kt)) ?_
        have haT : a + K ≤ T := by rw [Int32.lt_iff_toInt_lt, hTK, hia] at hc21; omega
        refine own_run (g' := (mkF m 28 #[.val (.ref o0), .val (.ref o1), .val (.int p2), .val (.int p3), .val (.int (k - (1 : Int32))), .val (.int i), .val (.int (k - (1 : Int32)))] [])) (fun _ kt => XS.iload X3.here hx rfl (hb hby d6_24) rfl (XS.istore X3.here hx rfl (hb hby d6_26) rfl (l' := #[.val (.ref o0), .val (.ref o1), .val (.int p2), .val (.int p3), .val (.int (k - (1 : Int32))), .val (.int i), .val (.int (k - (1 : Int32)))]) (XS.store1 (o := s2_6) rfl hs2_6 rfl) (kt))) ?_
        have loop4 : ∀ (mz : Nat) (T4 : State) (L4 : List Loc) (j : Int32) (u : Nat), Stand p l e own_R6 s m args below meth c T4 L4 0 0 → Fr n0 L4 → T4.heap = h0 → (j.toInt = u - 1) → (u ≤ K) → (∀ t, u ≤ t → t < K → bs.getD (a + t) 0 = ps.getD t 0) → u = mz → own_Run p e below s own_R6.cells own_R6.slots (Q6 bs ps K F T h0 n0) T4 (mkF m 28 #[.val (.ref o0), .val (.ref o1), .val (.int p2), .val (.int p3), .val (.int (k - (1 : Int32))), .val (.int i), .val (.int j)] []) := by
          intro mz
          induction mz using Nat.strongRecOn with
          | _ mz ih4 =>
            intro T4 L4 j u X4 N4 e4 hjc hcK0 hmt hmz
            refine own_run (g' := (mkF m 30 #[.val (.ref o0), .val (.ref o1), .val (.int p2), .val (.int p3), .val (.int (k - (1 : Int32))), .val (.int i), .val (.int j)] [(.int j)])) (fun _ kt => XS.iload X4.here hx rfl (hb hby d6_28) rfl (kt)) ?_
            by_cases hc30 : j < (0 : Int32)
            · have hd58 : j < (0 : Int32) := hc30
              refine own_run (g' := (mkF m 63 #[.val (.ref o0), .val (.ref o1), .val (.int p2), .val (.int p3), .val (.int (k - (1 : Int32))), .val (.int i), .val (.int j)] [(.int i)])) (fun _ kt => XS.ifYes X4.here hx rfl (pc0 := 30) (pc' := 56) rfl (hb hby d6_30) rfl ((if0 _ _).trans (tlt hc30).1) (by decide) (by decide) (XS.iload X4.here hx rfl (hb hby d6_56) rfl (XS.ifNo X4.here hx rfl (hb hby d6_58) rfl ((if0 _ _).trans (tlt hd58).2.1) (XS.iload X4.here hx rfl (hb hby d6_61) rfl (kt))))) ?_
              exact own_retI X4 hx Bd.notSynchronized Bd.returns (hb hby d6_63) (by decide) (by decide) ⟨i, rfl, N4, e4, Or.inl ⟨a, Int32.toInt_inj.mp (by rw [hia, own_iofnat (by omega)]), haF.1, haT, (fun t ht => hmt t (by rw [Int32.lt_iff_toInt_lt, hjc, i0] at hc30; omega) ht), hno⟩⟩
            · refine own_run (g' := (mkF m 33 #[.val (.ref o0), .val (.ref o1), .val (.int p2), .val (.int p3), .val (.int (k - (1 : Int32))), .val (.int i), .val (.int j)] [])) (fun _ kt => XS.ifNo X4.here hx rfl (hb hby d6_30) rfl ((if0 _ _).trans (flt hc30).1) (kt)) ?_
              have hc0 : 1 ≤ u := by rw [Int32.lt_iff_toInt_lt, hjc, i0] at hc30; omega
              have hcK : u - 1 < K := by omega
              have hij : (i + j).toInt = (a + (u - 1) : Nat) := by rw [Jvm.Kit.i32_add (by rw [hia, hjc]; omega) (by rw [hia, hjc]; omega), hia, hjc]; omega
              have hjn : j.toInt = (u - 1 : Nat) := by rw [hjc]; omega
              have hin39 : ¬ (i + j) < 0 ∧ (i + j) < (6 : Int32) := by rw [Int32.lt_iff_toInt_lt, Int32.lt_iff_toInt_lt, hij, i0, i6]; omega
              have hv39 : bs.getD (i + j).toNatClampNeg 0 = bs.getD (a + (u - 1)) 0 := by rw [own_cl hij]
              have hin46 : ¬ j < 0 ∧ j < k := by rw [Int32.lt_iff_toInt_lt, Int32.lt_iff_toInt_lt, hjn, i0, hkK]; omega
              have hv46 : ps.getD j.toNatClampNeg 0 = ps.getD (u - 1) 0 := by rw [own_cl hjn]
              refine own_run (g' := (mkF m 39 #[.val (.ref o0), .val (.ref o1), .val (.int p2), .val (.int p3), .val (.int (k - (1 : Int32))), .val (.int i), .val (.int j)] [(.int (i + j)), (.ref o1)])) (fun _ kt => XS.aloadN X4.here hx rfl (hb hby d6_33) rfl rfl (XS.iload X4.here hx rfl (hb hby d6_34) rfl (XS.iload X4.here hx rfl (hb hby d6_36) rfl (XS.iadd X4.here hx rfl (hb hby d6_38) rfl (kt))))) ?_
              refine own_ldB X4 hx hZ e4 A1 (j := (i + j)) hin39 (hb hby d6_39) (x := (bs.getD (a + (u - 1)) 0)) hv39 ?_
              refine own_run (g' := (mkF m 41 #[.val (.ref o0), .val (.ref o1), .val (.int p2), .val (.int p3), .val (.int (k - (1 : Int32))), .val (.int i), .val (.int j)] [(.ref o0), (.int (bs.getD (a + (u - 1)) 0))])) (fun _ kt => XS.aloadN X4.here hx rfl (hb hby d6_40) rfl rfl (kt)) ?_
              refine own_getF X4 hx hZ hown (host := "") (Or.inl (hw _ (List.mem_of_getElem? (i := 21) rfl))) Via.refl e4 F1 (hb hby d6_41) ?_
              intro T5 X5 e5
              refine own_run (g' := (mkF m 46 #[.val (.ref o0), .val (.ref o1), .val (.int p2), .val (.int p3), .val (.int (k - (1 : Int32))), .val (.int i), .val (.int j)] [(.int j), (.ref x), (.int (bs.getD (a + (u - 1)) 0))])) (fun _ kt => XS.iload X5.here hx rfl (hb hby d6_44) rfl (kt)) ?_
              refine own_ldB X5 hx hZ e5 A2 (j := j) hin46 (hb hby d6_46) (x := (ps.getD (u - 1) 0)) hv46 ?_
              by_cases hc47 : (bs.getD (a + (u - 1)) 0) = (ps.getD (u - 1) 0)
              · refine own_run (g' := (mkF m 28 #[.val (.ref o0), .val (.ref o1), .val (.int p2), .val (.int p3), .val (.int (k - (1 : Int32))), .val (.int i), .val (.int (j + (-1 : Int32)))] [])) (fun _ kt => XS.icmpNo X5.here hx rfl (hb hby d6_47) rfl ((teq hc47).2) (XS.iinc X5.here hx rfl (hb hby d6_50) rfl (l' := #[.val (.ref o0), .val (.ref o1), .val (.int p2), .val (.int p3), .val (.int (k - (1 : Int32))), .val (.int i), .val (.int (j + (-1 : Int32)))]) rfl (XS.goto X5.here hx rfl (pc0 := 53) (pc' := 28) rfl (hb hby d6_53) (by decide) (by decide) (kt)))) ?_
                exact ih4 _ (by omega) T5 _ (j + (-1 : Int32)) (u - 1) X5 N4 e5 (by rw [Jvm.Kit.i32_add (by rw [hjc, im]; omega) (by rw [hjc, im]; omega), hjc, im]; omega) (by omega) (fun t q1 q2 => if z : t = u - 1 then by rw [z]; exact hc47 else hmt t (by omega) q2) rfl
              · have hd58 : ¬ (j < (0 : Int32)) := hc30
                refine own_run (g' := (mkF m 64 #[.val (.ref o0), .val (.ref o1), .val (.int p2), .val (.int p3), .val (.int (k - (1 : Int32))), .val (.int i), .val (.int j)] [])) (fun _ kt => XS.icmpYes X5.here hx rfl (pc0 := 47) (pc' := 56) rfl (hb hby d6_47) rfl ((feq hc47).2) (by decide) (by decide) (XS.iload X5.here hx rfl (hb hby d6_56) rfl (XS.ifYes X5.here hx rfl (pc0 := 58) (pc' := 64) rfl (hb hby d6_58) rfl ((if0 _ _).trans (flt hd58).2.1) (by decide) (by decide) (kt)))) ?_
                have hij2 : (i + (k - (1 : Int32))).toInt = (a + (K - 1) : Nat) := by rw [Jvm.Kit.i32_add (by rw [hia, hk1]; omega) (by rw [hia, hk1]; omega), hia, hk1]; omega
                have hin76 : ¬ (i + (k - (1 : Int32))) < 0 ∧ (i + (k - (1 : Int32))) < (6 : Int32) := by rw [Int32.lt_iff_toInt_lt, Int32.lt_iff_toInt_lt, hij2, i0, i6]; omega
                have hv76 : bs.getD (i + (k - (1 : Int32))).toNatClampNeg 0 = bs.getD (a + (K - 1)) 0 := by rw [own_cl hij2]
                obtain ⟨d, hd, hd1, hdK, hdt⟩ := hp (bs.getD (a + (K - 1)) 0)
                have hdi : (Int32.ofNat d).toInt = d := own_iofnat (by omega)
                refine own_run (g' := (mkF m 67 #[.val (.ref o0), .val (.ref o1), .val (.int p2), .val (.int p3), .val (.int (k - (1 : Int32))), .val (.int i), .val (.int j)] [(.ref o0), (.int i)])) (fun _ kt => XS.iload X5.here hx rfl (hb hby d6_64) rfl (XS.aloadN X5.here hx rfl (hb hby d6_66) rfl rfl (kt))) ?_
                refine own_getF X5 hx hZ hown (host := "") (Or.inl (hw _ (List.mem_of_getElem? (i := 19) rfl))) Via.refl e5 F2 (hb hby d6_67) ?_
                intro T6 X6 e6
                refine own_run (g' := (mkF m 76 #[.val (.ref o0), .val (.ref o1), .val (.int p2), .val (.int p3), .val (.int (k - (1 : Int32))), .val (.int i), .val (.int j)] [(.int (i + (k - (1 : Int32)))), (.ref o1), (.ref y), (.int i)])) (fun _ kt => XS.aloadN X6.here hx rfl (hb hby d6_70) rfl rfl (XS.iload X6.here hx rfl (hb hby d6_71) rfl (XS.iload X6.here hx rfl (hb hby d6_73) rfl (XS.iadd X6.here hx rfl (hb hby d6_75) rfl (kt))))) ?_
                refine own_ldB X6 hx hZ e6 A1 (j := (i + (k - (1 : Int32)))) hin76 (hb hby d6_76) (x := (bs.getD (a + (K - 1)) 0)) hv76 ?_
                refine own_run (g' := (mkF m 81 #[.val (.ref o0), .val (.ref o1), .val (.int p2), .val (.int p3), .val (.int (k - (1 : Int32))), .val (.int i), .val (.int j)] [(.int ((bs.getD (a + (K - 1)) 0) &&& (255 : Int32))), (.ref y), (.int i)])) (fun _ kt => XS.sipush X6.here hx rfl (hb hby d6_77) (XS.iand X6.here hx rfl (hb hby d6_80) rfl (kt))) ?_
                refine own_ldI X6 hx hZ e6 A3 (j := ((bs.getD (a + (K - 1)) 0) &&& (255 : Int32))) (own_b255 _) (hb hby d6_81) (x := (Int32.ofNat d)) hd ?_
                refine own_run (g' := (mkF m 12 #[.val (.ref o0), .val (.ref o1), .val (.int p2), .val (.int p3), .val (.int (k - (1 : Int32))), .val (.int (i + (Int32.ofNat d))), .val (.int j)] [])) (fun _ kt => XS.iadd X6.here hx rfl (hb hby d6_82) rfl (XS.istore X6.here hx rfl (hb hby d6_83) rfl (l' := #[.val (.ref o0), .val (.ref o1), .val (.int p2), .val (.int p3), .val (.int (k - (1 : Int32))), .val (.int (i + (Int32.ofNat d))), .val (.int j)]) rfl (XS.goto X6.here hx rfl (pc0 := 85) (pc' := 12) rfl (hb hby d6_85) (by decide) (by decide) (kt)))) ?_
                exact ih2 _ (by omega) T6 _ (i + (Int32.ofNat d)) (.val (.int j)) (a + d) X6 N4 e6 (Or.inr ⟨_, rfl, rfl⟩) (by rw [Jvm.Kit.i32_add (by rw [hia, hdi]; omega) (by rw [hia, hdi]; omega), hia, hdi]; omega) ⟨by omega, by omega⟩ (own_skip hno hcK (c := u - 1) hc47 hdK hdt) rfl
        exact loop4 _ T3 _ (k - (1 : Int32)) K X3 N2 e3 hk1 (Nat.le_refl _) (fun t q1 q2 => absurd q2 (Nat.not_lt.mpr q1)) rfl
  exact loop2 _ T1 _ p2 (.unset) F X1 N0 e1 (Or.inl rfl) hF ⟨Nat.le_refl _, hF6⟩ (fun i' q1 q2 => absurd q2 (Nat.not_lt.mpr q1)) rfl
theorem own_okq {p2 p3 q k : Int32} {bs ps : List Int32} {K F T n : Nat} (hkK : k.toInt = K) (h1 : 1 ≤ K) (h3 : K ≤ 3) (hF : p2.toInt = F) (hT : p3.toInt = T) (hT6 : T ≤ 6) (hq : q.toInt = n) (hn : n ≤ 5) : own_f2 p2 p3 q k bs ps = (0 : Int32) ↔ ¬ (F ≤ n ∧ n + K ≤ T ∧ own_mt bs ps K n) := by
  have i1 : (1 : Int32).toInt = 1 := rfl
  have i2 : (2 : Int32).toInt = 2 := rfl
  have i6 : (6 : Int32).toInt = 6 := rfl
  have sk : (q + k).toInt = n + K := by rw [Jvm.Kit.i32_add (by omega) (by omega), hq, hkK]
  have s1 : (q + (1 : Int32)).toInt = (n + 1 : Nat) := by rw [Jvm.Kit.i32_add (by omega) (by omega), hq, i1]; omega
  have s2 : (q + (2 : Int32)).toInt = (n + 2 : Nat) := by rw [Jvm.Kit.i32_add (by omega) (by omega), hq, i2]; omega
  have c1 : q < p2 ↔ n < F := by rw [Int32.lt_iff_toInt_lt, hq, hF]; omega
  have c2 : p3 < q + k ↔ T < n + K := by rw [Int32.lt_iff_toInt_lt, hT, sk]; omega
  have c3 : (6 : Int32) < q + k ↔ 6 < n + K := by rw [Int32.lt_iff_toInt_lt, i6, sk]; omega
  have d1 : (1 : Int32) < k ↔ 1 < K := by rw [Int32.lt_iff_toInt_lt, i1, hkK]; omega
  have d2 : (2 : Int32) < k ↔ 2 < K := by rw [Int32.lt_iff_toInt_lt, i2, hkK]; omega
  have m : own_mt bs ps K n ↔ (bs.getD n 0 = ps.getD 0 0 ∧ (1 < K → bs.getD (n + 1) 0 = ps.getD 1 0) ∧ (2 < K → bs.getD (n + 2) 0 = ps.getD 2 0)) := by
    constructor
    · intro h; exact ⟨h 0 (by omega), fun z => h 1 z, fun z => h 2 z⟩
    · rintro ⟨a, b, c⟩ t ht
      have : t = 0 ∨ t = 1 ∨ t = 2 := by omega
      rcases this with z | z | z <;> subst z
      · exact a
      · exact b ht
      · exact c ht
  have z0 : (0 : Int32).toNatClampNeg = 0 := rfl
  have z1 : (1 : Int32).toNatClampNeg = 1 := rfl
  have z2 : (2 : Int32).toNatClampNeg = 2 := rfl
  have e10 : ¬ (1 : Int32) = 0 := by decide
  unfold own_f2 own_f7 own_f7_46
  rw [own_cl hq, own_cl s1, own_cl s2, z0, z1, z2, m]
  generalize bs.getD n 0 = x0
  generalize bs.getD (n + 1) 0 = x1
  generalize bs.getD (n + 2) 0 = x2
  generalize ps.getD 0 0 = y0
  generalize ps.getD 1 0 = y1
  generalize ps.getD 2 0 = y2
  simp only [c1, c2, c3, d1, d2]
  by_cases q1 : n < F
  · rw [if_pos q1]; exact ⟨fun _ h => by omega, fun _ => rfl⟩
  · rw [if_neg q1]
    by_cases q2 : T < n + K
    · rw [if_pos q2]; exact ⟨fun _ h => by omega, fun _ => rfl⟩
    · rw [if_neg q2, if_neg (show ¬ 6 < n + K by omega)]
      have a1 : F ≤ n := by omega
      have a2 : n + K ≤ T := by omega
      by_cases w0 : x0 = y0 <;> by_cases w1 : x1 = y1 <;> by_cases w2 : x2 = y2 <;> by_cases b1 : 1 < K <;> by_cases b2 : 2 < K <;> simp [a1, a2, w0, w1, w2, b1, b2]
theorem own_pick (x0 x1 x2 x3 x4 x5 r : Int32) (P : Nat → Prop) (h : (∃ i, i ≤ 5 ∧ r = Int32.ofNat i ∧ P i ∧ ∀ i', i' < i → ¬ P i') ∨ (r = (-1 : Int32) ∧ ∀ i, ¬ P i)) (c0 : x0 = 0 ↔ ¬ P 0) (c1 : x1 = 0 ↔ ¬ P 1) (c2 : x2 = 0 ↔ ¬ P 2) (c3 : x3 = 0 ↔ ¬ P 3) (c4 : x4 = 0 ↔ ¬ P 4) (c5 : x5 = 0 ↔ ¬ P 5) : r = (if x0 = (0 : Int32) then (if x1 = (0 : Int32) then (if x2 = (0 : Int32) then (if x3 = (0 : Int32) then (if x4 = (0 : Int32) then (if x5 = (0 : Int32) then (-1 : Int32) else (5 : Int32)) else (4 : Int32)) else (3 : Int32)) else (2 : Int32)) else (1 : Int32)) else (0 : Int32)) := by
  rcases h with ⟨i, hi, hr, hp, hb⟩ | ⟨hr, hb⟩
  · have e : i = 0 ∨ i = 1 ∨ i = 2 ∨ i = 3 ∨ i = 4 ∨ i = 5 := by omega
    rcases e with z | z | z | z | z | z <;> subst z
    · rw [if_neg (fun z => c0.mp z hp)]; exact hr
    · rw [if_pos (c0.mpr (hb 0 (by decide))), if_neg (fun z => c1.mp z hp)]; exact hr
    · rw [if_pos (c0.mpr (hb 0 (by decide))), if_pos (c1.mpr (hb 1 (by decide))), if_neg (fun z => c2.mp z hp)]; exact hr
    · rw [if_pos (c0.mpr (hb 0 (by decide))), if_pos (c1.mpr (hb 1 (by decide))), if_pos (c2.mpr (hb 2 (by decide))), if_neg (fun z => c3.mp z hp)]; exact hr
    · rw [if_pos (c0.mpr (hb 0 (by decide))), if_pos (c1.mpr (hb 1 (by decide))), if_pos (c2.mpr (hb 2 (by decide))), if_pos (c3.mpr (hb 3 (by decide))), if_neg (fun z => c4.mp z hp)]; exact hr
    · rw [if_pos (c0.mpr (hb 0 (by decide))), if_pos (c1.mpr (hb 1 (by decide))), if_pos (c2.mpr (hb 2 (by decide))), if_pos (c3.mpr (hb 3 (by decide))), if_pos (c4.mpr (hb 4 (by decide))), if_neg (fun z => c5.mp z hp)]; exact hr
  · rw [if_pos (c0.mpr (hb 0)), if_pos (c1.mpr (hb 1)), if_pos (c2.mpr (hb 2)), if_pos (c3.mpr (hb 3)), if_pos (c4.mpr (hb 4)), if_pos (c5.mpr (hb 5))]; exact hr
theorem own_fin {p2 p3 k r v : Int32} {bs ps : List Int32} {K F T : Nat} (hkK : k.toInt = K) (h1 : 1 ≤ K) (h3 : K ≤ 3) (hF : p2.toInt = F) (hT : p3.toInt = T) (hT6 : T ≤ 6) (h : own_first bs ps K F T r) (hv : v = (if (own_f2 p2 p3 (0 : Int32) k bs ps) = (0 : Int32) then (if (own_f2 p2 p3 (1 : Int32) k bs ps) = (0 : Int32) then (if (own_f2 p2 p3 (2 : Int32) k bs ps) = (0 : Int32) then (if (own_f2 p2 p3 (3 : Int32) k bs ps) = (0 : Int32) then (if (own_f2 p2 p3 (4 : Int32) k bs ps) = (0 : Int32) then (if (own_f2 p2 p3 (5 : Int32) k bs ps) = (0 : Int32) then (-1 : Int32) else (5 : Int32)) else (4 : Int32)) else (3 : Int32)) else (2 : Int32)) else (1 : Int32)) else (0 : Int32))) : r = v := by
  rw [hv]
  refine own_pick _ _ _ _ _ _ r (fun n => F ≤ n ∧ n + K ≤ T ∧ own_mt bs ps K n) ?_ (own_okq hkK h1 h3 hF hT hT6 rfl (by decide)) (own_okq hkK h1 h3 hF hT hT6 rfl (by decide)) (own_okq hkK h1 h3 hF hT hT6 rfl (by decide)) (own_okq hkK h1 h3 hF hT hT6 rfl (by decide)) (own_okq hkK h1 h3 hF hT hT6 rfl (by decide)) (own_okq hkK h1 h3 hF hT hT6 rfl (by decide))
  rcases h with ⟨i, a, b, c, d, e⟩ | ⟨a, b⟩
  · exact Or.inl ⟨i, by omega, a, ⟨b, c, d⟩, fun i' hi z => e i' z.1 hi z.2.2⟩
  · exact Or.inr ⟨a, fun i z => b i z.1 z.2.1 z.2.2⟩
theorem own_e7 (x : Int32) : ∃ n : Nat, ((x &&& (2147483647 : Int32)) % (7 : Int32)).toInt = n ∧ n ≤ 6 := by
  have e := Jvm.Kit.i32_mask x 2147483647 (k := 31) (by decide) (by decide)
  have e9 : (7 : Int32).toInt = 7 := rfl
  have r := Jvm.Kit.i32_rem_nonneg (x := x &&& (2147483647 : Int32)) (y := 7) (by rw [e]; omega)
  rw [e9] at r
  exact ⟨((x &&& (2147483647 : Int32)).toInt % 7).toNat, by rw [r]; omega, by omega⟩

theorem own_pn0 : plainName "com/example/lean_markup/leanmarkup/util/ByteSearchInPinLaw" = true := by first | (simp [plainName, overriddenIn]; done) | decide +kernel
theorem own_ef0 (m : MethodId) (p0 : Int32) (p1 : Int32) (p2 : Int32) (p3 : Int32) : entryFrame m #[(.int p0), (.int p1), (.int p2), (.int p3)] maxLocals = mkF m 0 #[.val (.int p0), .val (.int p1), .val (.int p2), .val (.int p3), .unset, .unset, .unset, .unset, .unset, .unset, .unset, .unset, .unset, .unset] [] := by first | (simp [entryFrame, mkF, argsToLocals, Value.category, maxLocals]; done) | rfl
def Q0 (h0 : Heap) (n0 : Nat) (v : Option Value) (h : Heap) (L : List Loc) : Prop := v = some (.int 1) ∧ Fr n0 L
theorem own_pd2 : parseMethodDescriptor "(III)B" = some ⟨[.int, .int, .int], some .byte⟩ := by decide +kernel
theorem own_pd3 : parseMethodDescriptor "([B[BIII)Z" = some ⟨[(.array .byte), (.array .byte), .int, .int, .int], some .boolean⟩ := by decide +kernel
theorem own_pd4 : parseMethodDescriptor "([B)V" = some ⟨[(.array .byte)], none⟩ := by decide +kernel
theorem own_pd5 : parseMethodDescriptor "([BII)I" = some ⟨[(.array .byte), .int, .int], some .int⟩ := by decide +kernel
set_option maxRecDepth 65536 in
set_option maxHeartbeats 40000000 in
theorem rm0 (l : Launch) (Z : State) (a0 : Array Value) (hw : ∀ d ∈ tables_1, d.before a0 Z = true) (ws : List Jvm.Cond) (p0 : Int32) (p1 : Int32) (p2 : Int32) (p3 : Int32) (h0 : Heap) (n0 : Nat) (Z0 : n0 ≤ h0.size) :
    MetFree l x (head1 (Jvm.Cond.code x code maxLocals ret :: ws) room_1) (fun a U => a = #[(.int p0), (.int p1), (.int p2), (.int p3)] ∧ Z.Warmed39 U.vm ∧ U.heap = h0) (fun _ _ _ _ _ => True) (fun _ U o U' => ∃ v L, o = .returned v ∧ Q0 h0 n0 v U'.heap L ∧ FrameEnd U o U' L room_1.cells room_1.slots) := by
  refine MetFree.of_bodySF (plainFor_of_name own_pn0) hisR ?_
  intro p e s m args below meth c s₁ Bd hml0 hP hK
  obtain ⟨ha, hZ, hh⟩ := hP
  have hx := Bd.exec
  have hby := Bd.bytes
  have hml : c.maxLocals = 14 := hml0
  have hown : s.vm.findClass "com/example/lean_markup/leanmarkup/util/ByteSearchInPinLaw" = some m.cls := findClass_of_methodNamed Bd.named
  have hnm := (name_of_methodNamed Bd.named Bd.method).1
  have X0 : Stand p l e room_1 s m args below meth c s₁ [] 0 0 := Stand.of_body Bd
  have e0 : s₁.heap = h0 := by rw [← hh, Bd.state]; rfl
  have N0 := Fr.nil n0
  refine own_enter (Q := (Q0 h0 n0)) (g := mkF m 0 #[.val (.int p0), .val (.int p1), .val (.int p2), .val (.int p3), .unset, .unset, .unset, .unset, .unset, .unset, .unset, .unset, .unset, .unset] []) (by rw [ha]; exact own_ef0 m p0 p1 p2 p3) ?_
  refine own_run (g' := (mkF m 2 #[.val (.int p0), .val (.int p1), .val (.int p2), .val (.int p3), .unset, .unset, .unset, .unset, .unset, .unset, .unset, .unset, .unset, .unset] [(.int (6 : Int32))])) (fun _ kt => XS.bipush X0.here hx rfl (hb hby at_0) (kt)) ?_
  refine own_newA X0 hx hZ (aty := .byte) (hw _ (List.mem_of_getElem? (i := 0) rfl)) (ty := .byte) rfl rfl e0 (hb hby at_2) (by decide) (cap := 6) (by decide) (by decide) (by decide) (by decide) ?_
  intro T1 h1 b1 qq1 X1 e1 E1 A1
  have g_b1 : n0 ≤ b1 := by rw [qq1]; exact Z0
  have Z1 : n0 ≤ h1.size := Nat.le_trans Z0 E1.1
  replace A1 : own_A Z h1 b1 .byte (6 : Int32) [(0 : Int32), (0 : Int32), (0 : Int32), (0 : Int32), (0 : Int32), (0 : Int32)] := A1
  refine own_run (g' := (mkF m 9 #[.val (.int p0), .val (.int p1), .val (.int p2), .val (.int p3), .unset, .unset, .unset, .unset, .unset, .unset, .unset, .unset, .unset, .unset] [(.int (0 : Int32)), (.int p0), (.int p1), (.int (0 : Int32)), (.ref b1), (.ref b1)])) (fun _ kt => XS.dup X1.here hx rfl (hb hby at_4) rfl rfl (XS.iconst X1.here hx rfl (hb hby at_5) (XS.iloadN X1.here hx rfl (hb hby at_6) rfl (XS.iloadN X1.here hx rfl (hb hby at_7) rfl (XS.iconst X1.here hx rfl (hb hby at_8) (kt)))))) ?_
  refine own_callS X1 hx hZ hown (hw _ (List.mem_of_getElem? (i := 1) rfl)) (hw _ (List.mem_of_getElem? (i := 2) rfl)) (hw _ (List.mem_of_getElem? (i := 3) rfl)) (hw _ (List.mem_of_getElem? (i := 4) rfl)) (by decide) (rm1 l Z a0 hw [] p1 p0 (0 : Int32) h1 n0) e1 (by decide) (by decide) (by decide) (by decide) (by rw [hml]; rfl) (argsL := [(.int p1), (.int p0), (.int (0 : Int32))]) (rest := [(.int (0 : Int32)), (.ref b1), (.ref b1)]) (lenOf own_pd2 rfl) rfl (W := 3) (Nat.le_of_eq rfl) (hb hby at_9) ?_
  intro T2 r2 L2 X2 hQ2
  obtain ⟨rfl, Nq2, e2⟩ := hQ2
  have N2 := Fr.app N0 Nq2
  refine own_stB X2 hx hZ e2 A1 (j := (0 : Int32)) (by decide) N2 g_b1 (hb hby at_12) (ys := [(nar .byte (own_f1 p1 p0 (0 : Int32))), (0 : Int32), (0 : Int32), (0 : Int32), (0 : Int32), (0 : Int32)]) rfl ?_
  intro T3 h3 L3 X3 N3 e3 W3 A3
  have ZW3 : n0 ≤ h3.size := Nat.le_trans Z1 (Keep.of_wr W3).1
  refine own_run (g' := (mkF m 18 #[.val (.int p0), .val (.int p1), .val (.int p2), .val (.int p3), .unset, .unset, .unset, .unset, .unset, .unset, .unset, .unset, .unset, .unset] [(.int (1 : Int32)), (.int p0), (.int p1), (.int (1 : Int32)), (.ref b1), (.ref b1)])) (fun _ kt => XS.dup X3.here hx rfl (hb hby at_13) rfl rfl (XS.iconst X3.here hx rfl (hb hby at_14) (XS.iloadN X3.here hx rfl (hb hby at_15) rfl (XS.iloadN X3.here hx rfl (hb hby at_16) rfl (XS.iconst X3.here hx rfl (hb hby at_17) (kt)))))) ?_
  refine own_callS X3 hx hZ hown (hw _ (List.mem_of_getElem? (i := 1) rfl)) (hw _ (List.mem_of_getElem? (i := 2) rfl)) (hw _ (List.mem_of_getElem? (i := 3) rfl)) (hw _ (List.mem_of_getElem? (i := 4) rfl)) (by decide) (rm1 l Z a0 hw [] p1 p0 (1 : Int32) h3 n0) e3 (by decide) (by decide) (by decide) (by decide) (by rw [hml]; rfl) (argsL := [(.int p1), (.int p0), (.int (1 : Int32))]) (rest := [(.int (1 : Int32)), (.ref b1), (.ref b1)]) (lenOf own_pd2 rfl) rfl (W := 3) (Nat.le_of_eq rfl) (hb hby at_18) ?_
  intro T4 r4 L4 X4 hQ4
  obtain ⟨rfl, Nq4, e4⟩ := hQ4
  have N4 := Fr.app N3 Nq4
  refine own_stB X4 hx hZ e4 A3 (j := (1 : Int32)) (by decide) N4 g_b1 (hb hby at_21) (ys := [(nar .byte (own_f1 p1 p0 (0 : Int32))), (nar .byte (own_f1 p1 p0 (1 : Int32))), (0 : Int32), (0 : Int32), (0 : Int32), (0 : Int32)]) rfl ?_
  intro T5 h5 L5 X5 N5 e5 W5 A5
  have ZW5 : n0 ≤ h5.size := Nat.le_trans ZW3 (Keep.of_wr W5).1
  refine own_run (g' := (mkF m 27 #[.val (.int p0), .val (.int p1), .val (.int p2), .val (.int p3), .unset, .unset, .unset, .unset, .unset, .unset, .unset, .unset, .unset, .unset] [(.int (2 : Int32)), (.int p0), (.int p1), (.int (2 : Int32)), (.ref b1), (.ref b1)])) (fun _ kt => XS.dup X5.here hx rfl (hb hby at_22) rfl rfl (XS.iconst X5.here hx rfl (hb hby at_23) (XS.iloadN X5.here hx rfl (hb hby at_24) rfl (XS.iloadN X5.here hx rfl (hb hby at_25) rfl (XS.iconst X5.here hx rfl (hb hby at_26) (kt)))))) ?_
  refine own_callS X5 hx hZ hown (hw _ (List.mem_of_getElem? (i := 1) rfl)) (hw _ (List.mem_of_getElem? (i := 2) rfl)) (hw _ (List.mem_of_getElem? (i := 3) rfl)) (hw _ (List.mem_of_getElem? (i := 4) rfl)) (by decide) (rm1 l Z a0 hw [] p1 p0 (2 : Int32) h5 n0) e5 (by decide) (by decide) (by decide) (by decide) (by rw [hml]; rfl) (argsL := [(.int p1), (.int p0), (.int (2 : Int32))]) (rest := [(.int (2 : Int32)), (.ref b1), (.ref b1)]) (lenOf own_pd2 rfl) rfl (W := 3) (Nat.le_of_eq rfl) (hb hby at_27) ?_
  intro T6 r6 L6 X6 hQ6
  obtain ⟨rfl, Nq6, e6⟩ := hQ6
  have N6 := Fr.app N5 Nq6
  refine own_stB X6 hx hZ e6 A5 (j := (2 : Int32)) (by decide) N6 g_b1 (hb hby at_30) (ys := [(nar .byte (own_f1 p1 p0 (0 : Int32))), (nar .byte (own_f1 p1 p0 (1 : Int32))), (nar .byte (own_f1 p1 p0 (2 : Int32))), (0 : Int32), (0 : Int32), (0 : Int32)]) rfl ?_
  intro T7 h7 L7 X7 N7 e7 W7 A7
  have ZW7 : n0 ≤ h7.size := Nat.le_trans ZW5 (Keep.of_wr W7).1
  refine own_run (g' := (mkF m 36 #[.val (.int p0), .val (.int p1), .val (.int p2), .val (.int p3), .unset, .unset, .unset, .unset, .unset, .unset, .unset, .unset, .unset, .unset] [(.int (3 : Int32)), (.int p0), (.int p1), (.int (3 : Int32)), (.ref b1), (.ref b1)])) (fun _ kt => XS.dup X7.here hx rfl (hb hby at_31) rfl rfl (XS.iconst X7.here hx rfl (hb hby at_32) (XS.iloadN X7.here hx rfl (hb hby at_33) rfl (XS.iloadN X7.here hx rfl (hb hby at_34) rfl (XS.iconst X7.here hx rfl (hb hby at_35) (kt)))))) ?_
  refine own_callS X7 hx hZ hown (hw _ (List.mem_of_getElem? (i := 1) rfl)) (hw _ (List.mem_of_getElem? (i := 2) rfl)) (hw _ (List.mem_of_getElem? (i := 3) rfl)) (hw _ (List.mem_of_getElem? (i := 4) rfl)) (by decide) (rm1 l Z a0 hw [] p1 p0 (3 : Int32) h7 n0) e7 (by decide) (by decide) (by decide) (by decide) (by rw [hml]; rfl) (argsL := [(.int p1), (.int p0), (.int (3 : Int32))]) (rest := [(.int (3 : Int32)), (.ref b1), (.ref b1)]) (lenOf own_pd2 rfl) rfl (W := 3) (Nat.le_of_eq rfl) (hb hby at_36) ?_
  intro T8 r8 L8 X8 hQ8
  obtain ⟨rfl, Nq8, e8⟩ := hQ8
  have N8 := Fr.app N7 Nq8
  refine own_stB X8 hx hZ e8 A7 (j := (3 : Int32)) (by decide) N8 g_b1 (hb hby at_39) (ys := [(nar .byte (own_f1 p1 p0 (0 : Int32))), (nar .byte (own_f1 p1 p0 (1 : Int32))), (nar .byte (own_f1 p1 p0 (2 : Int32))), (nar .byte (own_f1 p1 p0 (3 : Int32))), (0 : Int32), (0 : Int32)]) rfl ?_
  intro T9 h9 L9 X9 N9 e9 W9 A9
  have ZW9 : n0 ≤ h9.size := Nat.le_trans ZW7 (Keep.of_wr W9).1
  refine own_run (g' := (mkF m 45 #[.val (.int p0), .val (.int p1), .val (.int p2), .val (.int p3), .unset, .unset, .unset, .unset, .unset, .unset, .unset, .unset, .unset, .unset] [(.int (4 : Int32)), (.int p0), (.int p1), (.int (4 : Int32)), (.ref b1), (.ref b1)])) (fun _ kt => XS.dup X9.here hx rfl (hb hby at_40) rfl rfl (XS.iconst X9.here hx rfl (hb hby at_41) (XS.iloadN X9.here hx rfl (hb hby at_42) rfl (XS.iloadN X9.here hx rfl (hb hby at_43) rfl (XS.iconst X9.here hx rfl (hb hby at_44) (kt)))))) ?_
  refine own_callS X9 hx hZ hown (hw _ (List.mem_of_getElem? (i := 1) rfl)) (hw _ (List.mem_of_getElem? (i := 2) rfl)) (hw _ (List.mem_of_getElem? (i := 3) rfl)) (hw _ (List.mem_of_getElem? (i := 4) rfl)) (by decide) (rm1 l Z a0 hw [] p1 p0 (4 : Int32) h9 n0) e9 (by decide) (by decide) (by decide) (by decide) (by rw [hml]; rfl) (argsL := [(.int p1), (.int p0), (.int (4 : Int32))]) (rest := [(.int (4 : Int32)), (.ref b1), (.ref b1)]) (lenOf own_pd2 rfl) rfl (W := 3) (Nat.le_of_eq rfl) (hb hby at_45) ?_
  intro T10 r10 L10 X10 hQ10
  obtain ⟨rfl, Nq10, e10⟩ := hQ10
  have N10 := Fr.app N9 Nq10
  refine own_stB X10 hx hZ e10 A9 (j := (4 : Int32)) (by decide) N10 g_b1 (hb hby at_48) (ys := [(nar .byte (own_f1 p1 p0 (0 : Int32))), (nar .byte (own_f1 p1 p0 (1 : Int32))), (nar .byte (own_f1 p1 p0 (2 : Int32))), (nar .byte (own_f1 p1 p0 (3 : Int32))), (nar .byte (own_f1 p1 p0 (4 : Int32))), (0 : Int32)]) rfl ?_
  intro T11 h11 L11 X11 N11 e11 W11 A11
  have ZW11 : n0 ≤ h11.size := Nat.le_trans ZW9 (Keep.of_wr W11).1
  refine own_run (g' := (mkF m 54 #[.val (.int p0), .val (.int p1), .val (.int p2), .val (.int p3), .unset, .unset, .unset, .unset, .unset, .unset, .unset, .unset, .unset, .unset] [(.int (5 : Int32)), (.int p0), (.int p1), (.int (5 : Int32)), (.ref b1), (.ref b1)])) (fun _ kt => XS.dup X11.here hx rfl (hb hby at_49) rfl rfl (XS.iconst X11.here hx rfl (hb hby at_50) (XS.iloadN X11.here hx rfl (hb hby at_51) rfl (XS.iloadN X11.here hx rfl (hb hby at_52) rfl (XS.iconst X11.here hx rfl (hb hby at_53) (kt)))))) ?_
  refine own_callS X11 hx hZ hown (hw _ (List.mem_of_getElem? (i := 1) rfl)) (hw _ (List.mem_of_getElem? (i := 2) rfl)) (hw _ (List.mem_of_getElem? (i := 3) rfl)) (hw _ (List.mem_of_getElem? (i := 4) rfl)) (by decide) (rm1 l Z a0 hw [] p1 p0 (5 : Int32) h11 n0) e11 (by decide) (by decide) (by decide) (by decide) (by rw [hml]; rfl) (argsL := [(.int p1), (.int p0), (.int (5 : Int32))]) (rest := [(.int (5 : Int32)), (.ref b1), (.ref b1)]) (lenOf own_pd2 rfl) rfl (W := 3) (Nat.le_of_eq rfl) (hb hby at_54) ?_
  intro T12 r12 L12 X12 hQ12
  obtain ⟨rfl, Nq12, e12⟩ := hQ12
  have N12 := Fr.app N11 Nq12
  refine own_stB X12 hx hZ e12 A11 (j := (5 : Int32)) (by decide) N12 g_b1 (hb hby at_57) (ys := [(nar .byte (own_f1 p1 p0 (0 : Int32))), (nar .byte (own_f1 p1 p0 (1 : Int32))), (nar .byte (own_f1 p1 p0 (2 : Int32))), (nar .byte (own_f1 p1 p0 (3 : Int32))), (nar .byte (own_f1 p1 p0 (4 : Int32))), (nar .byte (own_f1 p1 p0 (5 : Int32)))]) rfl ?_
  intro T13 h13 L13 X13 N13 e13 W13 A13
  have ZW13 : n0 ≤ h13.size := Nat.le_trans ZW11 (Keep.of_wr W13).1
  refine own_run (g' := (mkF m 64 #[.val (.int p0), .val (.int p1), .val (.int p2), .val (.int p3), .val (.ref b1), .unset, .unset, .unset, .unset, .unset, .unset, .unset, .unset, .unset] [(.int (6 : Int32)), (.int p0), (.int p1)])) (fun _ kt => XS.astore X13.here hx rfl (hb hby at_58) rfl rfl (l' := #[.val (.int p0), .val (.int p1), .val (.int p2), .val (.int p3), .val (.ref b1), .unset, .unset, .unset, .unset, .unset, .unset, .unset, .unset, .unset]) rfl (XS.iloadN X13.here hx rfl (hb hby at_60) rfl (XS.iloadN X13.here hx rfl (hb hby at_61) rfl (XS.bipush X13.here hx rfl (hb hby at_62) (kt))))) ?_
  refine own_callS X13 hx hZ hown (hw _ (List.mem_of_getElem? (i := 1) rfl)) (hw _ (List.mem_of_getElem? (i := 2) rfl)) (hw _ (List.mem_of_getElem? (i := 3) rfl)) (hw _ (List.mem_of_getElem? (i := 4) rfl)) (by decide) (rm1 l Z a0 hw [] p1 p0 (6 : Int32) h13 n0) e13 (by decide) (by decide) (by decide) (by decide) (by rw [hml]; rfl) (argsL := [(.int p1), (.int p0), (.int (6 : Int32))]) (rest := []) (lenOf own_pd2 rfl) rfl (W := 0) (Nat.le_of_eq rfl) (hb hby at_64) ?_
  intro T14 r14 L14 X14 hQ14
  obtain ⟨rfl, Nq14, e14⟩ := hQ14
  have N14 := Fr.app N13 Nq14
  refine own_run (g' := (mkF m 69 #[.val (.int p0), .val (.int p1), .val (.int p2), .val (.int p3), .val (.ref b1), .val (.int (own_f1 p1 p0 (6 : Int32))), .unset, .unset, .unset, .unset, .unset, .unset, .unset, .unset] [])) (fun _ kt => XS.istore X14.here hx rfl (hb hby at_67) rfl (l' := #[.val (.int p0), .val (.int p1), .val (.int p2), .val (.int p3), .val (.ref b1), .val (.int (own_f1 p1 p0 (6 : Int32))), .unset, .unset, .unset, .unset, .unset, .unset, .unset, .unset]) rfl (kt)) ?_
  obtain ⟨v67, hv67⟩ : ∃ z : Int32, z = (own_f1 p1 p0 (6 : Int32)) := ⟨_, rfl⟩
  rw [← hv67]
  refine own_run (g' := (mkF m 73 #[.val (.int p0), .val (.int p1), .val (.int p2), .val (.int p3), .val (.ref b1), .val (.int v67), .unset, .unset, .unset, .unset, .unset, .unset, .unset, .unset] [(.int (7 : Int32)), (.int p0), (.int p1)])) (fun _ kt => XS.iloadN X14.here hx rfl (hb hby at_69) rfl (XS.iloadN X14.here hx rfl (hb hby at_70) rfl (XS.bipush X14.here hx rfl (hb hby at_71) (kt)))) ?_
  refine own_callS X14 hx hZ hown (hw _ (List.mem_of_getElem? (i := 1) rfl)) (hw _ (List.mem_of_getElem? (i := 2) rfl)) (hw _ (List.mem_of_getElem? (i := 3) rfl)) (hw _ (List.mem_of_getElem? (i := 4) rfl)) (by decide) (rm1 l Z a0 hw [] p1 p0 (7 : Int32) h13 n0) e14 (by decide) (by decide) (by decide) (by decide) (by rw [hml]; rfl) (argsL := [(.int p1), (.int p0), (.int (7 : Int32))]) (rest := []) (lenOf own_pd2 rfl) rfl (W := 0) (Nat.le_of_eq rfl) (hb hby at_73) ?_
  intro T15 r15 L15 X15 hQ15
  obtain ⟨rfl, Nq15, e15⟩ := hQ15
  have N15 := Fr.app N14 Nq15
  refine own_run (g' := (mkF m 78 #[.val (.int p0), .val (.int p1), .val (.int p2), .val (.int p3), .val (.ref b1), .val (.int v67), .val (.int (own_f1 p1 p0 (7 : Int32))), .unset, .unset, .unset, .unset, .unset, .unset, .unset] [])) (fun _ kt => XS.istore X15.here hx rfl (hb hby at_76) rfl (l' := #[.val (.int p0), .val (.int p1), .val (.int p2), .val (.int p3), .val (.ref b1), .val (.int v67), .val (.int (own_f1 p1 p0 (7 : Int32))), .unset, .unset, .unset, .unset, .unset, .unset, .unset]) rfl (kt)) ?_
  obtain ⟨v76, hv76⟩ : ∃ z : Int32, z = (own_f1 p1 p0 (7 : Int32)) := ⟨_, rfl⟩
  rw [← hv76]
  refine own_run (g' := (mkF m 82 #[.val (.int p0), .val (.int p1), .val (.int p2), .val (.int p3), .val (.ref b1), .val (.int v67), .val (.int v76), .unset, .unset, .unset, .unset, .unset, .unset, .unset] [(.int (8 : Int32)), (.int p0), (.int p1)])) (fun _ kt => XS.iloadN X15.here hx rfl (hb hby at_78) rfl (XS.iloadN X15.here hx rfl (hb hby at_79) rfl (XS.bipush X15.here hx rfl (hb hby at_80) (kt)))) ?_
  refine own_callS X15 hx hZ hown (hw _ (List.mem_of_getElem? (i := 1) rfl)) (hw _ (List.mem_of_getElem? (i := 2) rfl)) (hw _ (List.mem_of_getElem? (i := 3) rfl)) (hw _ (List.mem_of_getElem? (i := 4) rfl)) (by decide) (rm1 l Z a0 hw [] p1 p0 (8 : Int32) h13 n0) e15 (by decide) (by decide) (by decide) (by decide) (by rw [hml]; rfl) (argsL := [(.int p1), (.int p0), (.int (8 : Int32))]) (rest := []) (lenOf own_pd2 rfl) rfl (W := 0) (Nat.le_of_eq rfl) (hb hby at_82) ?_
  intro T16 r16 L16 X16 hQ16
  obtain ⟨rfl, Nq16, e16⟩ := hQ16
  have N16 := Fr.app N15 Nq16
  refine own_run (g' := (mkF m 87 #[.val (.int p0), .val (.int p1), .val (.int p2), .val (.int p3), .val (.ref b1), .val (.int v67), .val (.int v76), .val (.int (own_f1 p1 p0 (8 : Int32))), .unset, .unset, .unset, .unset, .unset, .unset] [])) (fun _ kt => XS.istore X16.here hx rfl (hb hby at_85) rfl (l' := #[.val (.int p0), .val (.int p1), .val (.int p2), .val (.int p3), .val (.ref b1), .val (.int v67), .val (.int v76), .val (.int (own_f1 p1 p0 (8 : Int32))), .unset, .unset, .unset, .unset, .unset, .unset]) rfl (kt)) ?_
  obtain ⟨v85, hv85⟩ : ∃ z : Int32, z = (own_f1 p1 p0 (8 : Int32)) := ⟨_, rfl⟩
  rw [← hv85]
  refine own_run (g' := (mkF m 96 #[.val (.int p0), .val (.int p1), .val (.int p2), .val (.int p3), .val (.ref b1), .val (.int v67), .val (.int v76), .val (.int v85), .unset, .unset, .unset, .unset, .unset, .unset] [(.int p0), (.int ((1 : Int32) + ((XT.ushr p0 (18 : Int32)) &&& (1 : Int32))))])) (fun _ kt => XS.iconst X16.here hx rfl (hb hby at_87) (XS.iloadN X16.here hx rfl (hb hby at_88) rfl (XS.bipush X16.here hx rfl (hb hby at_89) (XS.iushr X16.here hx rfl (hb hby at_91) rfl (XS.iconst X16.here hx rfl (hb hby at_92) (XS.iand X16.here hx rfl (hb hby at_93) rfl (XS.iadd X16.here hx rfl (hb hby at_94) rfl (XS.iloadN X16.here hx rfl (hb hby at_95) rfl (kt))))))))) ?_
  refine own_run (g' := (mkF m 104 #[.val (.int p0), .val (.int p1), .val (.int p2), .val (.int p3), .val (.ref b1), .val (.int v67), .val (.int v76), .val (.int v85), .val (.int (((1 : Int32) + ((XT.ushr p0 (18 : Int32)) &&& (1 : Int32))) + ((XT.ushr p0 (19 : Int32)) &&& (1 : Int32)))), .unset, .unset, .unset, .unset, .unset] [])) (fun _ kt => XS.bipush X16.here hx rfl (hb hby at_96) (XS.iushr X16.here hx rfl (hb hby at_98) rfl (XS.iconst X16.here hx rfl (hb hby at_99) (XS.iand X16.here hx rfl (hb hby at_100) rfl (XS.iadd X16.here hx rfl (hb hby at_101) rfl (XS.istore X16.here hx rfl (hb hby at_102) rfl (l' := #[.val (.int p0), .val (.int p1), .val (.int p2), .val (.int p3), .val (.ref b1), .val (.int v67), .val (.int v76), .val (.int v85), .val (.int (((1 : Int32) + ((XT.ushr p0 (18 : Int32)) &&& (1 : Int32))) + ((XT.ushr p0 (19 : Int32)) &&& (1 : Int32)))), .unset, .unset, .unset, .unset, .unset]) rfl (kt))))))) ?_
  obtain ⟨v102, hv102⟩ : ∃ z : Int32, z = (((1 : Int32) + ((XT.ushr p0 (18 : Int32)) &&& (1 : Int32))) + ((XT.ushr p0 (19 : Int32)) &&& (1 : Int32))) := ⟨_, rfl⟩
  rw [← hv102]
  refine own_run (g' := (mkF m 107 #[.val (.int p0), .val (.int p1), .val (.int p2), .val (.int p3), .val (.ref b1), .val (.int v67), .val (.int v76), .val (.int v85), .val (.int v102), .unset, .unset, .unset, .unset, .unset] [(.int (1 : Int32)), (.int v102)])) (fun _ kt => XS.iload X16.here hx rfl (hb hby at_104) rfl (XS.iconst X16.here hx rfl (hb hby at_106) (kt))) ?_
  by_cases hc107 : v102 = (1 : Int32)
  · refine own_run (g' := (mkF m 111 #[.val (.int p0), .val (.int p1), .val (.int p2), .val (.int p3), .val (.ref b1), .val (.int v67), .val (.int v76), .val (.int v85), .val (.int v102), .unset, .unset, .unset, .unset, .unset] [(.int (1 : Int32))])) (fun _ kt => XS.icmpNo X16.here hx rfl (hb hby at_107) rfl ((teq hc107).2) (XS.iconst X16.here hx rfl (hb hby at_110) (kt))) ?_
    refine own_newA X16 hx hZ (aty := .byte) (hw _ (List.mem_of_getElem? (i := 0) rfl)) (ty := .byte) rfl rfl e16 (hb hby at_111) (by decide) (cap := 1) (by decide) (by decide) (by decide) (by decide) ?_
    intro T17 h17 b17 qq17 X17 e17 E17 A17
    have ne_b1_b17 : b1 ≠ b17 := Nat.ne_of_lt (by rw [qq17]; exact A13.lt)
    replace A13 := A13.ext E17
    have g_b17 : n0 ≤ b17 := by rw [qq17]; exact ZW13
    have Z17 : n0 ≤ h17.size := Nat.le_trans ZW13 E17.1
    replace A17 : own_A Z h17 b17 .byte (1 : Int32) [(0 : Int32)] := A17
    refine own_run (g' := (mkF m 117 #[.val (.int p0), .val (.int p1), .val (.int p2), .val (.int p3), .val (.ref b1), .val (.int v67), .val (.int v76), .val (.int v85), .val (.int v102), .unset, .unset, .unset, .unset, .unset] [(.int v67), (.int (0 : Int32)), (.ref b17), (.ref b17)])) (fun _ kt => XS.dup X17.here hx rfl (hb hby at_113) rfl rfl (XS.iconst X17.here hx rfl (hb hby at_114) (XS.iload X17.here hx rfl (hb hby at_115) rfl (kt)))) ?_
    refine own_stB X17 hx hZ e17 A17 (j := (0 : Int32)) (by decide) N16 g_b17 (hb hby at_117) (ys := [(nar .byte v67)]) rfl ?_
    intro T18 h18 L18 X18 N18 e18 W18 A18
    replace A13 := A13.other W18 ne_b1_b17
    have ZW18 : n0 ≤ h18.size := Nat.le_trans Z17 (Keep.of_wr W18).1
    refine own_run (g' := (mkF m 164 #[.val (.int p0), .val (.int p1), .val (.int p2), .val (.int p3), .val (.ref b1), .val (.int v67), .val (.int v76), .val (.int v85), .val (.int v102), .val (.ref b17), .unset, .unset, .unset, .unset] [(.int p2)])) (fun _ kt => XS.goto X18.here hx rfl (pc0 := 118) (pc' := 161) rfl (hb hby at_118) (by decide) (by decide) (XS.astore X18.here hx rfl (hb hby at_161) rfl rfl (l' := #[.val (.int p0), .val (.int p1), .val (.int p2), .val (.int p3), .val (.ref b1), .val (.int v67), .val (.int v76), .val (.int v85), .val (.int v102), .val (.ref b17), .unset, .unset, .unset, .unset]) rfl (XS.iloadN X18.here hx rfl (hb hby at_163) rfl (kt)))) ?_
    refine own_ldcI X18 hx hZ hown (hw _ (List.mem_of_getElem? (i := 5) rfl)) (hb hby at_164) ?_
    refine own_run (g' := (mkF m 172 #[.val (.int p0), .val (.int p1), .val (.int p2), .val (.int p3), .val (.ref b1), .val (.int v67), .val (.int v76), .val (.int v85), .val (.int v102), .val (.ref b17), .val (.int ((p2 &&& (2147483647 : Int32)) % (7 : Int32))), .unset, .unset, .unset] [])) (fun _ kt => XS.iand X18.here hx rfl (hb hby at_166) rfl (XS.bipush X18.here hx rfl (hb hby at_167) (own_irem X18.here hx rfl (hb hby at_169) rfl (by decide) (XS.istore X18.here hx rfl (hb hby at_170) rfl (l' := #[.val (.int p0), .val (.int p1), .val (.int p2), .val (.int p3), .val (.ref b1), .val (.int v67), .val (.int v76), .val (.int v85), .val (.int v102), .val (.ref b17), .val (.int ((p2 &&& (2147483647 : Int32)) % (7 : Int32))), .unset, .unset, .unset]) rfl (kt))))) ?_
    obtain ⟨v170, hv170⟩ : ∃ z : Int32, z = ((p2 &&& (2147483647 : Int32)) % (7 : Int32)) := ⟨_, rfl⟩
    rw [← hv170]
    refine own_run (g' := (mkF m 173 #[.val (.int p0), .val (.int p1), .val (.int p2), .val (.int p3), .val (.ref b1), .val (.int v67), .val (.int v76), .val (.int v85), .val (.int v102), .val (.ref b17), .val (.int v170), .unset, .unset, .unset] [(.int p3)])) (fun _ kt => XS.iloadN X18.here hx rfl (hb hby at_172) rfl (kt)) ?_
    refine own_ldcI X18 hx hZ hown (hw _ (List.mem_of_getElem? (i := 5) rfl)) (hb hby at_173) ?_
    refine own_run (g' := (mkF m 181 #[.val (.int p0), .val (.int p1), .val (.int p2), .val (.int p3), .val (.ref b1), .val (.int v67), .val (.int v76), .val (.int v85), .val (.int v102), .val (.ref b17), .val (.int v170), .val (.int ((p3 &&& (2147483647 : Int32)) % (7 : Int32))), .unset, .unset] [])) (fun _ kt => XS.iand X18.here hx rfl (hb hby at_175) rfl (XS.bipush X18.here hx rfl (hb hby at_176) (own_irem X18.here hx rfl (hb hby at_178) rfl (by decide) (XS.istore X18.here hx rfl (hb hby at_179) rfl (l' := #[.val (.int p0), .val (.int p1), .val (.int p2), .val (.int p3), .val (.ref b1), .val (.int v67), .val (.int v76), .val (.int v85), .val (.int v102), .val (.ref b17), .val (.int v170), .val (.int ((p3 &&& (2147483647 : Int32)) % (7 : Int32))), .unset, .unset]) rfl (kt))))) ?_
    obtain ⟨v179, hv179⟩ : ∃ z : Int32, z = ((p3 &&& (2147483647 : Int32)) % (7 : Int32)) := ⟨_, rfl⟩
    rw [← hv179]
    have hk : (1 : Int32) = 1 ∨ (1 : Int32) = 2 ∨ (1 : Int32) = (3 : Int32) := by decide
    obtain ⟨FF, hFF, hF6⟩ : ∃ n : Nat, v170.toInt = n ∧ n ≤ 6 := by rw [hv170]; exact own_e7 p2
    obtain ⟨TT, hTT, hT6⟩ : ∃ n : Nat, v179.toInt = n ∧ n ≤ 6 := by rw [hv179]; exact own_e7 p3
    refine own_run (g' := (mkF m 190 #[.val (.int p0), .val (.int p1), .val (.int p2), .val (.int p3), .val (.ref b1), .val (.int v67), .val (.int v76), .val (.int v85), .val (.int v102), .val (.ref b17), .val (.int v170), .val (.int v179), .unset, .unset] [(.int (0 : Int32)), (.int v179), (.int v170), (.ref b17), (.ref b1)])) (fun _ kt => XS.aload X18.here hx rfl (hb hby at_181) rfl rfl (XS.aload X18.here hx rfl (hb hby at_183) rfl rfl (XS.iload X18.here hx rfl (hb hby at_185) rfl (XS.iload X18.here hx rfl (hb hby at_187) rfl (XS.iconst X18.here hx rfl (hb hby at_189) (kt)))))) ?_
    refine own_callS X18 hx hZ hown (hw _ (List.mem_of_getElem? (i := 6) rfl)) (hw _ (List.mem_of_getElem? (i := 7) rfl)) (hw _ (List.mem_of_getElem? (i := 3) rfl)) (hw _ (List.mem_of_getElem? (i := 8) rfl)) (by decide) (rm2 l Z a0 hw [] b1 b17 v170 v179 (0 : Int32) (1 : Int32) [(nar .byte (own_f1 p1 p0 (0 : Int32))), (nar .byte (own_f1 p1 p0 (1 : Int32))), (nar .byte (own_f1 p1 p0 (2 : Int32))), (nar .byte (own_f1 p1 p0 (3 : Int32))), (nar .byte (own_f1 p1 p0 (4 : Int32))), (nar .byte (own_f1 p1 p0 (5 : Int32)))] [(nar .byte v67)] h18 n0 A13 A18 hk (by decide)) e18 (by decide) (by decide) (by decide) (by decide) (by rw [hml]; rfl) (argsL := [(.ref b1), (.ref b17), (.int v170), (.int v179), (.int (0 : Int32))]) (rest := []) (lenOf own_pd3 rfl) rfl (W := 0) (Nat.le_of_eq rfl) (hb hby at_190) ?_
    intro T19 r19 L19 X19 hQ19
    obtain ⟨rfl, Nq19, e19⟩ := hQ19
    have N19 := Fr.app N18 Nq19
    have J20 : ∀ (T20 : State) (L20 : List Loc) (v20_12 : Int32), Stand p l e room_1 s m args below meth c T20 L20 2 7 → Fr n0 L20 → T20.heap = h18 → v20_12 = (if (own_f2 v170 v179 (0 : Int32) (1 : Int32) [(nar .byte (own_f1 p1 p0 (0 : Int32))), (nar .byte (own_f1 p1 p0 (1 : Int32))), (nar .byte (own_f1 p1 p0 (2 : Int32))), (nar .byte (own_f1 p1 p0 (3 : Int32))), (nar .byte (own_f1 p1 p0 (4 : Int32))), (nar .byte (own_f1 p1 p0 (5 : Int32)))] [(nar .byte v67)]) = (0 : Int32) then (if (own_f2 v170 v179 (1 : Int32) (1 : Int32) [(nar .byte (own_f1 p1 p0 (0 : Int32))), (nar .byte (own_f1 p1 p0 (1 : Int32))), (nar .byte (own_f1 p1 p0 (2 : Int32))), (nar .byte (own_f1 p1 p0 (3 : Int32))), (nar .byte (own_f1 p1 p0 (4 : Int32))), (nar .byte (own_f1 p1 p0 (5 : Int32)))] [(nar .byte v67)]) = (0 : Int32) then (if (own_f2 v170 v179 (2 : Int32) (1 : Int32) [(nar .byte (own_f1 p1 p0 (0 : Int32))), (nar .byte (own_f1 p1 p0 (1 : Int32))), (nar .byte (own_f1 p1 p0 (2 : Int32))), (nar .byte (own_f1 p1 p0 (3 : Int32))), (nar .byte (own_f1 p1 p0 (4 : Int32))), (nar .byte (own_f1 p1 p0 (5 : Int32)))] [(nar .byte v67)]) = (0 : Int32) then (if (own_f2 v170 v179 (3 : Int32) (1 : Int32) [(nar .byte (own_f1 p1 p0 (0 : Int32))), (nar .byte (own_f1 p1 p0 (1 : Int32))), (nar .byte (own_f1 p1 p0 (2 : Int32))), (nar .byte (own_f1 p1 p0 (3 : Int32))), (nar .byte (own_f1 p1 p0 (4 : Int32))), (nar .byte (own_f1 p1 p0 (5 : Int32)))] [(nar .byte v67)]) = (0 : Int32) then (if (own_f2 v170 v179 (4 : Int32) (1 : Int32) [(nar .byte (own_f1 p1 p0 (0 : Int32))), (nar .byte (own_f1 p1 p0 (1 : Int32))), (nar .byte (own_f1 p1 p0 (2 : Int32))), (nar .byte (own_f1 p1 p0 (3 : Int32))), (nar .byte (own_f1 p1 p0 (4 : Int32))), (nar .byte (own_f1 p1 p0 (5 : Int32)))] [(nar .byte v67)]) = (0 : Int32) then (if (own_f2 v170 v179 (5 : Int32) (1 : Int32) [(nar .byte (own_f1 p1 p0 (0 : Int32))), (nar .byte (own_f1 p1 p0 (1 : Int32))), (nar .byte (own_f1 p1 p0 (2 : Int32))), (nar .byte (own_f1 p1 p0 (3 : Int32))), (nar .byte (own_f1 p1 p0 (4 : Int32))), (nar .byte (own_f1 p1 p0 (5 : Int32)))] [(nar .byte v67)]) = (0 : Int32) then (-1 : Int32) else (5 : Int32)) else (4 : Int32)) else (3 : Int32)) else (2 : Int32)) else (1 : Int32)) else (0 : Int32)) →  own_Run p e below s room_1.cells room_1.slots (Q0 h0 n0) T20 (mkF m 310 #[.val (.int p0), .val (.int p1), .val (.int p2), .val (.int p3), .val (.ref b1), .val (.int v67), .val (.int v76), .val (.int v85), .val (.int v102), .val (.ref b17), .val (.int v170), .val (.int v179), .val (.int v20_12), .unset] []) := by
      intro T20 L20 v20_12 X20 N20 e20 hv20_12
      refine own_new X20 hx hZ hown (hw _ (List.mem_of_getElem? (i := 9) rfl)) (hw _ (List.mem_of_getElem? (i := 10) rfl)) (hw _ (List.mem_of_getElem? (i := 11) rfl)) e20 (hb hby at_310) (by decide) (by decide) ?_
      intro T21 h21 b21 qq21 X21 e21 E21 K21 D21
      have ne_b1_b21 : b1 ≠ b21 := Nat.ne_of_lt (by rw [qq21]; exact A13.lt)
      have ne_b17_b21 : b17 ≠ b21 := Nat.ne_of_lt (by rw [qq21]; exact A18.lt)
      replace A13 := A13.ext E21
      replace A18 := A18.ext E21
      have g_b21 : n0 ≤ b21 := by rw [qq21]; exact ZW18
      have Z21 : n0 ≤ h21.size := Nat.le_trans ZW18 E21.1
      have F21_moves : Fld Z h21 b21 "com/example/lean_markup/leanmarkup/util/ByteSearch" "moves" "[I" .null := D21 (Or.inr (hw _ (List.mem_of_getElem? (i := 20) rfl))) (ty := (.array .int)) (by decide)
      have F21_part : Fld Z h21 b21 "com/example/lean_markup/leanmarkup/util/ByteSearch" "part" "[B" .null := D21 (Or.inr (hw _ (List.mem_of_getElem? (i := 22) rfl))) (ty := (.array .byte)) (by decide)
      refine own_run (g' := (mkF m 316 #[.val (.int p0), .val (.int p1), .val (.int p2), .val (.int p3), .val (.ref b1), .val (.int v67), .val (.int v76), .val (.int v85), .val (.int v102), .val (.ref b17), .val (.int v170), .val (.int v179), .val (.int v20_12), .unset] [(.ref b17), (.ref b21), (.ref b21)])) (fun _ kt => XS.dup X21.here hx rfl (hb hby at_313) rfl rfl (XS.aload X21.here hx rfl (hb hby at_314) rfl rfl (kt))) ?_
      refine own_callI (b := b21) X21 hx hZ hown rfl (hw _ (List.mem_of_getElem? (i := 12) rfl)) (hw _ (List.mem_of_getElem? (i := 13) rfl)) (hw _ (List.mem_of_getElem? (i := 11) rfl)) (hw _ (List.mem_of_getElem? (i := 14) rfl)) (by decide) (rm3 l Z a0 hw [] b21 b17 (1 : Int32) [(nar .byte v67)] h21 n0 Z21 K21 F21_moves F21_part A18 g_b21 (Ne.symm ne_b17_b21) hk) e21 (by decide) (by decide) (by decide) (by decide) (by rw [hml]; rfl) (argsL := [(.ref b17)]) (rest := [(.ref b21)]) (lenOf own_pd4 rfl) rfl (W := 1) (Nat.le_of_eq rfl) (hb hby at_316) ?_
      intro T22 r22 L22 X22 hQ22
      obtain ⟨rfl, Nq22, Kc22, x22, g_x22, ne_b21_x22, F22_m, F22_p, A22_m⟩ := hQ22
      have N22 := Fr.app N20 Nq22
      replace A13 := A13.keep Kc22 (ninS ne_b1_b21 nin0)
      replace A18 := A18.keep Kc22 (ninS ne_b17_b21 nin0)
      replace K21 := K21.keep Kc22
      have Z22 : n0 ≤ T22.heap.size := Nat.le_trans Z21 Kc22.1
      refine own_run (g' := (mkF m 329 #[.val (.int p0), .val (.int p1), .val (.int p2), .val (.int p3), .val (.ref b1), .val (.int v67), .val (.int v76), .val (.int v85), .val (.int v102), .val (.ref b17), .val (.int v170), .val (.int v179), .val (.int v20_12), .val (.ref b21)] [(.int v179), (.int v170), (.ref b1), (.ref b21)])) (fun _ kt => XS.astore X22.here hx rfl (hb hby at_319) rfl rfl (l' := #[.val (.int p0), .val (.int p1), .val (.int p2), .val (.int p3), .val (.ref b1), .val (.int v67), .val (.int v76), .val (.int v85), .val (.int v102), .val (.ref b17), .val (.int v170), .val (.int v179), .val (.int v20_12), .val (.ref b21)]) rfl (XS.aload X22.here hx rfl (hb hby at_321) rfl rfl (XS.aload X22.here hx rfl (hb hby at_323) rfl rfl (XS.iload X22.here hx rfl (hb hby at_325) rfl (XS.iload X22.here hx rfl (hb hby at_327) rfl (kt)))))) ?_
      have hp : own_hp (own_mv [(nar .byte v67)] (1 : Int32) ((1 : Int32).toNatClampNeg - 1)) [(nar .byte v67)] 1 (1 - 1) := own_mv_hp [(nar .byte v67)] (1 : Int32) 1 rfl (by decide) (by decide) ((1 : Int32).toNatClampNeg - 1) (by decide)
      refine own_callV (b := b21) X22 hx hZ hown (hw _ (List.mem_of_getElem? (i := 27) rfl)) (hw _ (List.mem_of_getElem? (i := 28) rfl)) (hw _ (List.mem_of_getElem? (i := 30) rfl)) (hw _ (List.mem_of_getElem? (i := 29) rfl)) (hw _ (List.mem_of_getElem? (i := 11) rfl)) (hw _ (List.mem_of_getElem? (i := 31) rfl)) (by decide) K21 (rm6 l Z a0 hw [] b21 b1 v170 v179 b17 x22 (1 : Int32) [(nar .byte (own_f1 p1 p0 (0 : Int32))), (nar .byte (own_f1 p1 p0 (1 : Int32))), (nar .byte (own_f1 p1 p0 (2 : Int32))), (nar .byte (own_f1 p1 p0 (3 : Int32))), (nar .byte (own_f1 p1 p0 (4 : Int32))), (nar .byte (own_f1 p1 p0 (5 : Int32)))] [(nar .byte v67)] (own_mv [(nar .byte v67)] (1 : Int32) ((1 : Int32).toNatClampNeg - 1)) 1 FF TT T22.heap n0 F22_p F22_m A13 A18 A22_m rfl (by decide) (by decide) hFF hF6 hTT hT6 hp) rfl (by decide) (by decide) (by decide) (by decide) (by rw [hml]; rfl) (argsL := [(.ref b1), (.int v170), (.int v179)]) (rest := []) (lenOf own_pd5 rfl) rfl (W := 0) (Nat.le_of_eq rfl) (hb hby at_329) ?_
      intro T23 r23 L23 X23 hQ23
      obtain ⟨r23, rfl, Nq23, e23, hfi⟩ := hQ23
      have N23 := Fr.app N22 Nq23
      have hd334 : r23 = v20_12 := own_fin (K := 1) rfl (by decide) (by decide) hFF hTT hT6 hfi hv20_12
      refine own_run (g' := (mkF m 342 #[.val (.int p0), .val (.int p1), .val (.int p2), .val (.int p3), .val (.ref b1), .val (.int v67), .val (.int v76), .val (.int v85), .val (.int v102), .val (.ref b17), .val (.int v170), .val (.int v179), .val (.int v20_12), .val (.ref b21)] [(.int (1 : Int32))])) (fun _ kt => XS.iload X23.here hx rfl (hb hby at_332) rfl (XS.icmpNo X23.here hx rfl (hb hby at_334) rfl ((teq hd334).2) (XS.iconst X23.here hx rfl (hb hby at_337) (XS.goto X23.here hx rfl (pc0 := 338) (pc' := 342) rfl (hb hby at_338) (by decide) (by decide) (kt))))) ?_
      exact own_retN (t := .boolean) X23 hx Bd.notSynchronized Bd.returns (by simp) (hb hby at_342) (by decide) (by decide) ⟨rfl, N23⟩
    by_cases hc193 : (own_f2 v170 v179 (0 : Int32) (1 : Int32) [(nar .byte (own_f1 p1 p0 (0 : Int32))), (nar .byte (own_f1 p1 p0 (1 : Int32))), (nar .byte (own_f1 p1 p0 (2 : Int32))), (nar .byte (own_f1 p1 p0 (3 : Int32))), (nar .byte (own_f1 p1 p0 (4 : Int32))), (nar .byte (own_f1 p1 p0 (5 : Int32)))] [(nar .byte v67)]) = (0 : Int32)
    · refine own_run (g' := (mkF m 211 #[.val (.int p0), .val (.int p1), .val (.int p2), .val (.int p3), .val (.ref b1), .val (.int v67), .val (.int v76), .val (.int v85), .val (.int v102), .val (.ref b17), .val (.int v170), .val (.int v179), .unset, .unset] [(.int (1 : Int32)), (.int v179), (.int v170), (.ref b17), (.ref b1)])) (fun _ kt => XS.ifYes X19.here hx rfl (pc0 := 193) (pc' := 202) rfl (hb hby at_193) rfl ((if0 _ _).trans (teq hc193).1) (by decide) (by decide) (XS.aload X19.here hx rfl (hb hby at_202) rfl rfl (XS.aload X19.here hx rfl (hb hby at_204) rfl rfl (XS.iload X19.here hx rfl (hb hby at_206) rfl (XS.iload X19.here hx rfl (hb hby at_208) rfl (XS.iconst X19.here hx rfl (hb hby at_210) (kt))))))) ?_
      refine own_callS X19 hx hZ hown (hw _ (List.mem_of_getElem? (i := 6) rfl)) (hw _ (List.mem_of_getElem? (i := 7) rfl)) (hw _ (List.mem_of_getElem? (i := 3) rfl)) (hw _ (List.mem_of_getElem? (i := 8) rfl)) (by decide) (rm2 l Z a0 hw [] b1 b17 v170 v179 (1 : Int32) (1 : Int32) [(nar .byte (own_f1 p1 p0 (0 : Int32))), (nar .byte (own_f1 p1 p0 (1 : Int32))), (nar .byte (own_f1 p1 p0 (2 : Int32))), (nar .byte (own_f1 p1 p0 (3 : Int32))), (nar .byte (own_f1 p1 p0 (4 : Int32))), (nar .byte (own_f1 p1 p0 (5 : Int32)))] [(nar .byte v67)] h18 n0 A13 A18 hk (by decide)) e19 (by decide) (by decide) (by decide) (by decide) (by rw [hml]; rfl) (argsL := [(.ref b1), (.ref b17), (.int v170), (.int v179), (.int (1 : Int32))]) (rest := []) (lenOf own_pd3 rfl) rfl (W := 0) (Nat.le_of_eq rfl) (hb hby at_211) ?_
      intro T24 r24 L24 X24 hQ24
      obtain ⟨rfl, Nq24, e24⟩ := hQ24
      have N24 := Fr.app N19 Nq24
      by_cases hc214 : (own_f2 v170 v179 (1 : Int32) (1 : Int32) [(nar .byte (own_f1 p1 p0 (0 : Int32))), (nar .byte (own_f1 p1 p0 (1 : Int32))), (nar .byte (own_f1 p1 p0 (2 : Int32))), (nar .byte (own_f1 p1 p0 (3 : Int32))), (nar .byte (own_f1 p1 p0 (4 : Int32))), (nar .byte (own_f1 p1 p0 (5 : Int32)))] [(nar .byte v67)]) = (0 : Int32)
      · refine own_run (g' := (mkF m 232 #[.val (.int p0), .val (.int p1), .val (.int p2), .val (.int p3), .val (.ref b1), .val (.int v67), .val (.int v76), .val (.int v85), .val (.int v102), .val (.ref b17), .val (.int v170), .val (.int v179), .unset, .unset] [(.int (2 : Int32)), (.int v179), (.int v170), (.ref b17), (.ref b1)])) (fun _ kt => XS.ifYes X24.here hx rfl (pc0 := 214) (pc' := 223) rfl (hb hby at_214) rfl ((if0 _ _).trans (teq hc214).1) (by decide) (by decide) (XS.aload X24.here hx rfl (hb hby at_223) rfl rfl (XS.aload X24.here hx rfl (hb hby at_225) rfl rfl (XS.iload X24.here hx rfl (hb hby at_227) rfl (XS.iload X24.here hx rfl (hb hby at_229) rfl (XS.iconst X24.here hx rfl (hb hby at_231) (kt))))))) ?_
        refine own_callS X24 hx hZ hown (hw _ (List.mem_of_getElem? (i := 6) rfl)) (hw _ (List.mem_of_getElem? (i := 7) rfl)) (hw _ (List.mem_of_getElem? (i := 3) rfl)) (hw _ (List.mem_of_getElem? (i := 8) rfl)) (by decide) (rm2 l Z a0 hw [] b1 b17 v170 v179 (2 : Int32) (1 : Int32) [(nar .byte (own_f1 p1 p0 (0 : Int32))), (nar .byte (own_f1 p1 p0 (1 : Int32))), (nar .byte (own_f1 p1 p0 (2 : Int32))), (nar .byte (own_f1 p1 p0 (3 : Int32))), (nar .byte (own_f1 p1 p0 (4 : Int32))), (nar .byte (own_f1 p1 p0 (5 : Int32)))] [(nar .byte v67)] h18 n0 A13 A18 hk (by decide)) e24 (by decide) (by decide) (by decide) (by decide) (by rw [hml]; rfl) (argsL := [(.ref b1), (.ref b17), (.int v170), (.int v179), (.int (2 : Int32))]) (rest := []) (lenOf own_pd3 rfl) rfl (W := 0) (Nat.le_of_eq rfl) (hb hby at_232) ?_
        intro T25 r25 L25 X25 hQ25
        obtain ⟨rfl, Nq25, e25⟩ := hQ25
        have N25 := Fr.app N24 Nq25
        by_cases hc235 : (own_f2 v170 v179 (2 : Int32) (1 : Int32) [(nar .byte (own_f1 p1 p0 (0 : Int32))), (nar .byte (own_f1 p1 p0 (1 : Int32))), (nar .byte (own_f1 p1 p0 (2 : Int32))), (nar .byte (own_f1 p1 p0 (3 : Int32))), (nar .byte (own_f1 p1 p0 (4 : Int32))), (nar .byte (own_f1 p1 p0 (5 : Int32)))] [(nar .byte v67)]) = (0 : Int32)
        · refine own_run (g' := (mkF m 253 #[.val (.int p0), .val (.int p1), .val (.int p2), .val (.int p3), .val (.ref b1), .val (.int v67), .val (.int v76), .val (.int v85), .val (.int v102), .val (.ref b17), .val (.int v170), .val (.int v179), .unset, .unset] [(.int (3 : Int32)), (.int v179), (.int v170), (.ref b17), (.ref b1)])) (fun _ kt => XS.ifYes X25.here hx rfl (pc0 := 235) (pc' := 244) rfl (hb hby at_235) rfl ((if0 _ _).trans (teq hc235).1) (by decide) (by decide) (XS.aload X25.here hx rfl (hb hby at_244) rfl rfl (XS.aload X25.here hx rfl (hb hby at_246) rfl rfl (XS.iload X25.here hx rfl (hb hby at_248) rfl (XS.iload X25.here hx rfl (hb hby at_250) rfl (XS.iconst X25.here hx rfl (hb hby at_252) (kt))))))) ?_
          refine own_callS X25 hx hZ hown (hw _ (List.mem_of_getElem? (i := 6) rfl)) (hw _ (List.mem_of_getElem? (i := 7) rfl)) (hw _ (List.mem_of_getElem? (i := 3) rfl)) (hw _ (List.mem_of_getElem? (i := 8) rfl)) (by decide) (rm2 l Z a0 hw [] b1 b17 v170 v179 (3 : Int32) (1 : Int32) [(nar .byte (own_f1 p1 p0 (0 : Int32))), (nar .byte (own_f1 p1 p0 (1 : Int32))), (nar .byte (own_f1 p1 p0 (2 : Int32))), (nar .byte (own_f1 p1 p0 (3 : Int32))), (nar .byte (own_f1 p1 p0 (4 : Int32))), (nar .byte (own_f1 p1 p0 (5 : Int32)))] [(nar .byte v67)] h18 n0 A13 A18 hk (by decide)) e25 (by decide) (by decide) (by decide) (by decide) (by rw [hml]; rfl) (argsL := [(.ref b1), (.ref b17), (.int v170), (.int v179), (.int (3 : Int32))]) (rest := []) (lenOf own_pd3 rfl) rfl (W := 0) (Nat.le_of_eq rfl) (hb hby at_253) ?_
          intro T26 r26 L26 X26 hQ26
          obtain ⟨rfl, Nq26, e26⟩ := hQ26
          have N26 := Fr.app N25 Nq26
          by_cases hc256 : (own_f2 v170 v179 (3 : Int32) (1 : Int32) [(nar .byte (own_f1 p1 p0 (0 : Int32))), (nar .byte (own_f1 p1 p0 (1 : Int32))), (nar .byte (own_f1 p1 p0 (2 : Int32))), (nar .byte (own_f1 p1 p0 (3 : Int32))), (nar .byte (own_f1 p1 p0 (4 : Int32))), (nar .byte (own_f1 p1 p0 (5 : Int32)))] [(nar .byte v67)]) = (0 : Int32)
          · refine own_run (g' := (mkF m 274 #[.val (.int p0), .val (.int p1), .val (.int p2), .val (.int p3), .val (.ref b1), .val (.int v67), .val (.int v76), .val (.int v85), .val (.int v102), .val (.ref b17), .val (.int v170), .val (.int v179), .unset, .unset] [(.int (4 : Int32)), (.int v179), (.int v170), (.ref b17), (.ref b1)])) (fun _ kt => XS.ifYes X26.here hx rfl (pc0 := 256) (pc' := 265) rfl (hb hby at_256) rfl ((if0 _ _).trans (teq hc256).1) (by decide) (by decide) (XS.aload X26.here hx rfl (hb hby at_265) rfl rfl (XS.aload X26.here hx rfl (hb hby at_267) rfl rfl (XS.iload X26.here hx rfl (hb hby at_269) rfl (XS.iload X26.here hx rfl (hb hby at_271) rfl (XS.iconst X26.here hx rfl (hb hby at_273) (kt))))))) ?_
            refine own_callS X26 hx hZ hown (hw _ (List.mem_of_getElem? (i := 6) rfl)) (hw _ (List.mem_of_getElem? (i := 7) rfl)) (hw _ (List.mem_of_getElem? (i := 3) rfl)) (hw _ (List.mem_of_getElem? (i := 8) rfl)) (by decide) (rm2 l Z a0 hw [] b1 b17 v170 v179 (4 : Int32) (1 : Int32) [(nar .byte (own_f1 p1 p0 (0 : Int32))), (nar .byte (own_f1 p1 p0 (1 : Int32))), (nar .byte (own_f1 p1 p0 (2 : Int32))), (nar .byte (own_f1 p1 p0 (3 : Int32))), (nar .byte (own_f1 p1 p0 (4 : Int32))), (nar .byte (own_f1 p1 p0 (5 : Int32)))] [(nar .byte v67)] h18 n0 A13 A18 hk (by decide)) e26 (by decide) (by decide) (by decide) (by decide) (by rw [hml]; rfl) (argsL := [(.ref b1), (.ref b17), (.int v170), (.int v179), (.int (4 : Int32))]) (rest := []) (lenOf own_pd3 rfl) rfl (W := 0) (Nat.le_of_eq rfl) (hb hby at_274) ?_
            intro T27 r27 L27 X27 hQ27
            obtain ⟨rfl, Nq27, e27⟩ := hQ27
            have N27 := Fr.app N26 Nq27
            by_cases hc277 : (own_f2 v170 v179 (4 : Int32) (1 : Int32) [(nar .byte (own_f1 p1 p0 (0 : Int32))), (nar .byte (own_f1 p1 p0 (1 : Int32))), (nar .byte (own_f1 p1 p0 (2 : Int32))), (nar .byte (own_f1 p1 p0 (3 : Int32))), (nar .byte (own_f1 p1 p0 (4 : Int32))), (nar .byte (own_f1 p1 p0 (5 : Int32)))] [(nar .byte v67)]) = (0 : Int32)
            · refine own_run (g' := (mkF m 295 #[.val (.int p0), .val (.int p1), .val (.int p2), .val (.int p3), .val (.ref b1), .val (.int v67), .val (.int v76), .val (.int v85), .val (.int v102), .val (.ref b17), .val (.int v170), .val (.int v179), .unset, .unset] [(.int (5 : Int32)), (.int v179), (.int v170), (.ref b17), (.ref b1)])) (fun _ kt => XS.ifYes X27.here hx rfl (pc0 := 277) (pc' := 286) rfl (hb hby at_277) rfl ((if0 _ _).trans (teq hc277).1) (by decide) (by decide) (XS.aload X27.here hx rfl (hb hby at_286) rfl rfl (XS.aload X27.here hx rfl (hb hby at_288) rfl rfl (XS.iload X27.here hx rfl (hb hby at_290) rfl (XS.iload X27.here hx rfl (hb hby at_292) rfl (XS.iconst X27.here hx rfl (hb hby at_294) (kt))))))) ?_
              refine own_callS X27 hx hZ hown (hw _ (List.mem_of_getElem? (i := 6) rfl)) (hw _ (List.mem_of_getElem? (i := 7) rfl)) (hw _ (List.mem_of_getElem? (i := 3) rfl)) (hw _ (List.mem_of_getElem? (i := 8) rfl)) (by decide) (rm2 l Z a0 hw [] b1 b17 v170 v179 (5 : Int32) (1 : Int32) [(nar .byte (own_f1 p1 p0 (0 : Int32))), (nar .byte (own_f1 p1 p0 (1 : Int32))), (nar .byte (own_f1 p1 p0 (2 : Int32))), (nar .byte (own_f1 p1 p0 (3 : Int32))), (nar .byte (own_f1 p1 p0 (4 : Int32))), (nar .byte (own_f1 p1 p0 (5 : Int32)))] [(nar .byte v67)] h18 n0 A13 A18 hk (by decide)) e27 (by decide) (by decide) (by decide) (by decide) (by rw [hml]; rfl) (argsL := [(.ref b1), (.ref b17), (.int v170), (.int v179), (.int (5 : Int32))]) (rest := []) (lenOf own_pd3 rfl) rfl (W := 0) (Nat.le_of_eq rfl) (hb hby at_295) ?_
              intro T28 r28 L28 X28 hQ28
              obtain ⟨rfl, Nq28, e28⟩ := hQ28
              have N28 := Fr.app N27 Nq28
              by_cases hc298 : (own_f2 v170 v179 (5 : Int32) (1 : Int32) [(nar .byte (own_f1 p1 p0 (0 : Int32))), (nar .byte (own_f1 p1 p0 (1 : Int32))), (nar .byte (own_f1 p1 p0 (2 : Int32))), (nar .byte (own_f1 p1 p0 (3 : Int32))), (nar .byte (own_f1 p1 p0 (4 : Int32))), (nar .byte (own_f1 p1 p0 (5 : Int32)))] [(nar .byte v67)]) = (0 : Int32)
              · refine own_run (g' := (mkF m 310 #[.val (.int p0), .val (.int p1), .val (.int p2), .val (.int p3), .val (.ref b1), .val (.int v67), .val (.int v76), .val (.int v85), .val (.int v102), .val (.ref b17), .val (.int v170), .val (.int v179), .val (.int (-1 : Int32)), .unset] [])) (fun _ kt => XS.ifYes X28.here hx rfl (pc0 := 298) (pc' := 307) rfl (hb hby at_298) rfl ((if0 _ _).trans (teq hc298).1) (by decide) (by decide) (XS.iconst X28.here hx rfl (hb hby at_307) (XS.istore X28.here hx rfl (hb hby at_308) rfl (l' := #[.val (.int p0), .val (.int p1), .val (.int p2), .val (.int p3), .val (.ref b1), .val (.int v67), .val (.int v76), .val (.int v85), .val (.int v102), .val (.ref b17), .val (.int v170), .val (.int v179), .val (.int (-1 : Int32)), .unset]) rfl (kt)))) ?_
                exact J20 T28 _ (-1 : Int32) X28 N28 e28 (by rw [if_pos hc193, if_pos hc214, if_pos hc235, if_pos hc256, if_pos hc277, if_pos hc298])
              · refine own_run (g' := (mkF m 310 #[.val (.int p0), .val (.int p1), .val (.int p2), .val (.int p3), .val (.ref b1), .val (.int v67), .val (.int v76), .val (.int v85), .val (.int v102), .val (.ref b17), .val (.int v170), .val (.int v179), .val (.int (5 : Int32)), .unset] [])) (fun _ kt => XS.ifNo X28.here hx rfl (hb hby at_298) rfl ((if0 _ _).trans (feq hc298).1) (XS.iconst X28.here hx rfl (hb hby at_301) (XS.istore X28.here hx rfl (hb hby at_302) rfl (l' := #[.val (.int p0), .val (.int p1), .val (.int p2), .val (.int p3), .val (.ref b1), .val (.int v67), .val (.int v76), .val (.int v85), .val (.int v102), .val (.ref b17), .val (.int v170), .val (.int v179), .val (.int (5 : Int32)), .unset]) rfl (XS.goto X28.here hx rfl (pc0 := 304) (pc' := 310) rfl (hb hby at_304) (by decide) (by decide) (kt))))) ?_
                exact J20 T28 _ (5 : Int32) X28 N28 e28 (by rw [if_pos hc193, if_pos hc214, if_pos hc235, if_pos hc256, if_pos hc277, if_neg hc298])
            · refine own_run (g' := (mkF m 310 #[.val (.int p0), .val (.int p1), .val (.int p2), .val (.int p3), .val (.ref b1), .val (.int v67), .val (.int v76), .val (.int v85), .val (.int v102), .val (.ref b17), .val (.int v170), .val (.int v179), .val (.int (4 : Int32)), .unset] [])) (fun _ kt => XS.ifNo X27.here hx rfl (hb hby at_277) rfl ((if0 _ _).trans (feq hc277).1) (XS.iconst X27.here hx rfl (hb hby at_280) (XS.istore X27.here hx rfl (hb hby at_281) rfl (l' := #[.val (.int p0), .val (.int p1), .val (.int p2), .val (.int p3), .val (.ref b1), .val (.int v67), .val (.int v76), .val (.int v85), .val (.int v102), .val (.ref b17), .val (.int v170), .val (.int v179), .val (.int (4 : Int32)), .unset]) rfl (XS.goto X27.here hx rfl (pc0 := 283) (pc' := 310) rfl (hb hby at_283) (by decide) (by decide) (kt))))) ?_
              exact J20 T27 _ (4 : Int32) X27 N27 e27 (by rw [if_pos hc193, if_pos hc214, if_pos hc235, if_pos hc256, if_neg hc277])
          · refine own_run (g' := (mkF m 310 #[.val (.int p0), .val (.int p1), .val (.int p2), .val (.int p3), .val (.ref b1), .val (.int v67), .val (.int v76), .val (.int v85), .val (.int v102), .val (.ref b17), .val (.int v170), .val (.int v179), .val (.int (3 : Int32)), .unset] [])) (fun _ kt => XS.ifNo X26.here hx rfl (hb hby at_256) rfl ((if0 _ _).trans (feq hc256).1) (XS.iconst X26.here hx rfl (hb hby at_259) (XS.istore X26.here hx rfl (hb hby at_260) rfl (l' := #[.val (.int p0), .val (.int p1), .val (.int p2), .val (.int p3), .val (.ref b1), .val (.int v67), .val (.int v76), .val (.int v85), .val (.int v102), .val (.ref b17), .val (.int v170), .val (.int v179), .val (.int (3 : Int32)), .unset]) rfl (XS.goto X26.here hx rfl (pc0 := 262) (pc' := 310) rfl (hb hby at_262) (by decide) (by decide) (kt))))) ?_
            exact J20 T26 _ (3 : Int32) X26 N26 e26 (by rw [if_pos hc193, if_pos hc214, if_pos hc235, if_neg hc256])
        · refine own_run (g' := (mkF m 310 #[.val (.int p0), .val (.int p1), .val (.int p2), .val (.int p3), .val (.ref b1), .val (.int v67), .val (.int v76), .val (.int v85), .val (.int v102), .val (.ref b17), .val (.int v170), .val (.int v179), .val (.int (2 : Int32)), .unset] [])) (fun _ kt => XS.ifNo X25.here hx rfl (hb hby at_235) rfl ((if0 _ _).trans (feq hc235).1) (XS.iconst X25.here hx rfl (hb hby at_238) (XS.istore X25.here hx rfl (hb hby at_239) rfl (l' := #[.val (.int p0), .val (.int p1), .val (.int p2), .val (.int p3), .val (.ref b1), .val (.int v67), .val (.int v76), .val (.int v85), .val (.int v102), .val (.ref b17), .val (.int v170), .val (.int v179), .val (.int (2 : Int32)), .unset]) rfl (XS.goto X25.here hx rfl (pc0 := 241) (pc' := 310) rfl (hb hby at_241) (by decide) (by decide) (kt))))) ?_
          exact J20 T25 _ (2 : Int32) X25 N25 e25 (by rw [if_pos hc193, if_pos hc214, if_neg hc235])
      · refine own_run (g' := (mkF m 310 #[.val (.int p0), .val (.int p1), .val (.int p2), .val (.int p3), .val (.ref b1), .val (.int v67), .val (.int v76), .val (.int v85), .val (.int v102), .val (.ref b17), .val (.int v170), .val (.int v179), .val (.int (1 : Int32)), .unset] [])) (fun _ kt => XS.ifNo X24.here hx rfl (hb hby at_214) rfl ((if0 _ _).trans (feq hc214).1) (XS.iconst X24.here hx rfl (hb hby at_217) (XS.istore X24.here hx rfl (hb hby at_218) rfl (l' := #[.val (.int p0), .val (.int p1), .val (.int p2), .val (.int p3), .val (.ref b1), .val (.int v67), .val (.int v76), .val (.int v85), .val (.int v102), .val (.ref b17), .val (.int v170), .val (.int v179), .val (.int (1 : Int32)), .unset]) rfl (XS.goto X24.here hx rfl (pc0 := 220) (pc' := 310) rfl (hb hby at_220) (by decide) (by decide) (kt))))) ?_
        exact J20 T24 _ (1 : Int32) X24 N24 e24 (by rw [if_pos hc193, if_neg hc214])
    · refine own_run (g' := (mkF m 310 #[.val (.int p0), .val (.int p1), .val (.int p2), .val (.int p3), .val (.ref b1), .val (.int v67), .val (.int v76), .val (.int v85), .val (.int v102), .val (.ref b17), .val (.int v170), .val (.int v179), .val (.int (0 : Int32)), .unset] [])) (fun _ kt => XS.ifNo X19.here hx rfl (hb hby at_193) rfl ((if0 _ _).trans (feq hc193).1) (XS.iconst X19.here hx rfl (hb hby at_196) (XS.istore X19.here hx rfl (hb hby at_197) rfl (l' := #[.val (.int p0), .val (.int p1), .val (.int p2), .val (.int p3), .val (.ref b1), .val (.int v67), .val (.int v76), .val (.int v85), .val (.int v102), .val (.ref b17), .val (.int v170), .val (.int v179), .val (.int (0 : Int32)), .unset]) rfl (XS.goto X19.here hx rfl (pc0 := 199) (pc' := 310) rfl (hb hby at_199) (by decide) (by decide) (kt))))) ?_
      exact J20 T19 _ (0 : Int32) X19 N19 e19 (by rw [if_neg hc193])
  · refine own_run (g' := (mkF m 124 #[.val (.int p0), .val (.int p1), .val (.int p2), .val (.int p3), .val (.ref b1), .val (.int v67), .val (.int v76), .val (.int v85), .val (.int v102), .unset, .unset, .unset, .unset, .unset] [(.int (2 : Int32)), (.int v102)])) (fun _ kt => XS.icmpYes X16.here hx rfl (pc0 := 107) (pc' := 121) rfl (hb hby at_107) rfl ((feq hc107).2) (by decide) (by decide) (XS.iload X16.here hx rfl (hb hby at_121) rfl (XS.iconst X16.here hx rfl (hb hby at_123) (kt)))) ?_
    by_cases hc124 : v102 = (2 : Int32)
    · refine own_run (g' := (mkF m 128 #[.val (.int p0), .val (.int p1), .val (.int p2), .val (.int p3), .val (.ref b1), .val (.int v67), .val (.int v76), .val (.int v85), .val (.int v102), .unset, .unset, .unset, .unset, .unset] [(.int (2 : Int32))])) (fun _ kt => XS.icmpNo X16.here hx rfl (hb hby at_124) rfl ((teq hc124).2) (XS.iconst X16.here hx rfl (hb hby at_127) (kt))) ?_
      refine own_newA X16 hx hZ (aty := .byte) (hw _ (List.mem_of_getElem? (i := 0) rfl)) (ty := .byte) rfl rfl e16 (hb hby at_128) (by decide) (cap := 2) (by decide) (by decide) (by decide) (by decide) ?_
      intro T29 h29 b29 qq29 X29 e29 E29 A29
      have ne_b1_b29 : b1 ≠ b29 := Nat.ne_of_lt (by rw [qq29]; exact A13.lt)
      replace A13 := A13.ext E29
      have g_b29 : n0 ≤ b29 := by rw [qq29]; exact ZW13
      have Z29 : n0 ≤ h29.size := Nat.le_trans ZW13 E29.1
      replace A29 : own_A Z h29 b29 .byte (2 : Int32) [(0 : Int32), (0 : Int32)] := A29
      refine own_run (g' := (mkF m 134 #[.val (.int p0), .val (.int p1), .val (.int p2), .val (.int p3), .val (.ref b1), .val (.int v67), .val (.int v76), .val (.int v85), .val (.int v102), .unset, .unset, .unset, .unset, .unset] [(.int v67), (.int (0 : Int32)), (.ref b29), (.ref b29)])) (fun _ kt => XS.dup X29.here hx rfl (hb hby at_130) rfl rfl (XS.iconst X29.here hx rfl (hb hby at_131) (XS.iload X29.here hx rfl (hb hby at_132) rfl (kt)))) ?_
      refine own_stB X29 hx hZ e29 A29 (j := (0 : Int32)) (by decide) N16 g_b29 (hb hby at_134) (ys := [(nar .byte v67), (0 : Int32)]) rfl ?_
      intro T30 h30 L30 X30 N30 e30 W30 A30
      replace A13 := A13.other W30 ne_b1_b29
      have ZW30 : n0 ≤ h30.size := Nat.le_trans Z29 (Keep.of_wr W30).1
      refine own_run (g' := (mkF m 139 #[.val (.int p0), .val (.int p1), .val (.int p2), .val (.int p3), .val (.ref b1), .val (.int v67), .val (.int v76), .val (.int v85), .val (.int v102), .unset, .unset, .unset, .unset, .unset] [(.int v76), (.int (1 : Int32)), (.ref b29), (.ref b29)])) (fun _ kt => XS.dup X30.here hx rfl (hb hby at_135) rfl rfl (XS.iconst X30.here hx rfl (hb hby at_136) (XS.iload X30.here hx rfl (hb hby at_137) rfl (kt)))) ?_
      refine own_stB X30 hx hZ e30 A30 (j := (1 : Int32)) (by decide) N30 g_b29 (hb hby at_139) (ys := [(nar .byte v67), (nar .byte v76)]) rfl ?_
      intro T31 h31 L31 X31 N31 e31 W31 A31
      replace A13 := A13.other W31 ne_b1_b29
      have ZW31 : n0 ≤ h31.size := Nat.le_trans ZW30 (Keep.of_wr W31).1
      refine own_run (g' := (mkF m 164 #[.val (.int p0), .val (.int p1), .val (.int p2), .val (.int p3), .val (.ref b1), .val (.int v67), .val (.int v76), .val (.int v85), .val (.int v102), .val (.ref b29), .unset, .unset, .unset, .unset] [(.int p2)])) (fun _ kt => XS.goto X31.here hx rfl (pc0 := 140) (pc' := 161) rfl (hb hby at_140) (by decide) (by decide) (XS.astore X31.here hx rfl (hb hby at_161) rfl rfl (l' := #[.val (.int p0), .val (.int p1), .val (.int p2), .val (.int p3), .val (.ref b1), .val (.int v67), .val (.int v76), .val (.int v85), .val (.int v102), .val (.ref b29), .unset, .unset, .unset, .unset]) rfl (XS.iloadN X31.here hx rfl (hb hby at_163) rfl (kt)))) ?_
      refine own_ldcI X31 hx hZ hown (hw _ (List.mem_of_getElem? (i := 5) rfl)) (hb hby at_164) ?_
      refine own_run (g' := (mkF m 172 #[.val (.int p0), .val (.int p1), .val (.int p2), .val (.int p3), .val (.ref b1), .val (.int v67), .val (.int v76), .val (.int v85), .val (.int v102), .val (.ref b29), .val (.int ((p2 &&& (2147483647 : Int32)) % (7 : Int32))), .unset, .unset, .unset] [])) (fun _ kt => XS.iand X31.here hx rfl (hb hby at_166) rfl (XS.bipush X31.here hx rfl (hb hby at_167) (own_irem X31.here hx rfl (hb hby at_169) rfl (by decide) (XS.istore X31.here hx rfl (hb hby at_170) rfl (l' := #[.val (.int p0), .val (.int p1), .val (.int p2), .val (.int p3), .val (.ref b1), .val (.int v67), .val (.int v76), .val (.int v85), .val (.int v102), .val (.ref b29), .val (.int ((p2 &&& (2147483647 : Int32)) % (7 : Int32))), .unset, .unset, .unset]) rfl (kt))))) ?_
      obtain ⟨v170, hv170⟩ : ∃ z : Int32, z = ((p2 &&& (2147483647 : Int32)) % (7 : Int32)) := ⟨_, rfl⟩
      rw [← hv170]
      refine own_run (g' := (mkF m 173 #[.val (.int p0), .val (.int p1), .val (.int p2), .val (.int p3), .val (.ref b1), .val (.int v67), .val (.int v76), .val (.int v85), .val (.int v102), .val (.ref b29), .val (.int v170), .unset, .unset, .unset] [(.int p3)])) (fun _ kt => XS.iloadN X31.here hx rfl (hb hby at_172) rfl (kt)) ?_
      refine own_ldcI X31 hx hZ hown (hw _ (List.mem_of_getElem? (i := 5) rfl)) (hb hby at_173) ?_
      refine own_run (g' := (mkF m 181 #[.val (.int p0), .val (.int p1), .val (.int p2), .val (.int p3), .val (.ref b1), .val (.int v67), .val (.int v76), .val (.int v85), .val (.int v102), .val (.ref b29), .val (.int v170), .val (.int ((p3 &&& (2147483647 : Int32)) % (7 : Int32))), .unset, .unset] [])) (fun _ kt => XS.iand X31.here hx rfl (hb hby at_175) rfl (XS.bipush X31.here hx rfl (hb hby at_176) (own_irem X31.here hx rfl (hb hby at_178) rfl (by decide) (XS.istore X31.here hx rfl (hb hby at_179) rfl (l' := #[.val (.int p0), .val (.int p1), .val (.int p2), .val (.int p3), .val (.ref b1), .val (.int v67), .val (.int v76), .val (.int v85), .val (.int v102), .val (.ref b29), .val (.int v170), .val (.int ((p3 &&& (2147483647 : Int32)) % (7 : Int32))), .unset, .unset]) rfl (kt))))) ?_
      obtain ⟨v179, hv179⟩ : ∃ z : Int32, z = ((p3 &&& (2147483647 : Int32)) % (7 : Int32)) := ⟨_, rfl⟩
      rw [← hv179]
      have hk : (2 : Int32) = 1 ∨ (2 : Int32) = 2 ∨ (2 : Int32) = (3 : Int32) := by decide
      obtain ⟨FF, hFF, hF6⟩ : ∃ n : Nat, v170.toInt = n ∧ n ≤ 6 := by rw [hv170]; exact own_e7 p2
      obtain ⟨TT, hTT, hT6⟩ : ∃ n : Nat, v179.toInt = n ∧ n ≤ 6 := by rw [hv179]; exact own_e7 p3
      refine own_run (g' := (mkF m 190 #[.val (.int p0), .val (.int p1), .val (.int p2), .val (.int p3), .val (.ref b1), .val (.int v67), .val (.int v76), .val (.int v85), .val (.int v102), .val (.ref b29), .val (.int v170), .val (.int v179), .unset, .unset] [(.int (0 : Int32)), (.int v179), (.int v170), (.ref b29), (.ref b1)])) (fun _ kt => XS.aload X31.here hx rfl (hb hby at_181) rfl rfl (XS.aload X31.here hx rfl (hb hby at_183) rfl rfl (XS.iload X31.here hx rfl (hb hby at_185) rfl (XS.iload X31.here hx rfl (hb hby at_187) rfl (XS.iconst X31.here hx rfl (hb hby at_189) (kt)))))) ?_
      refine own_callS X31 hx hZ hown (hw _ (List.mem_of_getElem? (i := 6) rfl)) (hw _ (List.mem_of_getElem? (i := 7) rfl)) (hw _ (List.mem_of_getElem? (i := 3) rfl)) (hw _ (List.mem_of_getElem? (i := 8) rfl)) (by decide) (rm2 l Z a0 hw [] b1 b29 v170 v179 (0 : Int32) (2 : Int32) [(nar .byte (own_f1 p1 p0 (0 : Int32))), (nar .byte (own_f1 p1 p0 (1 : Int32))), (nar .byte (own_f1 p1 p0 (2 : Int32))), (nar .byte (own_f1 p1 p0 (3 : Int32))), (nar .byte (own_f1 p1 p0 (4 : Int32))), (nar .byte (own_f1 p1 p0 (5 : Int32)))] [(nar .byte v67), (nar .byte v76)] h31 n0 A13 A31 hk (by decide)) e31 (by decide) (by decide) (by decide) (by decide) (by rw [hml]; rfl) (argsL := [(.ref b1), (.ref b29), (.int v170), (.int v179), (.int (0 : Int32))]) (rest := []) (lenOf own_pd3 rfl) rfl (W := 0) (Nat.le_of_eq rfl) (hb hby at_190) ?_
      intro T32 r32 L32 X32 hQ32
      obtain ⟨rfl, Nq32, e32⟩ := hQ32
      have N32 := Fr.app N31 Nq32
      have J33 : ∀ (T33 : State) (L33 : List Loc) (v33_12 : Int32), Stand p l e room_1 s m args below meth c T33 L33 2 8 → Fr n0 L33 → T33.heap = h31 → v33_12 = (if (own_f2 v170 v179 (0 : Int32) (2 : Int32) [(nar .byte (own_f1 p1 p0 (0 : Int32))), (nar .byte (own_f1 p1 p0 (1 : Int32))), (nar .byte (own_f1 p1 p0 (2 : Int32))), (nar .byte (own_f1 p1 p0 (3 : Int32))), (nar .byte (own_f1 p1 p0 (4 : Int32))), (nar .byte (own_f1 p1 p0 (5 : Int32)))] [(nar .byte v67), (nar .byte v76)]) = (0 : Int32) then (if (own_f2 v170 v179 (1 : Int32) (2 : Int32) [(nar .byte (own_f1 p1 p0 (0 : Int32))), (nar .byte (own_f1 p1 p0 (1 : Int32))), (nar .byte (own_f1 p1 p0 (2 : Int32))), (nar .byte (own_f1 p1 p0 (3 : Int32))), (nar .byte (own_f1 p1 p0 (4 : Int32))), (nar .byte (own_f1 p1 p0 (5 : Int32)))] [(nar .byte v67), (nar .byte v76)]) = (0 : Int32) then (if (own_f2 v170 v179 (2 : Int32) (2 : Int32) [(nar .byte (own_f1 p1 p0 (0 : Int32))), (nar .byte (own_f1 p1 p0 (1 : Int32))), (nar .byte (own_f1 p1 p0 (2 : Int32))), (nar .byte (own_f1 p1 p0 (3 : Int32))), (nar .byte (own_f1 p1 p0 (4 : Int32))), (nar .byte (own_f1 p1 p0 (5 : Int32)))] [(nar .byte v67), (nar .byte v76)]) = (0 : Int32) then (if (own_f2 v170 v179 (3 : Int32) (2 : Int32) [(nar .byte (own_f1 p1 p0 (0 : Int32))), (nar .byte (own_f1 p1 p0 (1 : Int32))), (nar .byte (own_f1 p1 p0 (2 : Int32))), (nar .byte (own_f1 p1 p0 (3 : Int32))), (nar .byte (own_f1 p1 p0 (4 : Int32))), (nar .byte (own_f1 p1 p0 (5 : Int32)))] [(nar .byte v67), (nar .byte v76)]) = (0 : Int32) then (if (own_f2 v170 v179 (4 : Int32) (2 : Int32) [(nar .byte (own_f1 p1 p0 (0 : Int32))), (nar .byte (own_f1 p1 p0 (1 : Int32))), (nar .byte (own_f1 p1 p0 (2 : Int32))), (nar .byte (own_f1 p1 p0 (3 : Int32))), (nar .byte (own_f1 p1 p0 (4 : Int32))), (nar .byte (own_f1 p1 p0 (5 : Int32)))] [(nar .byte v67), (nar .byte v76)]) = (0 : Int32) then (if (own_f2 v170 v179 (5 : Int32) (2 : Int32) [(nar .byte (own_f1 p1 p0 (0 : Int32))), (nar .byte (own_f1 p1 p0 (1 : Int32))), (nar .byte (own_f1 p1 p0 (2 : Int32))), (nar .byte (own_f1 p1 p0 (3 : Int32))), (nar .byte (own_f1 p1 p0 (4 : Int32))), (nar .byte (own_f1 p1 p0 (5 : Int32)))] [(nar .byte v67), (nar .byte v76)]) = (0 : Int32) then (-1 : Int32) else (5 : Int32)) else (4 : Int32)) else (3 : Int32)) else (2 : Int32)) else (1 : Int32)) else (0 : Int32)) →  own_Run p e below s room_1.cells room_1.slots (Q0 h0 n0) T33 (mkF m 310 #[.val (.int p0), .val (.int p1), .val (.int p2), .val (.int p3), .val (.ref b1), .val (.int v67), .val (.int v76), .val (.int v85), .val (.int v102), .val (.ref b29), .val (.int v170), .val (.int v179), .val (.int v33_12), .unset] []) := by
        intro T33 L33 v33_12 X33 N33 e33 hv33_12
        refine own_new X33 hx hZ hown (hw _ (List.mem_of_getElem? (i := 9) rfl)) (hw _ (List.mem_of_getElem? (i := 10) rfl)) (hw _ (List.mem_of_getElem? (i := 11) rfl)) e33 (hb hby at_310) (by decide) (by decide) ?_
        intro T34 h34 b34 qq34 X34 e34 E34 K34 D34
        have ne_b1_b34 : b1 ≠ b34 := Nat.ne_of_lt (by rw [qq34]; exact A13.lt)
        have ne_b29_b34 : b29 ≠ b34 := Nat.ne_of_lt (by rw [qq34]; exact A31.lt)
        replace A13 := A13.ext E34
        replace A31 := A31.ext E34
        have g_b34 : n0 ≤ b34 := by rw [qq34]; exact ZW31
        have Z34 : n0 ≤ h34.size := Nat.le_trans ZW31 E34.1
        have F34_moves : Fld Z h34 b34 "com/example/lean_markup/leanmarkup/util/ByteSearch" "moves" "[I" .null := D34 (Or.inr (hw _ (List.mem_of_getElem? (i := 20) rfl))) (ty := (.array .int)) (by decide)
        have F34_part : Fld Z h34 b34 "com/example/lean_markup/leanmarkup/util/ByteSearch" "part" "[B" .null := D34 (Or.inr (hw _ (List.mem_of_getElem? (i := 22) rfl))) (ty := (.array .byte)) (by decide)
        refine own_run (g' := (mkF m 316 #[.val (.int p0), .val (.int p1), .val (.int p2), .val (.int p3), .val (.ref b1), .val (.int v67), .val (.int v76), .val (.int v85), .val (.int v102), .val (.ref b29), .val (.int v170), .val (.int v179), .val (.int v33_12), .unset] [(.ref b29), (.ref b34), (.ref b34)])) (fun _ kt => XS.dup X34.here hx rfl (hb hby at_313) rfl rfl (XS.aload X34.here hx rfl (hb hby at_314) rfl rfl (kt))) ?_
        refine own_callI (b := b34) X34 hx hZ hown rfl (hw _ (List.mem_of_getElem? (i := 12) rfl)) (hw _ (List.mem_of_getElem? (i := 13) rfl)) (hw _ (List.mem_of_getElem? (i := 11) rfl)) (hw _ (List.mem_of_getElem? (i := 14) rfl)) (by decide) (rm3 l Z a0 hw [] b34 b29 (2 : Int32) [(nar .byte v67), (nar .byte v76)] h34 n0 Z34 K34 F34_moves F34_part A31 g_b34 (Ne.symm ne_b29_b34) hk) e34 (by decide) (by decide) (by decide) (by decide) (by rw [hml]; rfl) (argsL := [(.ref b29)]) (rest := [(.ref b34)]) (lenOf own_pd4 rfl) rfl (W := 1) (Nat.le_of_eq rfl) (hb hby at_316) ?_
        intro T35 r35 L35 X35 hQ35
        obtain ⟨rfl, Nq35, Kc35, x35, g_x35, ne_b34_x35, F35_m, F35_p, A35_m⟩ := hQ35
        have N35 := Fr.app N33 Nq35
        replace A13 := A13.keep Kc35 (ninS ne_b1_b34 nin0)
        replace A31 := A31.keep Kc35 (ninS ne_b29_b34 nin0)
        replace K34 := K34.keep Kc35
        have Z35 : n0 ≤ T35.heap.size := Nat.le_trans Z34 Kc35.1
        refine own_run (g' := (mkF m 329 #[.val (.int p0), .val (.int p1), .val (.int p2), .val (.int p3), .val (.ref b1), .val (.int v67), .val (.int v76), .val (.int v85), .val (.int v102), .val (.ref b29), .val (.int v170), .val (.int v179), .val (.int v33_12), .val (.ref b34)] [(.int v179), (.int v170), (.ref b1), (.ref b34)])) (fun _ kt => XS.astore X35.here hx rfl (hb hby at_319) rfl rfl (l' := #[.val (.int p0), .val (.int p1), .val (.int p2), .val (.int p3), .val (.ref b1), .val (.int v67), .val (.int v76), .val (.int v85), .val (.int v102), .val (.ref b29), .val (.int v170), .val (.int v179), .val (.int v33_12), .val (.ref b34)]) rfl (XS.aload X35.here hx rfl (hb hby at_321) rfl rfl (XS.aload X35.here hx rfl (hb hby at_323) rfl rfl (XS.iload X35.here hx rfl (hb hby at_325) rfl (XS.iload X35.here hx rfl (hb hby at_327) rfl (kt)))))) ?_
        have hp : own_hp (own_mv [(nar .byte v67), (nar .byte v76)] (2 : Int32) ((2 : Int32).toNatClampNeg - 1)) [(nar .byte v67), (nar .byte v76)] 2 (2 - 1) := own_mv_hp [(nar .byte v67), (nar .byte v76)] (2 : Int32) 2 rfl (by decide) (by decide) ((2 : Int32).toNatClampNeg - 1) (by decide)
        refine own_callV (b := b34) X35 hx hZ hown (hw _ (List.mem_of_getElem? (i := 27) rfl)) (hw _ (List.mem_of_getElem? (i := 28) rfl)) (hw _ (List.mem_of_getElem? (i := 30) rfl)) (hw _ (List.mem_of_getElem? (i := 29) rfl)) (hw _ (List.mem_of_getElem? (i := 11) rfl)) (hw _ (List.mem_of_getElem? (i := 31) rfl)) (by decide) K34 (rm6 l Z a0 hw [] b34 b1 v170 v179 b29 x35 (2 : Int32) [(nar .byte (own_f1 p1 p0 (0 : Int32))), (nar .byte (own_f1 p1 p0 (1 : Int32))), (nar .byte (own_f1 p1 p0 (2 : Int32))), (nar .byte (own_f1 p1 p0 (3 : Int32))), (nar .byte (own_f1 p1 p0 (4 : Int32))), (nar .byte (own_f1 p1 p0 (5 : Int32)))] [(nar .byte v67), (nar .byte v76)] (own_mv [(nar .byte v67), (nar .byte v76)] (2 : Int32) ((2 : Int32).toNatClampNeg - 1)) 2 FF TT T35.heap n0 F35_p F35_m A13 A31 A35_m rfl (by decide) (by decide) hFF hF6 hTT hT6 hp) rfl (by decide) (by decide) (by decide) (by decide) (by rw [hml]; rfl) (argsL := [(.ref b1), (.int v170), (.int v179)]) (rest := []) (lenOf own_pd5 rfl) rfl (W := 0) (Nat.le_of_eq rfl) (hb hby at_329) ?_
        intro T36 r36 L36 X36 hQ36
        obtain ⟨r36, rfl, Nq36, e36, hfi⟩ := hQ36
        have N36 := Fr.app N35 Nq36
        have hd334 : r36 = v33_12 := own_fin (K := 2) rfl (by decide) (by decide) hFF hTT hT6 hfi hv33_12
        refine own_run (g' := (mkF m 342 #[.val (.int p0), .val (.int p1), .val (.int p2), .val (.int p3), .val (.ref b1), .val (.int v67), .val (.int v76), .val (.int v85), .val (.int v102), .val (.ref b29), .val (.int v170), .val (.int v179), .val (.int v33_12), .val (.ref b34)] [(.int (1 : Int32))])) (fun _ kt => XS.iload X36.here hx rfl (hb hby at_332) rfl (XS.icmpNo X36.here hx rfl (hb hby at_334) rfl ((teq hd334).2) (XS.iconst X36.here hx rfl (hb hby at_337) (XS.goto X36.here hx rfl (pc0 := 338) (pc' := 342) rfl (hb hby at_338) (by decide) (by decide) (kt))))) ?_
        exact own_retN (t := .boolean) X36 hx Bd.notSynchronized Bd.returns (by simp) (hb hby at_342) (by decide) (by decide) ⟨rfl, N36⟩
      by_cases hc193 : (own_f2 v170 v179 (0 : Int32) (2 : Int32) [(nar .byte (own_f1 p1 p0 (0 : Int32))), (nar .byte (own_f1 p1 p0 (1 : Int32))), (nar .byte (own_f1 p1 p0 (2 : Int32))), (nar .byte (own_f1 p1 p0 (3 : Int32))), (nar .byte (own_f1 p1 p0 (4 : Int32))), (nar .byte (own_f1 p1 p0 (5 : Int32)))] [(nar .byte v67), (nar .byte v76)]) = (0 : Int32)
      · refine own_run (g' := (mkF m 211 #[.val (.int p0), .val (.int p1), .val (.int p2), .val (.int p3), .val (.ref b1), .val (.int v67), .val (.int v76), .val (.int v85), .val (.int v102), .val (.ref b29), .val (.int v170), .val (.int v179), .unset, .unset] [(.int (1 : Int32)), (.int v179), (.int v170), (.ref b29), (.ref b1)])) (fun _ kt => XS.ifYes X32.here hx rfl (pc0 := 193) (pc' := 202) rfl (hb hby at_193) rfl ((if0 _ _).trans (teq hc193).1) (by decide) (by decide) (XS.aload X32.here hx rfl (hb hby at_202) rfl rfl (XS.aload X32.here hx rfl (hb hby at_204) rfl rfl (XS.iload X32.here hx rfl (hb hby at_206) rfl (XS.iload X32.here hx rfl (hb hby at_208) rfl (XS.iconst X32.here hx rfl (hb hby at_210) (kt))))))) ?_
        refine own_callS X32 hx hZ hown (hw _ (List.mem_of_getElem? (i := 6) rfl)) (hw _ (List.mem_of_getElem? (i := 7) rfl)) (hw _ (List.mem_of_getElem? (i := 3) rfl)) (hw _ (List.mem_of_getElem? (i := 8) rfl)) (by decide) (rm2 l Z a0 hw [] b1 b29 v170 v179 (1 : Int32) (2 : Int32) [(nar .byte (own_f1 p1 p0 (0 : Int32))), (nar .byte (own_f1 p1 p0 (1 : Int32))), (nar .byte (own_f1 p1 p0 (2 : Int32))), (nar .byte (own_f1 p1 p0 (3 : Int32))), (nar .byte (own_f1 p1 p0 (4 : Int32))), (nar .byte (own_f1 p1 p0 (5 : Int32)))] [(nar .byte v67), (nar .byte v76)] h31 n0 A13 A31 hk (by decide)) e32 (by decide) (by decide) (by decide) (by decide) (by rw [hml]; rfl) (argsL := [(.ref b1), (.ref b29), (.int v170), (.int v179), (.int (1 : Int32))]) (rest := []) (lenOf own_pd3 rfl) rfl (W := 0) (Nat.le_of_eq rfl) (hb hby at_211) ?_
        intro T37 r37 L37 X37 hQ37
        obtain ⟨rfl, Nq37, e37⟩ := hQ37
        have N37 := Fr.app N32 Nq37
        by_cases hc214 : (own_f2 v170 v179 (1 : Int32) (2 : Int32) [(nar .byte (own_f1 p1 p0 (0 : Int32))), (nar .byte (own_f1 p1 p0 (1 : Int32))), (nar .byte (own_f1 p1 p0 (2 : Int32))), (nar .byte (own_f1 p1 p0 (3 : Int32))), (nar .byte (own_f1 p1 p0 (4 : Int32))), (nar .byte (own_f1 p1 p0 (5 : Int32)))] [(nar .byte v67), (nar .byte v76)]) = (0 : Int32)
        · refine own_run (g' := (mkF m 232 #[.val (.int p0), .val (.int p1), .val (.int p2), .val (.int p3), .val (.ref b1), .val (.int v67), .val (.int v76), .val (.int v85), .val (.int v102), .val (.ref b29), .val (.int v170), .val (.int v179), .unset, .unset] [(.int (2 : Int32)), (.int v179), (.int v170), (.ref b29), (.ref b1)])) (fun _ kt => XS.ifYes X37.here hx rfl (pc0 := 214) (pc' := 223) rfl (hb hby at_214) rfl ((if0 _ _).trans (teq hc214).1) (by decide) (by decide) (XS.aload X37.here hx rfl (hb hby at_223) rfl rfl (XS.aload X37.here hx rfl (hb hby at_225) rfl rfl (XS.iload X37.here hx rfl (hb hby at_227) rfl (XS.iload X37.here hx rfl (hb hby at_229) rfl (XS.iconst X37.here hx rfl (hb hby at_231) (kt))))))) ?_
          refine own_callS X37 hx hZ hown (hw _ (List.mem_of_getElem? (i := 6) rfl)) (hw _ (List.mem_of_getElem? (i := 7) rfl)) (hw _ (List.mem_of_getElem? (i := 3) rfl)) (hw _ (List.mem_of_getElem? (i := 8) rfl)) (by decide) (rm2 l Z a0 hw [] b1 b29 v170 v179 (2 : Int32) (2 : Int32) [(nar .byte (own_f1 p1 p0 (0 : Int32))), (nar .byte (own_f1 p1 p0 (1 : Int32))), (nar .byte (own_f1 p1 p0 (2 : Int32))), (nar .byte (own_f1 p1 p0 (3 : Int32))), (nar .byte (own_f1 p1 p0 (4 : Int32))), (nar .byte (own_f1 p1 p0 (5 : Int32)))] [(nar .byte v67), (nar .byte v76)] h31 n0 A13 A31 hk (by decide)) e37 (by decide) (by decide) (by decide) (by decide) (by rw [hml]; rfl) (argsL := [(.ref b1), (.ref b29), (.int v170), (.int v179), (.int (2 : Int32))]) (rest := []) (lenOf own_pd3 rfl) rfl (W := 0) (Nat.le_of_eq rfl) (hb hby at_232) ?_
          intro T38 r38 L38 X38 hQ38
          obtain ⟨rfl, Nq38, e38⟩ := hQ38
          have N38 := Fr.app N37 Nq38
          by_cases hc235 : (own_f2 v170 v179 (2 : Int32) (2 : Int32) [(nar .byte (own_f1 p1 p0 (0 : Int32))), (nar .byte (own_f1 p1 p0 (1 : Int32))), (nar .byte (own_f1 p1 p0 (2 : Int32))), (nar .byte (own_f1 p1 p0 (3 : Int32))), (nar .byte (own_f1 p1 p0 (4 : Int32))), (nar .byte (own_f1 p1 p0 (5 : Int32)))] [(nar .byte v67), (nar .byte v76)]) = (0 : Int32)
          · refine own_run (g' := (mkF m 253 #[.val (.int p0), .val (.int p1), .val (.int p2), .val (.int p3), .val (.ref b1), .val (.int v67), .val (.int v76), .val (.int v85), .val (.int v102), .val (.ref b29), .val (.int v170), .val (.int v179), .unset, .unset] [(.int (3 : Int32)), (.int v179), (.int v170), (.ref b29), (.ref b1)])) (fun _ kt => XS.ifYes X38.here hx rfl (pc0 := 235) (pc' := 244) rfl (hb hby at_235) rfl ((if0 _ _).trans (teq hc235).1) (by decide) (by decide) (XS.aload X38.here hx rfl (hb hby at_244) rfl rfl (XS.aload X38.here hx rfl (hb hby at_246) rfl rfl (XS.iload X38.here hx rfl (hb hby at_248) rfl (XS.iload X38.here hx rfl (hb hby at_250) rfl (XS.iconst X38.here hx rfl (hb hby at_252) (kt))))))) ?_
            refine own_callS X38 hx hZ hown (hw _ (List.mem_of_getElem? (i := 6) rfl)) (hw _ (List.mem_of_getElem? (i := 7) rfl)) (hw _ (List.mem_of_getElem? (i := 3) rfl)) (hw _ (List.mem_of_getElem? (i := 8) rfl)) (by decide) (rm2 l Z a0 hw [] b1 b29 v170 v179 (3 : Int32) (2 : Int32) [(nar .byte (own_f1 p1 p0 (0 : Int32))), (nar .byte (own_f1 p1 p0 (1 : Int32))), (nar .byte (own_f1 p1 p0 (2 : Int32))), (nar .byte (own_f1 p1 p0 (3 : Int32))), (nar .byte (own_f1 p1 p0 (4 : Int32))), (nar .byte (own_f1 p1 p0 (5 : Int32)))] [(nar .byte v67), (nar .byte v76)] h31 n0 A13 A31 hk (by decide)) e38 (by decide) (by decide) (by decide) (by decide) (by rw [hml]; rfl) (argsL := [(.ref b1), (.ref b29), (.int v170), (.int v179), (.int (3 : Int32))]) (rest := []) (lenOf own_pd3 rfl) rfl (W := 0) (Nat.le_of_eq rfl) (hb hby at_253) ?_
            intro T39 r39 L39 X39 hQ39
            obtain ⟨rfl, Nq39, e39⟩ := hQ39
            have N39 := Fr.app N38 Nq39
            by_cases hc256 : (own_f2 v170 v179 (3 : Int32) (2 : Int32) [(nar .byte (own_f1 p1 p0 (0 : Int32))), (nar .byte (own_f1 p1 p0 (1 : Int32))), (nar .byte (own_f1 p1 p0 (2 : Int32))), (nar .byte (own_f1 p1 p0 (3 : Int32))), (nar .byte (own_f1 p1 p0 (4 : Int32))), (nar .byte (own_f1 p1 p0 (5 : Int32)))] [(nar .byte v67), (nar .byte v76)]) = (0 : Int32)
            · refine own_run (g' := (mkF m 274 #[.val (.int p0), .val (.int p1), .val (.int p2), .val (.int p3), .val (.ref b1), .val (.int v67), .val (.int v76), .val (.int v85), .val (.int v102), .val (.ref b29), .val (.int v170), .val (.int v179), .unset, .unset] [(.int (4 : Int32)), (.int v179), (.int v170), (.ref b29), (.ref b1)])) (fun _ kt => XS.ifYes X39.here hx rfl (pc0 := 256) (pc' := 265) rfl (hb hby at_256) rfl ((if0 _ _).trans (teq hc256).1) (by decide) (by decide) (XS.aload X39.here hx rfl (hb hby at_265) rfl rfl (XS.aload X39.here hx rfl (hb hby at_267) rfl rfl (XS.iload X39.here hx rfl (hb hby at_269) rfl (XS.iload X39.here hx rfl (hb hby at_271) rfl (XS.iconst X39.here hx rfl (hb hby at_273) (kt))))))) ?_
              refine own_callS X39 hx hZ hown (hw _ (List.mem_of_getElem? (i := 6) rfl)) (hw _ (List.mem_of_getElem? (i := 7) rfl)) (hw _ (List.mem_of_getElem? (i := 3) rfl)) (hw _ (List.mem_of_getElem? (i := 8) rfl)) (by decide) (rm2 l Z a0 hw [] b1 b29 v170 v179 (4 : Int32) (2 : Int32) [(nar .byte (own_f1 p1 p0 (0 : Int32))), (nar .byte (own_f1 p1 p0 (1 : Int32))), (nar .byte (own_f1 p1 p0 (2 : Int32))), (nar .byte (own_f1 p1 p0 (3 : Int32))), (nar .byte (own_f1 p1 p0 (4 : Int32))), (nar .byte (own_f1 p1 p0 (5 : Int32)))] [(nar .byte v67), (nar .byte v76)] h31 n0 A13 A31 hk (by decide)) e39 (by decide) (by decide) (by decide) (by decide) (by rw [hml]; rfl) (argsL := [(.ref b1), (.ref b29), (.int v170), (.int v179), (.int (4 : Int32))]) (rest := []) (lenOf own_pd3 rfl) rfl (W := 0) (Nat.le_of_eq rfl) (hb hby at_274) ?_
              intro T40 r40 L40 X40 hQ40
              obtain ⟨rfl, Nq40, e40⟩ := hQ40
              have N40 := Fr.app N39 Nq40
              by_cases hc277 : (own_f2 v170 v179 (4 : Int32) (2 : Int32) [(nar .byte (own_f1 p1 p0 (0 : Int32))), (nar .byte (own_f1 p1 p0 (1 : Int32))), (nar .byte (own_f1 p1 p0 (2 : Int32))), (nar .byte (own_f1 p1 p0 (3 : Int32))), (nar .byte (own_f1 p1 p0 (4 : Int32))), (nar .byte (own_f1 p1 p0 (5 : Int32)))] [(nar .byte v67), (nar .byte v76)]) = (0 : Int32)
              · refine own_run (g' := (mkF m 295 #[.val (.int p0), .val (.int p1), .val (.int p2), .val (.int p3), .val (.ref b1), .val (.int v67), .val (.int v76), .val (.int v85), .val (.int v102), .val (.ref b29), .val (.int v170), .val (.int v179), .unset, .unset] [(.int (5 : Int32)), (.int v179), (.int v170), (.ref b29), (.ref b1)])) (fun _ kt => XS.ifYes X40.here hx rfl (pc0 := 277) (pc' := 286) rfl (hb hby at_277) rfl ((if0 _ _).trans (teq hc277).1) (by decide) (by decide) (XS.aload X40.here hx rfl (hb hby at_286) rfl rfl (XS.aload X40.here hx rfl (hb hby at_288) rfl rfl (XS.iload X40.here hx rfl (hb hby at_290) rfl (XS.iload X40.here hx rfl (hb hby at_292) rfl (XS.iconst X40.here hx rfl (hb hby at_294) (kt))))))) ?_
                refine own_callS X40 hx hZ hown (hw _ (List.mem_of_getElem? (i := 6) rfl)) (hw _ (List.mem_of_getElem? (i := 7) rfl)) (hw _ (List.mem_of_getElem? (i := 3) rfl)) (hw _ (List.mem_of_getElem? (i := 8) rfl)) (by decide) (rm2 l Z a0 hw [] b1 b29 v170 v179 (5 : Int32) (2 : Int32) [(nar .byte (own_f1 p1 p0 (0 : Int32))), (nar .byte (own_f1 p1 p0 (1 : Int32))), (nar .byte (own_f1 p1 p0 (2 : Int32))), (nar .byte (own_f1 p1 p0 (3 : Int32))), (nar .byte (own_f1 p1 p0 (4 : Int32))), (nar .byte (own_f1 p1 p0 (5 : Int32)))] [(nar .byte v67), (nar .byte v76)] h31 n0 A13 A31 hk (by decide)) e40 (by decide) (by decide) (by decide) (by decide) (by rw [hml]; rfl) (argsL := [(.ref b1), (.ref b29), (.int v170), (.int v179), (.int (5 : Int32))]) (rest := []) (lenOf own_pd3 rfl) rfl (W := 0) (Nat.le_of_eq rfl) (hb hby at_295) ?_
                intro T41 r41 L41 X41 hQ41
                obtain ⟨rfl, Nq41, e41⟩ := hQ41
                have N41 := Fr.app N40 Nq41
                by_cases hc298 : (own_f2 v170 v179 (5 : Int32) (2 : Int32) [(nar .byte (own_f1 p1 p0 (0 : Int32))), (nar .byte (own_f1 p1 p0 (1 : Int32))), (nar .byte (own_f1 p1 p0 (2 : Int32))), (nar .byte (own_f1 p1 p0 (3 : Int32))), (nar .byte (own_f1 p1 p0 (4 : Int32))), (nar .byte (own_f1 p1 p0 (5 : Int32)))] [(nar .byte v67), (nar .byte v76)]) = (0 : Int32)
                · refine own_run (g' := (mkF m 310 #[.val (.int p0), .val (.int p1), .val (.int p2), .val (.int p3), .val (.ref b1), .val (.int v67), .val (.int v76), .val (.int v85), .val (.int v102), .val (.ref b29), .val (.int v170), .val (.int v179), .val (.int (-1 : Int32)), .unset] [])) (fun _ kt => XS.ifYes X41.here hx rfl (pc0 := 298) (pc' := 307) rfl (hb hby at_298) rfl ((if0 _ _).trans (teq hc298).1) (by decide) (by decide) (XS.iconst X41.here hx rfl (hb hby at_307) (XS.istore X41.here hx rfl (hb hby at_308) rfl (l' := #[.val (.int p0), .val (.int p1), .val (.int p2), .val (.int p3), .val (.ref b1), .val (.int v67), .val (.int v76), .val (.int v85), .val (.int v102), .val (.ref b29), .val (.int v170), .val (.int v179), .val (.int (-1 : Int32)), .unset]) rfl (kt)))) ?_
                  exact J33 T41 _ (-1 : Int32) X41 N41 e41 (by rw [if_pos hc193, if_pos hc214, if_pos hc235, if_pos hc256, if_pos hc277, if_pos hc298])
                · refine own_run (g' := (mkF m 310 #[.val (.int p0), .val (.int p1), .val (.int p2), .val (.int p3), .val (.ref b1), .val (.int v67), .val (.int v76), .val (.int v85), .val (.int v102), .val (.ref b29), .val (.int v170), .val (.int v179), .val (.int (5 : Int32)), .unset] [])) (fun _ kt => XS.ifNo X41.here hx rfl (hb hby at_298) rfl ((if0 _ _).trans (feq hc298).1) (XS.iconst X41.here hx rfl (hb hby at_301) (XS.istore X41.here hx rfl (hb hby at_302) rfl (l' := #[.val (.int p0), .val (.int p1), .val (.int p2), .val (.int p3), .val (.ref b1), .val (.int v67), .val (.int v76), .val (.int v85), .val (.int v102), .val (.ref b29), .val (.int v170), .val (.int v179), .val (.int (5 : Int32)), .unset]) rfl (XS.goto X41.here hx rfl (pc0 := 304) (pc' := 310) rfl (hb hby at_304) (by decide) (by decide) (kt))))) ?_
                  exact J33 T41 _ (5 : Int32) X41 N41 e41 (by rw [if_pos hc193, if_pos hc214, if_pos hc235, if_pos hc256, if_pos hc277, if_neg hc298])
              · refine own_run (g' := (mkF m 310 #[.val (.int p0), .val (.int p1), .val (.int p2), .val (.int p3), .val (.ref b1), .val (.int v67), .val (.int v76), .val (.int v85), .val (.int v102), .val (.ref b29), .val (.int v170), .val (.int v179), .val (.int (4 : Int32)), .unset] [])) (fun _ kt => XS.ifNo X40.here hx rfl (hb hby at_277) rfl ((if0 _ _).trans (feq hc277).1) (XS.iconst X40.here hx rfl (hb hby at_280) (XS.istore X40.here hx rfl (hb hby at_281) rfl (l' := #[.val (.int p0), .val (.int p1), .val (.int p2), .val (.int p3), .val (.ref b1), .val (.int v67), .val (.int v76), .val (.int v85), .val (.int v102), .val (.ref b29), .val (.int v170), .val (.int v179), .val (.int (4 : Int32)), .unset]) rfl (XS.goto X40.here hx rfl (pc0 := 283) (pc' := 310) rfl (hb hby at_283) (by decide) (by decide) (kt))))) ?_
                exact J33 T40 _ (4 : Int32) X40 N40 e40 (by rw [if_pos hc193, if_pos hc214, if_pos hc235, if_pos hc256, if_neg hc277])
            · refine own_run (g' := (mkF m 310 #[.val (.int p0), .val (.int p1), .val (.int p2), .val (.int p3), .val (.ref b1), .val (.int v67), .val (.int v76), .val (.int v85), .val (.int v102), .val (.ref b29), .val (.int v170), .val (.int v179), .val (.int (3 : Int32)), .unset] [])) (fun _ kt => XS.ifNo X39.here hx rfl (hb hby at_256) rfl ((if0 _ _).trans (feq hc256).1) (XS.iconst X39.here hx rfl (hb hby at_259) (XS.istore X39.here hx rfl (hb hby at_260) rfl (l' := #[.val (.int p0), .val (.int p1), .val (.int p2), .val (.int p3), .val (.ref b1), .val (.int v67), .val (.int v76), .val (.int v85), .val (.int v102), .val (.ref b29), .val (.int v170), .val (.int v179), .val (.int (3 : Int32)), .unset]) rfl (XS.goto X39.here hx rfl (pc0 := 262) (pc' := 310) rfl (hb hby at_262) (by decide) (by decide) (kt))))) ?_
              exact J33 T39 _ (3 : Int32) X39 N39 e39 (by rw [if_pos hc193, if_pos hc214, if_pos hc235, if_neg hc256])
          · refine own_run (g' := (mkF m 310 #[.val (.int p0), .val (.int p1), .val (.int p2), .val (.int p3), .val (.ref b1), .val (.int v67), .val (.int v76), .val (.int v85), .val (.int v102), .val (.ref b29), .val (.int v170), .val (.int v179), .val (.int (2 : Int32)), .unset] [])) (fun _ kt => XS.ifNo X38.here hx rfl (hb hby at_235) rfl ((if0 _ _).trans (feq hc235).1) (XS.iconst X38.here hx rfl (hb hby at_238) (XS.istore X38.here hx rfl (hb hby at_239) rfl (l' := #[.val (.int p0), .val (.int p1), .val (.int p2), .val (.int p3), .val (.ref b1), .val (.int v67), .val (.int v76), .val (.int v85), .val (.int v102), .val (.ref b29), .val (.int v170), .val (.int v179), .val (.int (2 : Int32)), .unset]) rfl (XS.goto X38.here hx rfl (pc0 := 241) (pc' := 310) rfl (hb hby at_241) (by decide) (by decide) (kt))))) ?_
            exact J33 T38 _ (2 : Int32) X38 N38 e38 (by rw [if_pos hc193, if_pos hc214, if_neg hc235])
        · refine own_run (g' := (mkF m 310 #[.val (.int p0), .val (.int p1), .val (.int p2), .val (.int p3), .val (.ref b1), .val (.int v67), .val (.int v76), .val (.int v85), .val (.int v102), .val (.ref b29), .val (.int v170), .val (.int v179), .val (.int (1 : Int32)), .unset] [])) (fun _ kt => XS.ifNo X37.here hx rfl (hb hby at_214) rfl ((if0 _ _).trans (feq hc214).1) (XS.iconst X37.here hx rfl (hb hby at_217) (XS.istore X37.here hx rfl (hb hby at_218) rfl (l' := #[.val (.int p0), .val (.int p1), .val (.int p2), .val (.int p3), .val (.ref b1), .val (.int v67), .val (.int v76), .val (.int v85), .val (.int v102), .val (.ref b29), .val (.int v170), .val (.int v179), .val (.int (1 : Int32)), .unset]) rfl (XS.goto X37.here hx rfl (pc0 := 220) (pc' := 310) rfl (hb hby at_220) (by decide) (by decide) (kt))))) ?_
          exact J33 T37 _ (1 : Int32) X37 N37 e37 (by rw [if_pos hc193, if_neg hc214])
      · refine own_run (g' := (mkF m 310 #[.val (.int p0), .val (.int p1), .val (.int p2), .val (.int p3), .val (.ref b1), .val (.int v67), .val (.int v76), .val (.int v85), .val (.int v102), .val (.ref b29), .val (.int v170), .val (.int v179), .val (.int (0 : Int32)), .unset] [])) (fun _ kt => XS.ifNo X32.here hx rfl (hb hby at_193) rfl ((if0 _ _).trans (feq hc193).1) (XS.iconst X32.here hx rfl (hb hby at_196) (XS.istore X32.here hx rfl (hb hby at_197) rfl (l' := #[.val (.int p0), .val (.int p1), .val (.int p2), .val (.int p3), .val (.ref b1), .val (.int v67), .val (.int v76), .val (.int v85), .val (.int v102), .val (.ref b29), .val (.int v170), .val (.int v179), .val (.int (0 : Int32)), .unset]) rfl (XS.goto X32.here hx rfl (pc0 := 199) (pc' := 310) rfl (hb hby at_199) (by decide) (by decide) (kt))))) ?_
        exact J33 T32 _ (0 : Int32) X32 N32 e32 (by rw [if_neg hc193])
    · refine own_run (g' := (mkF m 144 #[.val (.int p0), .val (.int p1), .val (.int p2), .val (.int p3), .val (.ref b1), .val (.int v67), .val (.int v76), .val (.int v85), .val (.int v102), .unset, .unset, .unset, .unset, .unset] [(.int (3 : Int32))])) (fun _ kt => XS.icmpYes X16.here hx rfl (pc0 := 124) (pc' := 143) rfl (hb hby at_124) rfl ((feq hc124).2) (by decide) (by decide) (XS.iconst X16.here hx rfl (hb hby at_143) (kt))) ?_
      refine own_newA X16 hx hZ (aty := .byte) (hw _ (List.mem_of_getElem? (i := 0) rfl)) (ty := .byte) rfl rfl e16 (hb hby at_144) (by decide) (cap := 3) (by decide) (by decide) (by decide) (by decide) ?_
      intro T42 h42 b42 qq42 X42 e42 E42 A42
      have ne_b1_b42 : b1 ≠ b42 := Nat.ne_of_lt (by rw [qq42]; exact A13.lt)
      replace A13 := A13.ext E42
      have g_b42 : n0 ≤ b42 := by rw [qq42]; exact ZW13
      have Z42 : n0 ≤ h42.size := Nat.le_trans ZW13 E42.1
      replace A42 : own_A Z h42 b42 .byte (3 : Int32) [(0 : Int32), (0 : Int32), (0 : Int32)] := A42
      refine own_run (g' := (mkF m 150 #[.val (.int p0), .val (.int p1), .val (.int p2), .val (.int p3), .val (.ref b1), .val (.int v67), .val (.int v76), .val (.int v85), .val (.int v102), .unset, .unset, .unset, .unset, .unset] [(.int v67), (.int (0 : Int32)), (.ref b42), (.ref b42)])) (fun _ kt => XS.dup X42.here hx rfl (hb hby at_146) rfl rfl (XS.iconst X42.here hx rfl (hb hby at_147) (XS.iload X42.here hx rfl (hb hby at_148) rfl (kt)))) ?_
      refine own_stB X42 hx hZ e42 A42 (j := (0 : Int32)) (by decide) N16 g_b42 (hb hby at_150) (ys := [(nar .byte v67), (0 : Int32), (0 : Int32)]) rfl ?_
      intro T43 h43 L43 X43 N43 e43 W43 A43
      replace A13 := A13.other W43 ne_b1_b42
      have ZW43 : n0 ≤ h43.size := Nat.le_trans Z42 (Keep.of_wr W43).1
      refine own_run (g' := (mkF m 155 #[.val (.int p0), .val (.int p1), .val (.int p2), .val (.int p3), .val (.ref b1), .val (.int v67), .val (.int v76), .val (.int v85), .val (.int v102), .unset, .unset, .unset, .unset, .unset] [(.int v76), (.int (1 : Int32)), (.ref b42), (.ref b42)])) (fun _ kt => XS.dup X43.here hx rfl (hb hby at_151) rfl rfl (XS.iconst X43.here hx rfl (hb hby at_152) (XS.iload X43.here hx rfl (hb hby at_153) rfl (kt)))) ?_
      refine own_stB X43 hx hZ e43 A43 (j := (1 : Int32)) (by decide) N43 g_b42 (hb hby at_155) (ys := [(nar .byte v67), (nar .byte v76), (0 : Int32)]) rfl ?_
      intro T44 h44 L44 X44 N44 e44 W44 A44
      replace A13 := A13.other W44 ne_b1_b42
      have ZW44 : n0 ≤ h44.size := Nat.le_trans ZW43 (Keep.of_wr W44).1
      refine own_run (g' := (mkF m 160 #[.val (.int p0), .val (.int p1), .val (.int p2), .val (.int p3), .val (.ref b1), .val (.int v67), .val (.int v76), .val (.int v85), .val (.int v102), .unset, .unset, .unset, .unset, .unset] [(.int v85), (.int (2 : Int32)), (.ref b42), (.ref b42)])) (fun _ kt => XS.dup X44.here hx rfl (hb hby at_156) rfl rfl (XS.iconst X44.here hx rfl (hb hby at_157) (XS.iload X44.here hx rfl (hb hby at_158) rfl (kt)))) ?_
      refine own_stB X44 hx hZ e44 A44 (j := (2 : Int32)) (by decide) N44 g_b42 (hb hby at_160) (ys := [(nar .byte v67), (nar .byte v76), (nar .byte v85)]) rfl ?_
      intro T45 h45 L45 X45 N45 e45 W45 A45
      replace A13 := A13.other W45 ne_b1_b42
      have ZW45 : n0 ≤ h45.size := Nat.le_trans ZW44 (Keep.of_wr W45).1
      refine own_run (g' := (mkF m 164 #[.val (.int p0), .val (.int p1), .val (.int p2), .val (.int p3), .val (.ref b1), .val (.int v67), .val (.int v76), .val (.int v85), .val (.int v102), .val (.ref b42), .unset, .unset, .unset, .unset] [(.int p2)])) (fun _ kt => XS.astore X45.here hx rfl (hb hby at_161) rfl rfl (l' := #[.val (.int p0), .val (.int p1), .val (.int p2), .val (.int p3), .val (.ref b1), .val (.int v67), .val (.int v76), .val (.int v85), .val (.int v102), .val (.ref b42), .unset, .unset, .unset, .unset]) rfl (XS.iloadN X45.here hx rfl (hb hby at_163) rfl (kt))) ?_
      refine own_ldcI X45 hx hZ hown (hw _ (List.mem_of_getElem? (i := 5) rfl)) (hb hby at_164) ?_
      refine own_run (g' := (mkF m 172 #[.val (.int p0), .val (.int p1), .val (.int p2), .val (.int p3), .val (.ref b1), .val (.int v67), .val (.int v76), .val (.int v85), .val (.int v102), .val (.ref b42), .val (.int ((p2 &&& (2147483647 : Int32)) % (7 : Int32))), .unset, .unset, .unset] [])) (fun _ kt => XS.iand X45.here hx rfl (hb hby at_166) rfl (XS.bipush X45.here hx rfl (hb hby at_167) (own_irem X45.here hx rfl (hb hby at_169) rfl (by decide) (XS.istore X45.here hx rfl (hb hby at_170) rfl (l' := #[.val (.int p0), .val (.int p1), .val (.int p2), .val (.int p3), .val (.ref b1), .val (.int v67), .val (.int v76), .val (.int v85), .val (.int v102), .val (.ref b42), .val (.int ((p2 &&& (2147483647 : Int32)) % (7 : Int32))), .unset, .unset, .unset]) rfl (kt))))) ?_
      obtain ⟨v170, hv170⟩ : ∃ z : Int32, z = ((p2 &&& (2147483647 : Int32)) % (7 : Int32)) := ⟨_, rfl⟩
      rw [← hv170]
      refine own_run (g' := (mkF m 173 #[.val (.int p0), .val (.int p1), .val (.int p2), .val (.int p3), .val (.ref b1), .val (.int v67), .val (.int v76), .val (.int v85), .val (.int v102), .val (.ref b42), .val (.int v170), .unset, .unset, .unset] [(.int p3)])) (fun _ kt => XS.iloadN X45.here hx rfl (hb hby at_172) rfl (kt)) ?_
      refine own_ldcI X45 hx hZ hown (hw _ (List.mem_of_getElem? (i := 5) rfl)) (hb hby at_173) ?_
      refine own_run (g' := (mkF m 181 #[.val (.int p0), .val (.int p1), .val (.int p2), .val (.int p3), .val (.ref b1), .val (.int v67), .val (.int v76), .val (.int v85), .val (.int v102), .val (.ref b42), .val (.int v170), .val (.int ((p3 &&& (2147483647 : Int32)) % (7 : Int32))), .unset, .unset] [])) (fun _ kt => XS.iand X45.here hx rfl (hb hby at_175) rfl (XS.bipush X45.here hx rfl (hb hby at_176) (own_irem X45.here hx rfl (hb hby at_178) rfl (by decide) (XS.istore X45.here hx rfl (hb hby at_179) rfl (l' := #[.val (.int p0), .val (.int p1), .val (.int p2), .val (.int p3), .val (.ref b1), .val (.int v67), .val (.int v76), .val (.int v85), .val (.int v102), .val (.ref b42), .val (.int v170), .val (.int ((p3 &&& (2147483647 : Int32)) % (7 : Int32))), .unset, .unset]) rfl (kt))))) ?_
      obtain ⟨v179, hv179⟩ : ∃ z : Int32, z = ((p3 &&& (2147483647 : Int32)) % (7 : Int32)) := ⟨_, rfl⟩
      rw [← hv179]
      have hk : (3 : Int32) = 1 ∨ (3 : Int32) = 2 ∨ (3 : Int32) = (3 : Int32) := by decide
      obtain ⟨FF, hFF, hF6⟩ : ∃ n : Nat, v170.toInt = n ∧ n ≤ 6 := by rw [hv170]; exact own_e7 p2
      obtain ⟨TT, hTT, hT6⟩ : ∃ n : Nat, v179.toInt = n ∧ n ≤ 6 := by rw [hv179]; exact own_e7 p3
      refine own_run (g' := (mkF m 190 #[.val (.int p0), .val (.int p1), .val (.int p2), .val (.int p3), .val (.ref b1), .val (.int v67), .val (.int v76), .val (.int v85), .val (.int v102), .val (.ref b42), .val (.int v170), .val (.int v179), .unset, .unset] [(.int (0 : Int32)), (.int v179), (.int v170), (.ref b42), (.ref b1)])) (fun _ kt => XS.aload X45.here hx rfl (hb hby at_181) rfl rfl (XS.aload X45.here hx rfl (hb hby at_183) rfl rfl (XS.iload X45.here hx rfl (hb hby at_185) rfl (XS.iload X45.here hx rfl (hb hby at_187) rfl (XS.iconst X45.here hx rfl (hb hby at_189) (kt)))))) ?_
      refine own_callS X45 hx hZ hown (hw _ (List.mem_of_getElem? (i := 6) rfl)) (hw _ (List.mem_of_getElem? (i := 7) rfl)) (hw _ (List.mem_of_getElem? (i := 3) rfl)) (hw _ (List.mem_of_getElem? (i := 8) rfl)) (by decide) (rm2 l Z a0 hw [] b1 b42 v170 v179 (0 : Int32) (3 : Int32) [(nar .byte (own_f1 p1 p0 (0 : Int32))), (nar .byte (own_f1 p1 p0 (1 : Int32))), (nar .byte (own_f1 p1 p0 (2 : Int32))), (nar .byte (own_f1 p1 p0 (3 : Int32))), (nar .byte (own_f1 p1 p0 (4 : Int32))), (nar .byte (own_f1 p1 p0 (5 : Int32)))] [(nar .byte v67), (nar .byte v76), (nar .byte v85)] h45 n0 A13 A45 hk (by decide)) e45 (by decide) (by decide) (by decide) (by decide) (by rw [hml]; rfl) (argsL := [(.ref b1), (.ref b42), (.int v170), (.int v179), (.int (0 : Int32))]) (rest := []) (lenOf own_pd3 rfl) rfl (W := 0) (Nat.le_of_eq rfl) (hb hby at_190) ?_
      intro T46 r46 L46 X46 hQ46
      obtain ⟨rfl, Nq46, e46⟩ := hQ46
      have N46 := Fr.app N45 Nq46
      have J47 : ∀ (T47 : State) (L47 : List Loc) (v47_12 : Int32), Stand p l e room_1 s m args below meth c T47 L47 2 9 → Fr n0 L47 → T47.heap = h45 → v47_12 = (if (own_f2 v170 v179 (0 : Int32) (3 : Int32) [(nar .byte (own_f1 p1 p0 (0 : Int32))), (nar .byte (own_f1 p1 p0 (1 : Int32))), (nar .byte (own_f1 p1 p0 (2 : Int32))), (nar .byte (own_f1 p1 p0 (3 : Int32))), (nar .byte (own_f1 p1 p0 (4 : Int32))), (nar .byte (own_f1 p1 p0 (5 : Int32)))] [(nar .byte v67), (nar .byte v76), (nar .byte v85)]) = (0 : Int32) then (if (own_f2 v170 v179 (1 : Int32) (3 : Int32) [(nar .byte (own_f1 p1 p0 (0 : Int32))), (nar .byte (own_f1 p1 p0 (1 : Int32))), (nar .byte (own_f1 p1 p0 (2 : Int32))), (nar .byte (own_f1 p1 p0 (3 : Int32))), (nar .byte (own_f1 p1 p0 (4 : Int32))), (nar .byte (own_f1 p1 p0 (5 : Int32)))] [(nar .byte v67), (nar .byte v76), (nar .byte v85)]) = (0 : Int32) then (if (own_f2 v170 v179 (2 : Int32) (3 : Int32) [(nar .byte (own_f1 p1 p0 (0 : Int32))), (nar .byte (own_f1 p1 p0 (1 : Int32))), (nar .byte (own_f1 p1 p0 (2 : Int32))), (nar .byte (own_f1 p1 p0 (3 : Int32))), (nar .byte (own_f1 p1 p0 (4 : Int32))), (nar .byte (own_f1 p1 p0 (5 : Int32)))] [(nar .byte v67), (nar .byte v76), (nar .byte v85)]) = (0 : Int32) then (if (own_f2 v170 v179 (3 : Int32) (3 : Int32) [(nar .byte (own_f1 p1 p0 (0 : Int32))), (nar .byte (own_f1 p1 p0 (1 : Int32))), (nar .byte (own_f1 p1 p0 (2 : Int32))), (nar .byte (own_f1 p1 p0 (3 : Int32))), (nar .byte (own_f1 p1 p0 (4 : Int32))), (nar .byte (own_f1 p1 p0 (5 : Int32)))] [(nar .byte v67), (nar .byte v76), (nar .byte v85)]) = (0 : Int32) then (if (own_f2 v170 v179 (4 : Int32) (3 : Int32) [(nar .byte (own_f1 p1 p0 (0 : Int32))), (nar .byte (own_f1 p1 p0 (1 : Int32))), (nar .byte (own_f1 p1 p0 (2 : Int32))), (nar .byte (own_f1 p1 p0 (3 : Int32))), (nar .byte (own_f1 p1 p0 (4 : Int32))), (nar .byte (own_f1 p1 p0 (5 : Int32)))] [(nar .byte v67), (nar .byte v76), (nar .byte v85)]) = (0 : Int32) then (if (own_f2 v170 v179 (5 : Int32) (3 : Int32) [(nar .byte (own_f1 p1 p0 (0 : Int32))), (nar .byte (own_f1 p1 p0 (1 : Int32))), (nar .byte (own_f1 p1 p0 (2 : Int32))), (nar .byte (own_f1 p1 p0 (3 : Int32))), (nar .byte (own_f1 p1 p0 (4 : Int32))), (nar .byte (own_f1 p1 p0 (5 : Int32)))] [(nar .byte v67), (nar .byte v76), (nar .byte v85)]) = (0 : Int32) then (-1 : Int32) else (5 : Int32)) else (4 : Int32)) else (3 : Int32)) else (2 : Int32)) else (1 : Int32)) else (0 : Int32)) →  own_Run p e below s room_1.cells room_1.slots (Q0 h0 n0) T47 (mkF m 310 #[.val (.int p0), .val (.int p1), .val (.int p2), .val (.int p3), .val (.ref b1), .val (.int v67), .val (.int v76), .val (.int v85), .val (.int v102), .val (.ref b42), .val (.int v170), .val (.int v179), .val (.int v47_12), .unset] []) := by
        intro T47 L47 v47_12 X47 N47 e47 hv47_12
        refine own_new X47 hx hZ hown (hw _ (List.mem_of_getElem? (i := 9) rfl)) (hw _ (List.mem_of_getElem? (i := 10) rfl)) (hw _ (List.mem_of_getElem? (i := 11) rfl)) e47 (hb hby at_310) (by decide) (by decide) ?_
        intro T48 h48 b48 qq48 X48 e48 E48 K48 D48
        have ne_b1_b48 : b1 ≠ b48 := Nat.ne_of_lt (by rw [qq48]; exact A13.lt)
        have ne_b42_b48 : b42 ≠ b48 := Nat.ne_of_lt (by rw [qq48]; exact A45.lt)
        replace A13 := A13.ext E48
        replace A45 := A45.ext E48
        have g_b48 : n0 ≤ b48 := by rw [qq48]; exact ZW45
        have Z48 : n0 ≤ h48.size := Nat.le_trans ZW45 E48.1
        have F48_moves : Fld Z h48 b48 "com/example/lean_markup/leanmarkup/util/ByteSearch" "moves" "[I" .null := D48 (Or.inr (hw _ (List.mem_of_getElem? (i := 20) rfl))) (ty := (.array .int)) (by decide)
        have F48_part : Fld Z h48 b48 "com/example/lean_markup/leanmarkup/util/ByteSearch" "part" "[B" .null := D48 (Or.inr (hw _ (List.mem_of_getElem? (i := 22) rfl))) (ty := (.array .byte)) (by decide)
        refine own_run (g' := (mkF m 316 #[.val (.int p0), .val (.int p1), .val (.int p2), .val (.int p3), .val (.ref b1), .val (.int v67), .val (.int v76), .val (.int v85), .val (.int v102), .val (.ref b42), .val (.int v170), .val (.int v179), .val (.int v47_12), .unset] [(.ref b42), (.ref b48), (.ref b48)])) (fun _ kt => XS.dup X48.here hx rfl (hb hby at_313) rfl rfl (XS.aload X48.here hx rfl (hb hby at_314) rfl rfl (kt))) ?_
        refine own_callI (b := b48) X48 hx hZ hown rfl (hw _ (List.mem_of_getElem? (i := 12) rfl)) (hw _ (List.mem_of_getElem? (i := 13) rfl)) (hw _ (List.mem_of_getElem? (i := 11) rfl)) (hw _ (List.mem_of_getElem? (i := 14) rfl)) (by decide) (rm3 l Z a0 hw [] b48 b42 (3 : Int32) [(nar .byte v67), (nar .byte v76), (nar .byte v85)] h48 n0 Z48 K48 F48_moves F48_part A45 g_b48 (Ne.symm ne_b42_b48) hk) e48 (by decide) (by decide) (by decide) (by decide) (by rw [hml]; rfl) (argsL := [(.ref b42)]) (rest := [(.ref b48)]) (lenOf own_pd4 rfl) rfl (W := 1) (Nat.le_of_eq rfl) (hb hby at_316) ?_
        intro T49 r49 L49 X49 hQ49
        obtain ⟨rfl, Nq49, Kc49, x49, g_x49, ne_b48_x49, F49_m, F49_p, A49_m⟩ := hQ49
        have N49 := Fr.app N47 Nq49
        replace A13 := A13.keep Kc49 (ninS ne_b1_b48 nin0)
        replace A45 := A45.keep Kc49 (ninS ne_b42_b48 nin0)
        replace K48 := K48.keep Kc49
        have Z49 : n0 ≤ T49.heap.size := Nat.le_trans Z48 Kc49.1
        refine own_run (g' := (mkF m 329 #[.val (.int p0), .val (.int p1), .val (.int p2), .val (.int p3), .val (.ref b1), .val (.int v67), .val (.int v76), .val (.int v85), .val (.int v102), .val (.ref b42), .val (.int v170), .val (.int v179), .val (.int v47_12), .val (.ref b48)] [(.int v179), (.int v170), (.ref b1), (.ref b48)])) (fun _ kt => XS.astore X49.here hx rfl (hb hby at_319) rfl rfl (l' := #[.val (.int p0), .val (.int p1), .val (.int p2), .val (.int p3), .val (.ref b1), .val (.int v67), .val (.int v76), .val (.int v85), .val (.int v102), .val (.ref b42), .val (.int v170), .val (.int v179), .val (.int v47_12), .val (.ref b48)]) rfl (XS.aload X49.here hx rfl (hb hby at_321) rfl rfl (XS.aload X49.here hx rfl (hb hby at_323) rfl rfl (XS.iload X49.here hx rfl (hb hby at_325) rfl (XS.iload X49.here hx rfl (hb hby at_327) rfl (kt)))))) ?_
        have hp : own_hp (own_mv [(nar .byte v67), (nar .byte v76), (nar .byte v85)] (3 : Int32) ((3 : Int32).toNatClampNeg - 1)) [(nar .byte v67), (nar .byte v76), (nar .byte v85)] 3 (3 - 1) := own_mv_hp [(nar .byte v67), (nar .byte v76), (nar .byte v85)] (3 : Int32) 3 rfl (by decide) (by decide) ((3 : Int32).toNatClampNeg - 1) (by decide)
        refine own_callV (b := b48) X49 hx hZ hown (hw _ (List.mem_of_getElem? (i := 27) rfl)) (hw _ (List.mem_of_getElem? (i := 28) rfl)) (hw _ (List.mem_of_getElem? (i := 30) rfl)) (hw _ (List.mem_of_getElem? (i := 29) rfl)) (hw _ (List.mem_of_getElem? (i := 11) rfl)) (hw _ (List.mem_of_getElem? (i := 31) rfl)) (by decide) K48 (rm6 l Z a0 hw [] b48 b1 v170 v179 b42 x49 (3 : Int32) [(nar .byte (own_f1 p1 p0 (0 : Int32))), (nar .byte (own_f1 p1 p0 (1 : Int32))), (nar .byte (own_f1 p1 p0 (2 : Int32))), (nar .byte (own_f1 p1 p0 (3 : Int32))), (nar .byte (own_f1 p1 p0 (4 : Int32))), (nar .byte (own_f1 p1 p0 (5 : Int32)))] [(nar .byte v67), (nar .byte v76), (nar .byte v85)] (own_mv [(nar .byte v67), (nar .byte v76), (nar .byte v85)] (3 : Int32) ((3 : Int32).toNatClampNeg - 1)) 3 FF TT T49.heap n0 F49_p F49_m A13 A45 A49_m rfl (by decide) (by decide) hFF hF6 hTT hT6 hp) rfl (by decide) (by decide) (by decide) (by decide) (by rw [hml]; rfl) (argsL := [(.ref b1), (.int v170), (.int v179)]) (rest := []) (lenOf own_pd5 rfl) rfl (W := 0) (Nat.le_of_eq rfl) (hb hby at_329) ?_
        intro T50 r50 L50 X50 hQ50
        obtain ⟨r50, rfl, Nq50, e50, hfi⟩ := hQ50
        have N50 := Fr.app N49 Nq50
        have hd334 : r50 = v47_12 := own_fin (K := 3) rfl (by decide) (by decide) hFF hTT hT6 hfi hv47_12
        refine own_run (g' := (mkF m 342 #[.val (.int p0), .val (.int p1), .val (.int p2), .val (.int p3), .val (.ref b1), .val (.int v67), .val (.int v76), .val (.int v85), .val (.int v102), .val (.ref b42), .val (.int v170), .val (.int v179), .val (.int v47_12), .val (.ref b48)] [(.int (1 : Int32))])) (fun _ kt => XS.iload X50.here hx rfl (hb hby at_332) rfl (XS.icmpNo X50.here hx rfl (hb hby at_334) rfl ((teq hd334).2) (XS.iconst X50.here hx rfl (hb hby at_337) (XS.goto X50.here hx rfl (pc0 := 338) (pc' := 342) rfl (hb hby at_338) (by decide) (by decide) (kt))))) ?_
        exact own_retN (t := .boolean) X50 hx Bd.notSynchronized Bd.returns (by simp) (hb hby at_342) (by decide) (by decide) ⟨rfl, N50⟩
      by_cases hc193 : (own_f2 v170 v179 (0 : Int32) (3 : Int32) [(nar .byte (own_f1 p1 p0 (0 : Int32))), (nar .byte (own_f1 p1 p0 (1 : Int32))), (nar .byte (own_f1 p1 p0 (2 : Int32))), (nar .byte (own_f1 p1 p0 (3 : Int32))), (nar .byte (own_f1 p1 p0 (4 : Int32))), (nar .byte (own_f1 p1 p0 (5 : Int32)))] [(nar .byte v67), (nar .byte v76), (nar .byte v85)]) = (0 : Int32)
      · refine own_run (g' := (mkF m 211 #[.val (.int p0), .val (.int p1), .val (.int p2), .val (.int p3), .val (.ref b1), .val (.int v67), .val (.int v76), .val (.int v85), .val (.int v102), .val (.ref b42), .val (.int v170), .val (.int v179), .unset, .unset] [(.int (1 : Int32)), (.int v179), (.int v170), (.ref b42), (.ref b1)])) (fun _ kt => XS.ifYes X46.here hx rfl (pc0 := 193) (pc' := 202) rfl (hb hby at_193) rfl ((if0 _ _).trans (teq hc193).1) (by decide) (by decide) (XS.aload X46.here hx rfl (hb hby at_202) rfl rfl (XS.aload X46.here hx rfl (hb hby at_204) rfl rfl (XS.iload X46.here hx rfl (hb hby at_206) rfl (XS.iload X46.here hx rfl (hb hby at_208) rfl (XS.iconst X46.here hx rfl (hb hby at_210) (kt))))))) ?_
        refine own_callS X46 hx hZ hown (hw _ (List.mem_of_getElem? (i := 6) rfl)) (hw _ (List.mem_of_getElem? (i := 7) rfl)) (hw _ (List.mem_of_getElem? (i := 3) rfl)) (hw _ (List.mem_of_getElem? (i := 8) rfl)) (by decide) (rm2 l Z a0 hw [] b1 b42 v170 v179 (1 : Int32) (3 : Int32) [(nar .byte (own_f1 p1 p0 (0 : Int32))), (nar .byte (own_f1 p1 p0 (1 : Int32))), (nar .byte (own_f1 p1 p0 (2 : Int32))), (nar .byte (own_f1 p1 p0 (3 : Int32))), (nar .byte (own_f1 p1 p0 (4 : Int32))), (nar .byte (own_f1 p1 p0 (5 : Int32)))] [(nar .byte v67), (nar .byte v76), (nar .byte v85)] h45 n0 A13 A45 hk (by decide)) e46 (by decide) (by decide) (by decide) (by decide) (by rw [hml]; rfl) (argsL := [(.ref b1), (.ref b42), (.int v170), (.int v179), (.int (1 : Int32))]) (rest := []) (lenOf own_pd3 rfl) rfl (W := 0) (Nat.le_of_eq rfl) (hb hby at_211) ?_
        intro T51 r51 L51 X51 hQ51
        obtain ⟨rfl, Nq51, e51⟩ := hQ51
        have N51 := Fr.app N46 Nq51
        by_cases hc214 : (own_f2 v170 v179 (1 : Int32) (3 : Int32) [(nar .byte (own_f1 p1 p0 (0 : Int32))), (nar .byte (own_f1 p1 p0 (1 : Int32))), (nar .byte (own_f1 p1 p0 (2 : Int32))), (nar .byte (own_f1 p1 p0 (3 : Int32))), (nar .byte (own_f1 p1 p0 (4 : Int32))), (nar .byte (own_f1 p1 p0 (5 : Int32)))] [(nar .byte v67), (nar .byte v76), (nar .byte v85)]) = (0 : Int32)
        · refine own_run (g' := (mkF m 232 #[.val (.int p0), .val (.int p1), .val (.int p2), .val (.int p3), .val (.ref b1), .val (.int v67), .val (.int v76), .val (.int v85), .val (.int v102), .val (.ref b42), .val (.int v170), .val (.int v179), .unset, .unset] [(.int (2 : Int32)), (.int v179), (.int v170), (.ref b42), (.ref b1)])) (fun _ kt => XS.ifYes X51.here hx rfl (pc0 := 214) (pc' := 223) rfl (hb hby at_214) rfl ((if0 _ _).trans (teq hc214).1) (by decide) (by decide) (XS.aload X51.here hx rfl (hb hby at_223) rfl rfl (XS.aload X51.here hx rfl (hb hby at_225) rfl rfl (XS.iload X51.here hx rfl (hb hby at_227) rfl (XS.iload X51.here hx rfl (hb hby at_229) rfl (XS.iconst X51.here hx rfl (hb hby at_231) (kt))))))) ?_
          refine own_callS X51 hx hZ hown (hw _ (List.mem_of_getElem? (i := 6) rfl)) (hw _ (List.mem_of_getElem? (i := 7) rfl)) (hw _ (List.mem_of_getElem? (i := 3) rfl)) (hw _ (List.mem_of_getElem? (i := 8) rfl)) (by decide) (rm2 l Z a0 hw [] b1 b42 v170 v179 (2 : Int32) (3 : Int32) [(nar .byte (own_f1 p1 p0 (0 : Int32))), (nar .byte (own_f1 p1 p0 (1 : Int32))), (nar .byte (own_f1 p1 p0 (2 : Int32))), (nar .byte (own_f1 p1 p0 (3 : Int32))), (nar .byte (own_f1 p1 p0 (4 : Int32))), (nar .byte (own_f1 p1 p0 (5 : Int32)))] [(nar .byte v67), (nar .byte v76), (nar .byte v85)] h45 n0 A13 A45 hk (by decide)) e51 (by decide) (by decide) (by decide) (by decide) (by rw [hml]; rfl) (argsL := [(.ref b1), (.ref b42), (.int v170), (.int v179), (.int (2 : Int32))]) (rest := []) (lenOf own_pd3 rfl) rfl (W := 0) (Nat.le_of_eq rfl) (hb hby at_232) ?_
          intro T52 r52 L52 X52 hQ52
          obtain ⟨rfl, Nq52, e52⟩ := hQ52
          have N52 := Fr.app N51 Nq52
          by_cases hc235 : (own_f2 v170 v179 (2 : Int32) (3 : Int32) [(nar .byte (own_f1 p1 p0 (0 : Int32))), (nar .byte (own_f1 p1 p0 (1 : Int32))), (nar .byte (own_f1 p1 p0 (2 : Int32))), (nar .byte (own_f1 p1 p0 (3 : Int32))), (nar .byte (own_f1 p1 p0 (4 : Int32))), (nar .byte (own_f1 p1 p0 (5 : Int32)))] [(nar .byte v67), (nar .byte v76), (nar .byte v85)]) = (0 : Int32)
          · refine own_run (g' := (mkF m 253 #[.val (.int p0), .val (.int p1), .val (.int p2), .val (.int p3), .val (.ref b1), .val (.int v67), .val (.int v76), .val (.int v85), .val (.int v102), .val (.ref b42), .val (.int v170), .val (.int v179), .unset, .unset] [(.int (3 : Int32)), (.int v179), (.int v170), (.ref b42), (.ref b1)])) (fun _ kt => XS.ifYes X52.here hx rfl (pc0 := 235) (pc' := 244) rfl (hb hby at_235) rfl ((if0 _ _).trans (teq hc235).1) (by decide) (by decide) (XS.aload X52.here hx rfl (hb hby at_244) rfl rfl (XS.aload X52.here hx rfl (hb hby at_246) rfl rfl (XS.iload X52.here hx rfl (hb hby at_248) rfl (XS.iload X52.here hx rfl (hb hby at_250) rfl (XS.iconst X52.here hx rfl (hb hby at_252) (kt))))))) ?_
            refine own_callS X52 hx hZ hown (hw _ (List.mem_of_getElem? (i := 6) rfl)) (hw _ (List.mem_of_getElem? (i := 7) rfl)) (hw _ (List.mem_of_getElem? (i := 3) rfl)) (hw _ (List.mem_of_getElem? (i := 8) rfl)) (by decide) (rm2 l Z a0 hw [] b1 b42 v170 v179 (3 : Int32) (3 : Int32) [(nar .byte (own_f1 p1 p0 (0 : Int32))), (nar .byte (own_f1 p1 p0 (1 : Int32))), (nar .byte (own_f1 p1 p0 (2 : Int32))), (nar .byte (own_f1 p1 p0 (3 : Int32))), (nar .byte (own_f1 p1 p0 (4 : Int32))), (nar .byte (own_f1 p1 p0 (5 : Int32)))] [(nar .byte v67), (nar .byte v76), (nar .byte v85)] h45 n0 A13 A45 hk (by decide)) e52 (by decide) (by decide) (by decide) (by decide) (by rw [hml]; rfl) (argsL := [(.ref b1), (.ref b42), (.int v170), (.int v179), (.int (3 : Int32))]) (rest := []) (lenOf own_pd3 rfl) rfl (W := 0) (Nat.le_of_eq rfl) (hb hby at_253) ?_
            intro T53 r53 L53 X53 hQ53
            obtain ⟨rfl, Nq53, e53⟩ := hQ53
            have N53 := Fr.app N52 Nq53
            by_cases hc256 : (own_f2 v170 v179 (3 : Int32) (3 : Int32) [(nar .byte (own_f1 p1 p0 (0 : Int32))), (nar .byte (own_f1 p1 p0 (1 : Int32))), (nar .byte (own_f1 p1 p0 (2 : Int32))), (nar .byte (own_f1 p1 p0 (3 : Int32))), (nar .byte (own_f1 p1 p0 (4 : Int32))), (nar .byte (own_f1 p1 p0 (5 : Int32)))] [(nar .byte v67), (nar .byte v76), (nar .byte v85)]) = (0 : Int32)
            · refine own_run (g' := (mkF m 274 #[.val (.int p0), .val (.int p1), .val (.int p2), .val (.int p3), .val (.ref b1), .val (.int v67), .val (.int v76), .val (.int v85), .val (.int v102), .val (.ref b42), .val (.int v170), .val (.int v179), .unset, .unset] [(.int (4 : Int32)), (.int v179), (.int v170), (.ref b42), (.ref b1)])) (fun _ kt => XS.ifYes X53.here hx rfl (pc0 := 256) (pc' := 265) rfl (hb hby at_256) rfl ((if0 _ _).trans (teq hc256).1) (by decide) (by decide) (XS.aload X53.here hx rfl (hb hby at_265) rfl rfl (XS.aload X53.here hx rfl (hb hby at_267) rfl rfl (XS.iload X53.here hx rfl (hb hby at_269) rfl (XS.iload X53.here hx rfl (hb hby at_271) rfl (XS.iconst X53.here hx rfl (hb hby at_273) (kt))))))) ?_
              refine own_callS X53 hx hZ hown (hw _ (List.mem_of_getElem? (i := 6) rfl)) (hw _ (List.mem_of_getElem? (i := 7) rfl)) (hw _ (List.mem_of_getElem? (i := 3) rfl)) (hw _ (List.mem_of_getElem? (i := 8) rfl)) (by decide) (rm2 l Z a0 hw [] b1 b42 v170 v179 (4 : Int32) (3 : Int32) [(nar .byte (own_f1 p1 p0 (0 : Int32))), (nar .byte (own_f1 p1 p0 (1 : Int32))), (nar .byte (own_f1 p1 p0 (2 : Int32))), (nar .byte (own_f1 p1 p0 (3 : Int32))), (nar .byte (own_f1 p1 p0 (4 : Int32))), (nar .byte (own_f1 p1 p0 (5 : Int32)))] [(nar .byte v67), (nar .byte v76), (nar .byte v85)] h45 n0 A13 A45 hk (by decide)) e53 (by decide) (by decide) (by decide) (by decide) (by rw [hml]; rfl) (argsL := [(.ref b1), (.ref b42), (.int v170), (.int v179), (.int (4 : Int32))]) (rest := []) (lenOf own_pd3 rfl) rfl (W := 0) (Nat.le_of_eq rfl) (hb hby at_274) ?_
              intro T54 r54 L54 X54 hQ54
              obtain ⟨rfl, Nq54, e54⟩ := hQ54
              have N54 := Fr.app N53 Nq54
              by_cases hc277 : (own_f2 v170 v179 (4 : Int32) (3 : Int32) [(nar .byte (own_f1 p1 p0 (0 : Int32))), (nar .byte (own_f1 p1 p0 (1 : Int32))), (nar .byte (own_f1 p1 p0 (2 : Int32))), (nar .byte (own_f1 p1 p0 (3 : Int32))), (nar .byte (own_f1 p1 p0 (4 : Int32))), (nar .byte (own_f1 p1 p0 (5 : Int32)))] [(nar .byte v67), (nar .byte v76), (nar .byte v85)]) = (0 : Int32)
              · refine own_run (g' := (mkF m 295 #[.val (.int p0), .val (.int p1), .val (.int p2), .val (.int p3), .val (.ref b1), .val (.int v67), .val (.int v76), .val (.int v85), .val (.int v102), .val (.ref b42), .val (.int v170), .val (.int v179), .unset, .unset] [(.int (5 : Int32)), (.int v179), (.int v170), (.ref b42), (.ref b1)])) (fun _ kt => XS.ifYes X54.here hx rfl (pc0 := 277) (pc' := 286) rfl (hb hby at_277) rfl ((if0 _ _).trans (teq hc277).1) (by decide) (by decide) (XS.aload X54.here hx rfl (hb hby at_286) rfl rfl (XS.aload X54.here hx rfl (hb hby at_288) rfl rfl (XS.iload X54.here hx rfl (hb hby at_290) rfl (XS.iload X54.here hx rfl (hb hby at_292) rfl (XS.iconst X54.here hx rfl (hb hby at_294) (kt))))))) ?_
                refine own_callS X54 hx hZ hown (hw _ (List.mem_of_getElem? (i := 6) rfl)) (hw _ (List.mem_of_getElem? (i := 7) rfl)) (hw _ (List.mem_of_getElem? (i := 3) rfl)) (hw _ (List.mem_of_getElem? (i := 8) rfl)) (by decide) (rm2 l Z a0 hw [] b1 b42 v170 v179 (5 : Int32) (3 : Int32) [(nar .byte (own_f1 p1 p0 (0 : Int32))), (nar .byte (own_f1 p1 p0 (1 : Int32))), (nar .byte (own_f1 p1 p0 (2 : Int32))), (nar .byte (own_f1 p1 p0 (3 : Int32))), (nar .byte (own_f1 p1 p0 (4 : Int32))), (nar .byte (own_f1 p1 p0 (5 : Int32)))] [(nar .byte v67), (nar .byte v76), (nar .byte v85)] h45 n0 A13 A45 hk (by decide)) e54 (by decide) (by decide) (by decide) (by decide) (by rw [hml]; rfl) (argsL := [(.ref b1), (.ref b42), (.int v170), (.int v179), (.int (5 : Int32))]) (rest := []) (lenOf own_pd3 rfl) rfl (W := 0) (Nat.le_of_eq rfl) (hb hby at_295) ?_
                intro T55 r55 L55 X55 hQ55
                obtain ⟨rfl, Nq55, e55⟩ := hQ55
                have N55 := Fr.app N54 Nq55
                by_cases hc298 : (own_f2 v170 v179 (5 : Int32) (3 : Int32) [(nar .byte (own_f1 p1 p0 (0 : Int32))), (nar .byte (own_f1 p1 p0 (1 : Int32))), (nar .byte (own_f1 p1 p0 (2 : Int32))), (nar .byte (own_f1 p1 p0 (3 : Int32))), (nar .byte (own_f1 p1 p0 (4 : Int32))), (nar .byte (own_f1 p1 p0 (5 : Int32)))] [(nar .byte v67), (nar .byte v76), (nar .byte v85)]) = (0 : Int32)
                · refine own_run (g' := (mkF m 310 #[.val (.int p0), .val (.int p1), .val (.int p2), .val (.int p3), .val (.ref b1), .val (.int v67), .val (.int v76), .val (.int v85), .val (.int v102), .val (.ref b42), .val (.int v170), .val (.int v179), .val (.int (-1 : Int32)), .unset] [])) (fun _ kt => XS.ifYes X55.here hx rfl (pc0 := 298) (pc' := 307) rfl (hb hby at_298) rfl ((if0 _ _).trans (teq hc298).1) (by decide) (by decide) (XS.iconst X55.here hx rfl (hb hby at_307) (XS.istore X55.here hx rfl (hb hby at_308) rfl (l' := #[.val (.int p0), .val (.int p1), .val (.int p2), .val (.int p3), .val (.ref b1), .val (.int v67), .val (.int v76), .val (.int v85), .val (.int v102), .val (.ref b42), .val (.int v170), .val (.int v179), .val (.int (-1 : Int32)), .unset]) rfl (kt)))) ?_
                  exact J47 T55 _ (-1 : Int32) X55 N55 e55 (by rw [if_pos hc193, if_pos hc214, if_pos hc235, if_pos hc256, if_pos hc277, if_pos hc298])
                · refine own_run (g' := (mkF m 310 #[.val (.int p0), .val (.int p1), .val (.int p2), .val (.int p3), .val (.ref b1), .val (.int v67), .val (.int v76), .val (.int v85), .val (.int v102), .val (.ref b42), .val (.int v170), .val (.int v179), .val (.int (5 : Int32)), .unset] [])) (fun _ kt => XS.ifNo X55.here hx rfl (hb hby at_298) rfl ((if0 _ _).trans (feq hc298).1) (XS.iconst X55.here hx rfl (hb hby at_301) (XS.istore X55.here hx rfl (hb hby at_302) rfl (l' := #[.val (.int p0), .val (.int p1), .val (.int p2), .val (.int p3), .val (.ref b1), .val (.int v67), .val (.int v76), .val (.int v85), .val (.int v102), .val (.ref b42), .val (.int v170), .val (.int v179), .val (.int (5 : Int32)), .unset]) rfl (XS.goto X55.here hx rfl (pc0 := 304) (pc' := 310) rfl (hb hby at_304) (by decide) (by decide) (kt))))) ?_
                  exact J47 T55 _ (5 : Int32) X55 N55 e55 (by rw [if_pos hc193, if_pos hc214, if_pos hc235, if_pos hc256, if_pos hc277, if_neg hc298])
              · refine own_run (g' := (mkF m 310 #[.val (.int p0), .val (.int p1), .val (.int p2), .val (.int p3), .val (.ref b1), .val (.int v67), .val (.int v76), .val (.int v85), .val (.int v102), .val (.ref b42), .val (.int v170), .val (.int v179), .val (.int (4 : Int32)), .unset] [])) (fun _ kt => XS.ifNo X54.here hx rfl (hb hby at_277) rfl ((if0 _ _).trans (feq hc277).1) (XS.iconst X54.here hx rfl (hb hby at_280) (XS.istore X54.here hx rfl (hb hby at_281) rfl (l' := #[.val (.int p0), .val (.int p1), .val (.int p2), .val (.int p3), .val (.ref b1), .val (.int v67), .val (.int v76), .val (.int v85), .val (.int v102), .val (.ref b42), .val (.int v170), .val (.int v179), .val (.int (4 : Int32)), .unset]) rfl (XS.goto X54.here hx rfl (pc0 := 283) (pc' := 310) rfl (hb hby at_283) (by decide) (by decide) (kt))))) ?_
                exact J47 T54 _ (4 : Int32) X54 N54 e54 (by rw [if_pos hc193, if_pos hc214, if_pos hc235, if_pos hc256, if_neg hc277])
            · refine own_run (g' := (mkF m 310 #[.val (.int p0), .val (.int p1), .val (.int p2), .val (.int p3), .val (.ref b1), .val (.int v67), .val (.int v76), .val (.int v85), .val (.int v102), .val (.ref b42), .val (.int v170), .val (.int v179), .val (.int (3 : Int32)), .unset] [])) (fun _ kt => XS.ifNo X53.here hx rfl (hb hby at_256) rfl ((if0 _ _).trans (feq hc256).1) (XS.iconst X53.here hx rfl (hb hby at_259) (XS.istore X53.here hx rfl (hb hby at_260) rfl (l' := #[.val (.int p0), .val (.int p1), .val (.int p2), .val (.int p3), .val (.ref b1), .val (.int v67), .val (.int v76), .val (.int v85), .val (.int v102), .val (.ref b42), .val (.int v170), .val (.int v179), .val (.int (3 : Int32)), .unset]) rfl (XS.goto X53.here hx rfl (pc0 := 262) (pc' := 310) rfl (hb hby at_262) (by decide) (by decide) (kt))))) ?_
              exact J47 T53 _ (3 : Int32) X53 N53 e53 (by rw [if_pos hc193, if_pos hc214, if_pos hc235, if_neg hc256])
          · refine own_run (g' := (mkF m 310 #[.val (.int p0), .val (.int p1), .val (.int p2), .val (.int p3), .val (.ref b1), .val (.int v67), .val (.int v76), .val (.int v85), .val (.int v102), .val (.ref b42), .val (.int v170), .val (.int v179), .val (.int (2 : Int32)), .unset] [])) (fun _ kt => XS.ifNo X52.here hx rfl (hb hby at_235) rfl ((if0 _ _).trans (feq hc235).1) (XS.iconst X52.here hx rfl (hb hby at_238) (XS.istore X52.here hx rfl (hb hby at_239) rfl (l' := #[.val (.int p0), .val (.int p1), .val (.int p2), .val (.int p3), .val (.ref b1), .val (.int v67), .val (.int v76), .val (.int v85), .val (.int v102), .val (.ref b42), .val (.int v170), .val (.int v179), .val (.int (2 : Int32)), .unset]) rfl (XS.goto X52.here hx rfl (pc0 := 241) (pc' := 310) rfl (hb hby at_241) (by decide) (by decide) (kt))))) ?_
            exact J47 T52 _ (2 : Int32) X52 N52 e52 (by rw [if_pos hc193, if_pos hc214, if_neg hc235])
        · refine own_run (g' := (mkF m 310 #[.val (.int p0), .val (.int p1), .val (.int p2), .val (.int p3), .val (.ref b1), .val (.int v67), .val (.int v76), .val (.int v85), .val (.int v102), .val (.ref b42), .val (.int v170), .val (.int v179), .val (.int (1 : Int32)), .unset] [])) (fun _ kt => XS.ifNo X51.here hx rfl (hb hby at_214) rfl ((if0 _ _).trans (feq hc214).1) (XS.iconst X51.here hx rfl (hb hby at_217) (XS.istore X51.here hx rfl (hb hby at_218) rfl (l' := #[.val (.int p0), .val (.int p1), .val (.int p2), .val (.int p3), .val (.ref b1), .val (.int v67), .val (.int v76), .val (.int v85), .val (.int v102), .val (.ref b42), .val (.int v170), .val (.int v179), .val (.int (1 : Int32)), .unset]) rfl (XS.goto X51.here hx rfl (pc0 := 220) (pc' := 310) rfl (hb hby at_220) (by decide) (by decide) (kt))))) ?_
          exact J47 T51 _ (1 : Int32) X51 N51 e51 (by rw [if_pos hc193, if_neg hc214])
      · refine own_run (g' := (mkF m 310 #[.val (.int p0), .val (.int p1), .val (.int p2), .val (.int p3), .val (.ref b1), .val (.int v67), .val (.int v76), .val (.int v85), .val (.int v102), .val (.ref b42), .val (.int v170), .val (.int v179), .val (.int (0 : Int32)), .unset] [])) (fun _ kt => XS.ifNo X46.here hx rfl (hb hby at_193) rfl ((if0 _ _).trans (feq hc193).1) (XS.iconst X46.here hx rfl (hb hby at_196) (XS.istore X46.here hx rfl (hb hby at_197) rfl (l' := #[.val (.int p0), .val (.int p1), .val (.int p2), .val (.int p3), .val (.ref b1), .val (.int v67), .val (.int v76), .val (.int v85), .val (.int v102), .val (.ref b42), .val (.int v170), .val (.int v179), .val (.int (0 : Int32)), .unset]) rfl (XS.goto X46.here hx rfl (pc0 := 199) (pc' := 310) rfl (hb hby at_199) (by decide) (by decide) (kt))))) ?_
        exact J47 T46 _ (0 : Int32) X46 N46 e46 (by rw [if_neg hc193])
set_option maxRecDepth 65536 in
set_option maxHeartbeats 40000000 in
theorem comes_1 {Post : Tables → Env → Array Value → State → Outcome → State → Prop} (hpost : ∀ tb e args s v u, (limb_1_1.after args s (.returned v) u = true ∧ limb_1_2.after args s (.returned v) u = true ∧ True) → FrameEnd s (.returned v) u (Jvm.fieldLocs frame_1_writes args s ++ Jvm.arrayLocs frame_1_arrays args s ++ Jvm.staticLocs frame_1_statics s) 16 640 → Post tb e args s (.returned v) u) :
    ArmFor flags0 classFile x code maxLocals ret World_1 tables_1 room_1 Calls_1 rest_1 Pre_1 Post := by
  intro l hfl _ _ p e ha hc hk s m args below hf hA hF happ hP
  obtain ⟨hcalls, hrest, hpre⟩ := hP
  obtain ⟨-, -, -, hnamed, -, -, -, hat⟩ := (Spec.applies_iff hf).mp happ
  obtain ⟨hg, hn⟩ := and_e (Cond.before_iff.mp (show (Jvm.Cond.and given_1 narrow_1).before args s = true from hpre))
  obtain ⟨hcnt, g0⟩ := and_e hg
  obtain ⟨k0, g1⟩ := and_e g0
  obtain ⟨k1, g2⟩ := and_e g1
  obtain ⟨k2, g3⟩ := and_e g2
  obtain ⟨w0, w1, w2, w3, rfl⟩ : ∃ w0 w1 w2 w3 : Value, args = #[w0, w1, w2, w3] := by
    have hs : args.size = 4 := by simpa [Cond.value, given_1] using hcnt
    obtain ⟨L⟩ := args
    match L, hs with
    | [w0, w1, w2, w3], _ => exact ⟨w0, w1, w2, w3, rfl⟩
  have hw := fun d (hd : d ∈ tables_1) => atoms_spec (ws := Jvm.Cond.code x code maxLocals ret :: tables_1) hat d (List.mem_cons_of_mem _ hd)
  obtain ⟨i0, ei0⟩ := is_v k0
  obtain rfl : w0 = (.int i0) := Option.some.inj ei0
  obtain ⟨i1, ei1⟩ := is_v k1
  obtain rfl : w1 = (.int i1) := Option.some.inj ei1
  obtain ⟨i2, ei2⟩ := is_v k2
  obtain rfl : w2 = (.int i2) := Option.some.inj ei2
  obtain ⟨i3, ei3⟩ := is_v g3
  obtain rfl : w3 = (.int i3) := Option.some.inj ei3
  obtain ⟨n, o, h1, h2, h3, _, L, rfl, ⟨rfl, N⟩, hq⟩ := rm0 l s _ hw tables_1 i0 i1 i2 i3 s.heap s.heap.size (Nat.le_refl _) p e ha hc hk s m _ below hf ((Spec.applies_iff_loose hf).mp happ).1 ⟨rfl, State.Warmed39.refl s, rfl⟩ trivial
  refine ⟨n, _, h1, h2, h3, hpost _ _ _ _ _ _ ⟨Cond.after_iff.mpr rfl, Cond.after_iff.mpr (eq_i res_at (Term.int_eval (1)) rfl), trivial⟩ ⟨hq.1, hq.2.1, (hq.2.2.sift fun y hy => Or.inr (N y hy)).mono (by decide) (by decide)⟩⟩
theorem main_1_1 : Claimed_1_1 := comes_1 fun _ _ _ _ _ _ h hF => ⟨h.1, hF⟩
theorem main_1_2 : Claimed_1_2 := comes_1 fun _ _ _ _ _ _ h hF => ⟨h.2.1, hF⟩
end Jvm.Pilot.@@N@@
namespace Jvm.Pilot.@@N@@
open Jvm Jvm.ClassFile Sem Op Lib Jvm.Free Jvm.Stand Jvm.Pilot.@@N@@.Jvm.D
/-! MADE BY PROGRAM (witnessworld.py) out of the Statement's table words and the real class files: 10 classes; the members and pool entries that the words name. The judged class is class 1, her method 4. -/
namespace start1
open Jvm.ClassFile
def u (s : String) : CpInfo := .utf8 (stringToUtf16 s)
/-- a pool by its gaps: so many unusable entries, then the entry; so many at the end -/
def gap : Nat → List CpInfo → List CpInfo
  | 0, r => r
  | n + 1, r => .unusable :: gap n r
def poolList (es : List (Nat × CpInfo)) (last : Nat) : List CpInfo := es.foldr (fun e r => gap e.1 (e.2 :: r)) (gap last [])
def pool (es : List (Nat × CpInfo)) (last : Nat) : Array CpInfo := ⟨poolList es last⟩
def fileOf (pool : Array CpInfo) (this : Nat) (attrs : Array Attribute := #[]) (ms : Array MethodInfo := #[]) (fl : Nat := 33) (sup : Nat := 0) (ifs : Array Nat := #[]) (fds : Array FieldInfo := #[]) : ClassFile where
  minorVersion := 0
  majorVersion := 65
  constantPool := pool
  accessFlags := fl
  thisClass := this
  superClass := sup
  interfaces := ifs
  fields := fds
  methods := ms
  attributes := attrs
def plain (name : String) (sup : Option ClassId) : Class where
  name := name
  kind := .ordinary
  loader := none
  accessFlags := 33
  super := sup
  interfaces := #[]
  cf := none
  fields := #[]
  methods := #[]
  instanceTypes := #[]
  staticTypes := #[]
  resolved := #[]
  callSites := []
  init := .initialized
  statics := none
  mirror := none

def pool0 : Array CpInfo := pool [(5, u "<init>"), (0, u "()V"), (1, .class_ 10), (1, u "java/lang/Object")] 113

def k0c0 : Code := { maxStack := 0, maxLocals := 1, code := object_method_1_code, exceptionTable := #[], attributes := #[] }
def k0m0 : Method := { name := "<init>", desc := "()V", sig := { parameters := [], returnType := none }, accessFlags := 1, code := some k0c0 }
/-- java/lang/Object -/
def k0 : Class := { plain "java/lang/Object" none with
  accessFlags := 33
  interfaces := #[]
  cf := some (fileOf pool0 8 #[] #[{ accessFlags := 1, nameIndex := 5, descriptorIndex := 6, attributes := #[] }] 33 0 #[] #[])
  fields := #[]
  methods := #[k0m0]
  instanceTypes := #[]
  staticTypes := #[]
  resolved := Array.replicate 124 none
  statics := none }

def pool1 : Array CpInfo := pool [(2, .class_ 4), (1, u "java/lang/Object"), (0, u "<init>"), (0, u "()V"), (0, .methodref 8 9), (0, .class_ 10), (0, .nameAndType 11 12), (0, u "com/example/lean_markup/leanmarkup/util/ByteSearchInPinLaw"), (0, u "matchAt"), (0, u "([B[BI)Z"), (0, .methodref 8 14), (0, .nameAndType 15 16), (0, u "sym"), (0, u "(III)B"), (0, .integer 2147483647), (0, .methodref 8 19), (0, .nameAndType 20 21), (0, u "ok"), (0, u "([B[BIII)Z"), (0, .class_ 23), (0, u "com/example/lean_markup/leanmarkup/util/ByteSearch"), (0, .methodref 22 25), (0, .nameAndType 5 26), (0, u "([B)V"), (0, .methodref 22 28), (0, .nameAndType 29 30), (0, u "in"), (0, u "([BII)I"), (3, u "law"), (0, u "(IIII)Z")] 4

def k1m0 : Method := { name := "<init>", desc := "()V", sig := { parameters := [], returnType := none }, accessFlags := 1, code := none }
def k1c1 : Code := { maxStack := 3, maxLocals := 4, code := method_2_code, exceptionTable := #[], attributes := #[] }
def k1m1 : Method := { name := "sym", desc := "(III)B", sig := { parameters := [.int, .int, .int], returnType := some .byte }, accessFlags := 10, code := some k1c1 }
def k1c2 : Code := { maxStack := 3, maxLocals := 4, code := method_3_code, exceptionTable := #[], attributes := #[] }
def k1m2 : Method := { name := "matchAt", desc := "([B[BI)Z", sig := { parameters := [(.array .byte), (.array .byte), .int], returnType := some .boolean }, accessFlags := 10, code := some k1c2 }
def k1c3 : Code := { maxStack := 3, maxLocals := 5, code := method_4_code, exceptionTable := #[], attributes := #[] }
def k1m3 : Method := { name := "ok", desc := "([B[BIII)Z", sig := { parameters := [(.array .byte), (.array .byte), .int, .int, .int], returnType := some .boolean }, accessFlags := 10, code := some k1c3 }
def k1c4 : Code := { maxStack := 6, maxLocals := 14, code := code, exceptionTable := #[], attributes := #[] }
def k1m4 : Method := { name := "law", desc := "(IIII)Z", sig := { parameters := [.int, .int, .int, .int], returnType := some .boolean }, accessFlags := 9, code := some k1c4 }
/-- com/example/lean_markup/leanmarkup/util/ByteSearchInPinLaw -/
def k1 : Class := { plain "com/example/lean_markup/leanmarkup/util/ByteSearchInPinLaw" (some 0) with
  accessFlags := 49
  interfaces := #[]
  cf := some (fileOf pool1 8 #[] #[{ accessFlags := 1, nameIndex := 5, descriptorIndex := 6, attributes := #[] }, { accessFlags := 10, nameIndex := 15, descriptorIndex := 16, attributes := #[] }, { accessFlags := 10, nameIndex := 11, descriptorIndex := 12, attributes := #[] }, { accessFlags := 10, nameIndex := 20, descriptorIndex := 21, attributes := #[] }, { accessFlags := 9, nameIndex := 34, descriptorIndex := 35, attributes := #[] }] 49 2 #[] #[])
  fields := #[]
  methods := #[k1m0, k1m1, k1m2, k1m3, k1m4]
  instanceTypes := #[]
  staticTypes := #[]
  resolved := Array.replicate 40 none
  statics := none }

def pool2 : Array CpInfo := pool [(1, .methodref 2 3), (0, .class_ 4), (0, .nameAndType 5 6), (0, u "java/lang/Object"), (0, u "<init>"), (0, u "()V"), (0, .fieldref 8 9), (0, .class_ 10), (0, .nameAndType 11 12), (0, u "com/example/lean_markup/leanmarkup/util/ByteSearch"), (0, u "moves"), (0, u "[I"), (7, .fieldref 8 21), (0, .nameAndType 22 23), (0, u "part"), (0, u "[B"), (0, .methodref 25 26), (0, .class_ 27), (0, .nameAndType 28 29), (0, u "java/util/Arrays"), (0, u "fill"), (0, u "([II)V"), (0, u "([B)V"), (6, u "in"), (0, u "([BII)I")] 2

def k2c0 : Code := { maxStack := 4, maxLocals := 3, code := prog_202_method_1_code, exceptionTable := #[], attributes := #[] }
def k2m0 : Method := { name := "<init>", desc := "([B)V", sig := { parameters := [(.array .byte)], returnType := none }, accessFlags := 1, code := some k2c0 }
def k2c1 : Code := { maxStack := 5, maxLocals := 7, code := prog_202_method_3_code, exceptionTable := #[], attributes := #[] }
def k2m1 : Method := { name := "in", desc := "([BII)I", sig := { parameters := [(.array .byte), .int, .int], returnType := some .int }, accessFlags := 1, code := some k2c1 }
/-- com/example/lean_markup/leanmarkup/util/ByteSearch -/
def k2 : Class := { plain "com/example/lean_markup/leanmarkup/util/ByteSearch" (some 0) with
  accessFlags := 33
  interfaces := #[]
  cf := some (fileOf pool2 8 #[] #[{ accessFlags := 1, nameIndex := 5, descriptorIndex := 30, attributes := #[] }, { accessFlags := 1, nameIndex := 37, descriptorIndex := 38, attributes := #[] }] 33 2 #[] #[{ accessFlags := 18, nameIndex := 22, descriptorIndex := 23, attributes := #[] }, { accessFlags := 18, nameIndex := 11, descriptorIndex := 12, attributes := #[] }])
  fields := #[{ name := "part", type := (.array .byte), accessFlags := 18, slot := 0, constantValue := 0 }, { name := "moves", type := (.array .int), accessFlags := 18, slot := 1, constantValue := 0 }]
  methods := #[k2m0, k2m1]
  instanceTypes := #[(.array .byte), (.array .int)]
  staticTypes := #[]
  resolved := Array.replicate 41 none
  statics := none }

def pool3 : Array CpInfo := pool [(2, .class_ 4), (1, u "java/lang/Object"), (0, u "<init>"), (0, u "()V"), (7, .class_ 16), (1, u "java/util/Arrays"), (57, .class_ 76), (1, u "java/util/Arrays$NaturalOrder"), (36, .class_ 115), (1, u "java/util/Arrays$LegacyMergeSort"), (1, u "Z"), (257, .class_ 376), (0, u "java/util/Arrays$ArrayList"), (68, u "$assertionsDisabled"), (269, u "MIN_ARRAY_SORT_GRAN"), (0, u "I"), (2, u "INSERTIONSORT_THRESHOLD"), (120, u "fill"), (4, u "([II)V"), (129, .class_ 976), (0, u "java/util/Arrays$ArrayItr")] 52

def k3m0 : Method := { name := "<init>", desc := "()V", sig := { parameters := [], returnType := none }, accessFlags := 2, code := none }
def k3c1 : Code := { maxStack := 3, maxLocals := 4, code := jdk_65_method_103_code, exceptionTable := #[], attributes := #[] }
def k3m1 : Method := { name := "fill", desc := "([II)V", sig := { parameters := [(.array .int), .int], returnType := none }, accessFlags := 9, code := some k3c1 }
/-- java/util/Arrays -/
def k3 : Class := { plain "java/util/Arrays" (some 0) with
  accessFlags := 49
  interfaces := #[]
  cf := some (fileOf pool3 14 #[.nestMembers #[975, 375, 113, 74]] #[{ accessFlags := 2, nameIndex := 5, descriptorIndex := 6, attributes := #[] }, { accessFlags := 9, nameIndex := 840, descriptorIndex := 845, attributes := #[] }] 49 2 #[] #[{ accessFlags := 26, nameIndex := 715, descriptorIndex := 716, attributes := #[] }, { accessFlags := 26, nameIndex := 719, descriptorIndex := 716, attributes := #[] }, { accessFlags := 4120, nameIndex := 445, descriptorIndex := 117, attributes := #[] }])
  fields := #[{ name := "MIN_ARRAY_SORT_GRAN", type := .int, accessFlags := 26, slot := 0, constantValue := 0 }, { name := "INSERTIONSORT_THRESHOLD", type := .int, accessFlags := 26, slot := 1, constantValue := 0 }, { name := "$assertionsDisabled", type := .boolean, accessFlags := 4120, slot := 2, constantValue := 0 }]
  methods := #[k3m0, k3m1]
  instanceTypes := #[]
  staticTypes := #[.int, .int, .boolean]
  resolved := Array.replicate 1029 none
  statics := none }

def pool4 : Array CpInfo := pool [(1, u "java/lang/Cloneable"), (0, .class_ 1), (0, u "java/lang/Object"), (0, .class_ 3)] 3

/-- java/lang/Cloneable -/
def k4 : Class := { plain "java/lang/Cloneable" (some 0) with
  accessFlags := 1537
  interfaces := #[]
  cf := some (fileOf pool4 2 #[] #[] 1537 4 #[] #[])
  fields := #[]
  methods := #[]
  instanceTypes := #[]
  staticTypes := #[]
  resolved := Array.replicate 8 none
  statics := none }

def pool5 : Array CpInfo := pool [(1, u "java/io/Serializable"), (0, .class_ 1), (0, u "java/lang/Object"), (0, .class_ 3)] 3

/-- java/io/Serializable -/
def k5 : Class := { plain "java/io/Serializable" (some 0) with
  accessFlags := 1537
  interfaces := #[]
  cf := some (fileOf pool5 2 #[] #[] 1537 4 #[] #[])
  fields := #[]
  methods := #[]
  instanceTypes := #[]
  staticTypes := #[]
  resolved := Array.replicate 8 none
  statics := none }

/-- the primitive byte -/
def k6 : Class := { plain "byte" none with kind := .primitive 'B', accessFlags := 0x411 }
/-- [B -/
def k7 : Class := { plain "[B" (some 0) with kind := .array 6 .byte, interfaces := #[4, 5], accessFlags := 1041 }

/-- the primitive int -/
def k8 : Class := { plain "int" none with kind := .primitive 'I', accessFlags := 0x411 }
/-- [I -/
def k9 : Class := { plain "[I" (some 0) with kind := .array 8 .int, interfaces := #[4, 5], accessFlags := 1041 }

def heap : Heap := #[]
def classes : Array Class := #[k0, k1, k2, k3, k4, k5, k6, k7, k8, k9]
def interned : List (Array UInt16 × Addr) := []
def slotsUsed : Nat := 0
def theMethod : MethodId := ⟨1, 4⟩
def args0 : Array Value := #[.int 27, .int 1, .int 2, .int 3]
def aboutOver (below : List Frame) : State where
  vm := { classes := classes, interned := interned.toArray }
  heap := heap
  slotsUsed := slotsUsed
  threads := #[{ frames := .invoking theMethod args0 :: below }]
def below0 : List Frame := [.native { method := ⟨0, 0⟩, args := #[] }]
def about1 : State := aboutOver below0
def p0 : Program := .bare "" "" ""
def e0 : Env := launch0.env 0 0 0
theorem w_frames : about1.frames = Frame.invoking theMethod args0 :: below0 := rfl
set_option maxRecDepth 65536 in
theorem w_args : argsFit about1.vm theMethod args0 = true := by decide +kernel
set_option maxRecDepth 65536 in
theorem w_heap : heapFits about1 = true := by decide +kernel
set_option maxRecDepth 65536 in
theorem w_runnable : about1.curStatus? = some .runnable := by decide +kernel
set_option maxRecDepth 65536 in
theorem w_alone : about1.alone = true := by decide +kernel
set_option maxRecDepth 65536 in
theorem w_named : about1.methodNamed? x = some theMethod := by decide +kernel
set_option maxRecDepth 65536 in
theorem w_hears : about1.hears theMethod below0 = true := by decide +kernel
set_option maxRecDepth 65536 in
theorem w_ripe : about1.ripe theMethod args0 below0 = true := by decide +kernel
theorem w_running : about1.status = .running := rfl
set_option maxRecDepth 65536 in
theorem w_room : about1.hasRoom e0.platform room_1 = true :=
  launch0.hasRoom_least _ room_1 (by decide +kernel) (by decide +kernel) (by decide +kernel) (by decide +kernel) (by decide +kernel) (by decide +kernel)
theorem allAtoms_all (ts : List Jvm.Cond) (a : Array Jvm.Value) (st : Jvm.State) : (allAtoms ts).before a st = ts.all (fun c => c.before a st) := by
  induction ts with
  | nil => rfl
  | cons c t ih =>
    show (Jvm.Cond.and c (allAtoms t)).before a st = _
    rw [Jvm.Cond.before_and, ih, List.all_cons]
def words1 : List Jvm.Cond := Jvm.Cond.code x code maxLocals ret :: tables_1
/-- a 'code' word, met by the world's own term for the bytes: nothing is compared byte by byte -/
theorem code_word {y : MethodName} {bytes : ByteArray} {mx : Nat} {rt : Option FieldType} {a : Array Value} {s : State} {m : MethodId} {meth : Method} {c : Code} (h1 : s.methodNamed? y = some m) (h2 : s.vm.method? m = some meth) (h3 : meth.code = some c) (h4 : c.code = bytes)
    (h5 : (c.maxLocals == mx && c.exceptionTable.isEmpty && decide (c.maxStack ≤ mostOperands) && decide (meth.sig.returnType = rt) && !meth.locks && decide (parseMethodDescriptor y.desc = some meth.sig)) = true) : (Jvm.Cond.code y bytes mx rt).before a s = true := by
  simp only [Bool.and_eq_true, beq_iff_eq, Bool.not_eq_true', decide_eq_true_eq] at h5
  obtain ⟨⟨⟨⟨⟨g1, g2⟩, g3⟩, g4⟩, g5⟩, g6⟩ := h5
  simp [Cond.before, Cond.holds, Cond.value, h1, h2, h3, h4, g1, g2, g3, g4, g5, g6]
def isCode : Jvm.Cond → Bool
  | .code _ _ _ _ => true
  | _ => false
theorem all_split {L : List Jvm.Cond} {P : Jvm.Cond → Bool} (h1 : L.all (fun c => isCode c || P c) = true) (h2 : ∀ c ∈ L.filter isCode, P c = true) : L.all P = true := by
  refine List.all_eq_true.mpr fun c hc => ?_
  have h := List.all_eq_true.mp h1 c hc
  rcases Bool.eq_false_or_eq_true (isCode c) with hi | hi
  · exact h2 c (List.mem_filter.mpr ⟨hc, hi⟩)
  · simpa [hi] using h
set_option maxRecDepth 65536 in
theorem w_c0 : (Jvm.Cond.code x code maxLocals ret).before args0 about1 = true := code_word (m := ⟨1, 4⟩) (meth := k1m4) (c := k1c4) (by decide +kernel) rfl rfl rfl (by decide +kernel)
set_option maxRecDepth 65536 in
theorem w_c1 : (Jvm.Cond.code ({ cls := "com/example/lean_markup/leanmarkup/util/ByteSearchInPinLaw", name := "sym", desc := "(III)B" } : Jvm.MethodName) method_2_code (4 : Nat) (Option.some Jvm.ClassFile.FieldType.byte)).before args0 about1 = true := code_word (m := ⟨1, 1⟩) (meth := k1m1) (c := k1c1) (by decide +kernel) rfl rfl rfl (by decide +kernel)
set_option maxRecDepth 65536 in
theorem w_c2 : (Jvm.Cond.code ({ cls := "com/example/lean_markup/leanmarkup/util/ByteSearchInPinLaw", name := "ok", desc := "([B[BIII)Z" } : Jvm.MethodName) method_4_code (5 : Nat) (Option.some Jvm.ClassFile.FieldType.boolean)).before args0 about1 = true := code_word (m := ⟨1, 3⟩) (meth := k1m3) (c := k1c3) (by decide +kernel) rfl rfl rfl (by decide +kernel)
set_option maxRecDepth 65536 in
theorem w_c3 : (Jvm.Cond.code ({ cls := "com/example/lean_markup/leanmarkup/util/ByteSearch", name := "<init>", desc := "([B)V" } : Jvm.MethodName) prog_202_method_1_code (3 : Nat) (Option.none : Option Jvm.ClassFile.FieldType)).before args0 about1 = true := code_word (m := ⟨2, 0⟩) (meth := k2m0) (c := k2c0) (by decide +kernel) rfl rfl rfl (by decide +kernel)
set_option maxRecDepth 65536 in
theorem w_c4 : (Jvm.Cond.code ({ cls := "java/lang/Object", name := "<init>", desc := "()V" } : Jvm.MethodName) object_method_1_code (1 : Nat) (Option.none : Option Jvm.ClassFile.FieldType)).before args0 about1 = true := code_word (m := ⟨0, 0⟩) (meth := k0m0) (c := k0c0) (by decide +kernel) rfl rfl rfl (by decide +kernel)
set_option maxRecDepth 65536 in
theorem w_c5 : (Jvm.Cond.code ({ cls := "java/util/Arrays", name := "fill", desc := "([II)V" } : Jvm.MethodName) jdk_65_method_103_code (4 : Nat) (Option.none : Option Jvm.ClassFile.FieldType)).before args0 about1 = true := code_word (m := ⟨3, 1⟩) (meth := k3m1) (c := k3c1) (by decide +kernel) rfl rfl rfl (by decide +kernel)
set_option maxRecDepth 65536 in
theorem w_c6 : (Jvm.Cond.code ({ cls := "com/example/lean_markup/leanmarkup/util/ByteSearch", name := "in", desc := "([BII)I" } : Jvm.MethodName) prog_202_method_3_code (7 : Nat) (Option.some Jvm.ClassFile.FieldType.int)).before args0 about1 = true := code_word (m := ⟨2, 1⟩) (meth := k2m1) (c := k2c1) (by decide +kernel) rfl rfl rfl (by decide +kernel)
set_option maxRecDepth 65536 in
theorem w_c7 : (Jvm.Cond.code ({ cls := "com/example/lean_markup/leanmarkup/util/ByteSearchInPinLaw", name := "matchAt", desc := "([B[BI)Z" } : Jvm.MethodName) method_3_code (4 : Nat) (Option.some Jvm.ClassFile.FieldType.boolean)).before args0 about1 = true := code_word (m := ⟨1, 2⟩) (meth := k1m2) (c := k1c2) (by decide +kernel) rfl rfl rfl (by decide +kernel)
def codes1 : List Jvm.Cond := [Jvm.Cond.code x code maxLocals ret, Jvm.Cond.code ({ cls := "com/example/lean_markup/leanmarkup/util/ByteSearchInPinLaw", name := "sym", desc := "(III)B" } : Jvm.MethodName) method_2_code (4 : Nat) (Option.some Jvm.ClassFile.FieldType.byte), Jvm.Cond.code ({ cls := "com/example/lean_markup/leanmarkup/util/ByteSearchInPinLaw", name := "ok", desc := "([B[BIII)Z" } : Jvm.MethodName) method_4_code (5 : Nat) (Option.some Jvm.ClassFile.FieldType.boolean), Jvm.Cond.code ({ cls := "com/example/lean_markup/leanmarkup/util/ByteSearch", name := "<init>", desc := "([B)V" } : Jvm.MethodName) prog_202_method_1_code (3 : Nat) (Option.none : Option Jvm.ClassFile.FieldType), Jvm.Cond.code ({ cls := "java/lang/Object", name := "<init>", desc := "()V" } : Jvm.MethodName) object_method_1_code (1 : Nat) (Option.none : Option Jvm.ClassFile.FieldType), Jvm.Cond.code ({ cls := "java/util/Arrays", name := "fill", desc := "([II)V" } : Jvm.MethodName) jdk_65_method_103_code (4 : Nat) (Option.none : Option Jvm.ClassFile.FieldType), Jvm.Cond.code ({ cls := "com/example/lean_markup/leanmarkup/util/ByteSearch", name := "in", desc := "([BII)I" } : Jvm.MethodName) prog_202_method_3_code (7 : Nat) (Option.some Jvm.ClassFile.FieldType.int), Jvm.Cond.code ({ cls := "com/example/lean_markup/leanmarkup/util/ByteSearchInPinLaw", name := "matchAt", desc := "([B[BI)Z" } : Jvm.MethodName) method_3_code (4 : Nat) (Option.some Jvm.ClassFile.FieldType.boolean)]
set_option maxRecDepth 65536 in
theorem codes_eq : words1.filter isCode = codes1 := rfl
theorem w_codes : ∀ c ∈ words1.filter isCode, c.before args0 about1 = true := by
  rw [codes_eq]
  intro c hc
  simp only [codes1, List.mem_cons, List.not_mem_nil, or_false] at hc
  rcases hc with rfl | rfl | rfl | rfl | rfl | rfl | rfl | rfl
  · exact w_c0
  · exact w_c1
  · exact w_c2
  · exact w_c3
  · exact w_c4
  · exact w_c5
  · exact w_c6
  · exact w_c7
set_option maxRecDepth 65536 in
theorem w_t1 : (words1.take 24).all (fun c => isCode c || c.before args0 about1) = true := by decide +kernel
set_option maxRecDepth 65536 in
theorem w_t2 : (words1.drop 24).all (fun c => isCode c || c.before args0 about1) = true := by decide +kernel
theorem w_tables : (allAtoms (Jvm.Cond.code x code maxLocals ret :: tables_1)).before args0 about1 = true := by
  rw [allAtoms_all]
  show words1.all (fun c => c.before args0 about1) = true
  refine all_split ?_ w_codes
  rw [← List.take_append_drop 24 words1, List.all_append, w_t1, w_t2]
  rfl
set_option maxRecDepth 65536 in
theorem w_case : (Jvm.Cond.and given_1 narrow_1).before args0 about1 = true := by decide +kernel
theorem w_applies : (headSpec (Jvm.Cond.code x code maxLocals ret :: tables_1) room_1).applies x e0.platform about1 = true :=
  (Spec.applies_iff w_frames).mpr ⟨w_running, w_runnable, w_alone, w_named, w_hears, w_ripe, w_room, w_tables⟩
theorem atStart : AtStart classFile x code maxLocals ret World_1 tables_1 room_1 Calls_1 rest_1 Pre_1 launch0 p0 e0 about1 theMethod args0 below0 :=
  ⟨lists_1, trivial, launch0.admits_env _ _ _, launch0.least_env, fairChoices_fair.cas, fairChoices_fair.clock, w_frames, w_args, w_heap, w_applies, trivial, trivial, w_case⟩
end start1
theorem witness_1 : WitnessClaimed_1 := ⟨start1.p0, start1.e0, start1.about1, start1.theMethod, start1.args0, start1.below0, start1.atStart⟩
end Jvm.Pilot.@@N@@
