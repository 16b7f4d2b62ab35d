import JvmDerived
import JvmDerived.Pilot.@@N@@Statement
import JvmDerived.Pilot.@@N@@Code
set_option linter.unusedVariables false
set_option linter.unusedSimpArgs false
namespace Jvm.Pilot.@@N@@
open Jvm Jvm.ClassFile Sem Op Lib Jvm.Free Jvm.Stand Jvm.LawKit Jvm.RoadKit Bundle Jvm.Pilot.@@N@@.Jvm.D
abbrev Cx : Type := Program × Launch × Env × Room × State × MethodId × Array Value × List Frame × Method × Code
abbrev Cx.p (K : Cx) : Program := K.1
abbrev Cx.l (K : Cx) : Launch := K.2.1
abbrev Cx.e (K : Cx) : Env := K.2.2.1
abbrev Cx.R (K : Cx) : Room := K.2.2.2.1
abbrev Cx.s (K : Cx) : State := K.2.2.2.2.1
abbrev Cx.m (K : Cx) : MethodId := K.2.2.2.2.2.1
abbrev Cx.args (K : Cx) : Array Value := K.2.2.2.2.2.2.1
abbrev Cx.below (K : Cx) : List Frame := K.2.2.2.2.2.2.2.1
abbrev Cx.meth (K : Cx) : Method := K.2.2.2.2.2.2.2.2.1
abbrev Cx.c (K : Cx) : Code := K.2.2.2.2.2.2.2.2.2
/-- from T at this frame the body ends within the room, and what it leaves is Q's -/
def Go (K : Cx) (n0 kc kj : Nat) (Q : Option Value → Heap → Prop) (T : State) (pc : Nat) (Ls : Array Slot) (st : List Value) : Prop :=
  ∃ t o, Steps K.p.tables K.e K.below (T.setTop (mkF K.m pc Ls st)) t ∧ t.status = .running ∧ Ended t K.below o ∧ ∃ v L, o = .returned v ∧ (Q v t.heap ∧ Fr n0 L) ∧ FrameEnd K.s o t L kc kj
/-- where the walk stands: the body's own facts, the heap, how many cells and slots have been made -/
def St (K : Cx) (Z : State) (own : String) (b : ByteArray) (mx : Nat) (ret : Option FieldType) (rm : Room) (n0 k j : Nat) (T : State) (h : Heap) : Prop :=
  K.p.tables.exec = Jvm.exec ∧ Z.Warmed39 K.s.vm ∧ K.s.vm.findClass own = some K.m.cls ∧ K.c.code = b ∧ K.c.maxLocals = mx ∧ K.meth.sig.returnType = ret ∧ K.meth.locks = false ∧ K.R = rm ∧ T.heap = h ∧
    ∃ locs, Stand K.p K.l K.e K.R K.s K.m K.args K.below K.meth K.c T locs k j ∧ Fr n0 locs
def Isn (b : ByteArray) (pc : Nat) (i : Instr) (n pc' : Nat) : Prop := decode b pc = .ok (i, n) ∧ pc + n = pc'
def Brn (b : ByteArray) (pc : Nat) (i : Instr) (o : Int) (pc' tg : Nat) : Prop := decode b pc = .ok (i, 3) ∧ pc + 3 = pc' ∧ 0 ≤ (pc : Int) + o ∧ ((pc : Int) + o).toNat = tg
/-- a body's contract, at its arguments and heap -/
def CtrW (l : Launch) (Z : State) (y : MethodName) (b : ByteArray) (mx : Nat) (ret : Option FieldType) (ws : List Jvm.Cond) (rm : Room) (kc kj : Nat) (as' : List Value) (h : Heap) (n0 : Nat) (Q : Option Value → Heap → Prop) : Prop :=
  MetFree l y (head1 (Jvm.Cond.code y b mx ret :: ws) rm) (fun a U => a = as'.toArray ∧ Z.Warmed39 U.vm ∧ U.heap = h) (fun _ _ _ _ _ => True) (fun _ U o U' => ∃ v L, o = .returned v ∧ (Q v U'.heap ∧ Fr n0 L) ∧ FrameEnd U o U' L kc kj)
abbrev Ctr (l : Launch) (Z : State) (y : MethodName) (b : ByteArray) (mx : Nat) (ret : Option FieldType) (rm : Room) (as' : List Value) (h : Heap) (n0 : Nat) (Q : Option Value → Heap → Prop) : Prop :=
  CtrW l Z y b mx ret [] rm rm.cells rm.slots as' h n0 Q
section OwnKit
variable {K : Cx} {Z : State} {own : String} {b : ByteArray} {mx : Nat} {ret : Option FieldType} {rm : Room} {n0 k j kc kj : Nat} {T : State} {h : Heap} {Q : Option Value → Heap → Prop} {pc pc' tg : Nat} {Ls Ls' : Array Slot} {st rest : List Value} {a0 : Array Value}
theorem St.ex (X : St K Z own b mx ret rm n0 k j T h) : K.p.tables.exec = Jvm.exec := X.1
theorem St.wZ (X : St K Z own b mx ret rm n0 k j T h) : Z.Warmed39 K.s.vm := X.2.1
theorem St.ow (X : St K Z own b mx ret rm n0 k j T h) : K.s.vm.findClass own = some K.m.cls := X.2.2.1
theorem St.dec (X : St K Z own b mx ret rm n0 k j T h) {r : Except DecodeError (Instr × Nat)} (d : decode b pc = r) : decode K.c.code pc = r := hb X.2.2.2.1 d
theorem St.ml (X : St K Z own b mx ret rm n0 k j T h) : K.c.maxLocals = mx := X.2.2.2.2.1
theorem St.rt (X : St K Z own b mx ret rm n0 k j T h) : K.meth.sig.returnType = ret := X.2.2.2.2.2.1
theorem St.nl (X : St K Z own b mx ret rm n0 k j T h) : K.meth.locks = false := X.2.2.2.2.2.2.1
theorem St.rmE (X : St K Z own b mx ret rm n0 k j T h) : K.R = rm := X.2.2.2.2.2.2.2.1
theorem St.hp (X : St K Z own b mx ret rm n0 k j T h) : T.heap = h := X.2.2.2.2.2.2.2.2.1
theorem St.sd (X : St K Z own b mx ret rm n0 k j T h) : ∃ locs, Stand K.p K.l K.e K.R K.s K.m K.args K.below K.meth K.c T locs k j ∧ Fr n0 locs := X.2.2.2.2.2.2.2.2.2
theorem St.here (X : St K Z own b mx ret rm n0 k j T h) : At T K.m K.c K.below := by obtain ⟨_, S, _⟩ := X.sd; exact S.here
theorem St.mk' (X : St K Z own b mx ret rm n0 k j T h) {T' : State} {h' : Heap} {k' j' : Nat} {locs : List Loc} (S : Stand K.p K.l K.e K.R K.s K.m K.args K.below K.meth K.c T' locs k' j') (N : Fr n0 locs) (q : T'.heap = h') : St K Z own b mx ret rm n0 k' j' T' h' :=
  ⟨X.1, X.2.1, X.2.2.1, X.2.2.2.1, X.2.2.2.2.1, X.2.2.2.2.2.1, X.2.2.2.2.2.2.1, X.2.2.2.2.2.2.2.1, q, _, S, N⟩
theorem St.more (X : St K Z own b mx ret rm n0 k j T h) {k' j' : Nat} (hk : k ≤ k') (hj : j ≤ j') : St K Z own b mx ret rm n0 k' j' T h := by
  obtain ⟨_, S, N⟩ := X.sd; exact X.mk' (S.more hk hj) N X.hp
theorem St.eqh (X : St K Z own b mx ret rm n0 k j T h) {h' : Heap} (q : h = h') : St K Z own b mx ret rm n0 k j T h' := q ▸ X
theorem o_go {T' : State} {st' : List Value} (f : ∀ t, Steps K.p.tables K.e K.below (T'.setTop (mkF K.m pc' Ls' st')) t → Steps K.p.tables K.e K.below (T.setTop (mkF K.m pc Ls st)) t) (g : Go K n0 kc kj Q T' pc' Ls' st') : Go K n0 kc kj Q T pc Ls st := by
  obtain ⟨t, o, h1, h2⟩ := g; exact ⟨t, o, f t h1, h2⟩
theorem Go.imp {Q' : Option Value → Heap → Prop} (g : Go K n0 kc kj Q T pc Ls st) (f : ∀ v h, Q v h → Q' v h) : Go K n0 kc kj Q' T pc Ls st := by
  obtain ⟨t, o, h1, h2, h3, v, L, h4, ⟨h5, h6⟩, h7⟩ := g; exact ⟨t, o, h1, h2, h3, v, L, h4, ⟨f _ _ h5, h6⟩, h7⟩
theorem o_v1 {v : Value} (g : Go K n0 kc kj Q T pc Ls (v :: rest)) : Go K n0 kc kj Q T pc Ls ((some v).toList ++ rest) := g
theorem o_v0 (g : Go K n0 kc kj Q T pc Ls rest) : Go K n0 kc kj Q T pc Ls ((none : Option Value).toList ++ rest) := g
theorem o_st {st' : List Value} (q : st = st') (g : Go K n0 kc kj Q T pc Ls st') : Go K n0 kc kj Q T pc Ls st := q ▸ g
theorem o_gen {x : Int32} (g : ∀ z, z = x → Go K n0 kc kj Q T pc Ls (.int z :: rest)) : Go K n0 kc kj Q T pc Ls (.int x :: rest) := g x rfl
theorem o_genL {x : Int64} (g : ∀ z, z = x → Go K n0 kc kj Q T pc Ls (.long z :: rest)) : Go K n0 kc kj Q T pc Ls (.long x :: rest) := g x rfl
theorem o_cutL (pj : Nat) (z : Int64) {x : Int32} (B : Go K n0 kc kj Q T pj Ls (.long z :: rest) → Go K n0 kc kj Q T pc Ls (.int x :: rest)) (J : Go K n0 kc kj Q T pj Ls (.long z :: rest)) : Go K n0 kc kj Q T pc Ls (.int x :: rest) := B J
theorem o_cutI (pj : Nat) (z : Int32) {x : Int32} (B : Go K n0 kc kj Q T pj Ls (.int z :: rest) → Go K n0 kc kj Q T pc Ls (.int x :: rest)) (J : Go K n0 kc kj Q T pj Ls (.int z :: rest)) : Go K n0 kc kj Q T pc Ls (.int x :: rest) := B J
theorem o_cutI2 (pj : Nat) (z : Int32) {x y : Int32} (B : Go K n0 kc kj Q T pj Ls (.int z :: rest) → Go K n0 kc kj Q T pc Ls (.int y :: .int x :: rest)) (J : Go K n0 kc kj Q T pj Ls (.int z :: rest)) : Go K n0 kc kj Q T pc Ls (.int y :: .int x :: rest) := B J
theorem o_cutS (pj : Nat) {x : Int32} (X : St K Z own b mx ret rm n0 k j T h) (B : (∀ T' z, St K Z own b mx ret rm n0 k j T' h → Go K n0 kc kj Q T' pj Ls (.int z :: rest)) → Go K n0 kc kj Q T pc Ls (.int x :: rest)) (J : ∀ T' z, St K Z own b mx ret rm n0 k j T' h → Go K n0 kc kj Q T' pj Ls (.int z :: rest)) : Go K n0 kc kj Q T pc Ls (.int x :: rest) := B J
theorem o_cutI2L (pj : Nat) (z : Int64) {x y : Int32} (B : Go K n0 kc kj Q T pj Ls (.long z :: rest) → Go K n0 kc kj Q T pc Ls (.int y :: .int x :: rest)) (J : Go K n0 kc kj Q T pj Ls (.long z :: rest)) : Go K n0 kc kj Q T pc Ls (.int y :: .int x :: rest) := B J
theorem o_ls (q : Ls = Ls') (g : Go K n0 kc kj Q T pc Ls' st) : Go K n0 kc kj Q T pc Ls st := q ▸ g
theorem o_iadd (X : St K Z own b mx ret rm n0 k j T h) {x y : Int32} (d : Isn b pc (.iadd) 1 pc') (g : Go K n0 kc kj Q T pc' Ls (.int (x + y) :: rest)) : Go K n0 kc kj Q T pc Ls (.int y :: .int x :: rest) := by
  obtain ⟨d, rfl⟩ := d; exact o_go (fun t k => XS.iadd X.here X.ex rfl (X.dec d) rfl k) g
theorem o_isub (X : St K Z own b mx ret rm n0 k j T h) {x y : Int32} (d : Isn b pc (.isub) 1 pc') (g : Go K n0 kc kj Q T pc' Ls (.int (x - y) :: rest)) : Go K n0 kc kj Q T pc Ls (.int y :: .int x :: rest) := by
  obtain ⟨d, rfl⟩ := d; exact o_go (fun t k => XS.isub X.here X.ex rfl (X.dec d) rfl k) g
theorem o_imul (X : St K Z own b mx ret rm n0 k j T h) {x y : Int32} (d : Isn b pc (.imul) 1 pc') (g : Go K n0 kc kj Q T pc' Ls (.int (x * y) :: rest)) : Go K n0 kc kj Q T pc Ls (.int y :: .int x :: rest) := by
  obtain ⟨d, rfl⟩ := d; exact o_go (fun t k => XS.imul X.here X.ex rfl (X.dec d) rfl k) g
theorem o_iand (X : St K Z own b mx ret rm n0 k j T h) {x y : Int32} (d : Isn b pc (.iand) 1 pc') (g : Go K n0 kc kj Q T pc' Ls (.int (x &&& y) :: rest)) : Go K n0 kc kj Q T pc Ls (.int y :: .int x :: rest) := by
  obtain ⟨d, rfl⟩ := d; exact o_go (fun t k => XS.iand X.here X.ex rfl (X.dec d) rfl k) g
theorem o_ixor (X : St K Z own b mx ret rm n0 k j T h) {x y : Int32} (d : Isn b pc (.ixor) 1 pc') (g : Go K n0 kc kj Q T pc' Ls (.int (x ^^^ y) :: rest)) : Go K n0 kc kj Q T pc Ls (.int y :: .int x :: rest) := by
  obtain ⟨d, rfl⟩ := d; exact o_go (fun t k => XT.ixor X.here X.ex rfl (X.dec d) rfl k) g
theorem o_ior (X : St K Z own b mx ret rm n0 k j T h) {x y : Int32} (d : Isn b pc (.ior) 1 pc') (g : Go K n0 kc kj Q T pc' Ls (.int (x ||| y) :: rest)) : Go K n0 kc kj Q T pc Ls (.int y :: .int x :: rest) := by
  obtain ⟨d, rfl⟩ := d; exact o_go (fun t k => XT.ior X.here X.ex rfl (X.dec d) rfl k) g
theorem o_ishl (X : St K Z own b mx ret rm n0 k j T h) {x y : Int32} (d : Isn b pc (.ishl) 1 pc') (g : Go K n0 kc kj Q T pc' Ls (.int (x <<< (y &&& 31)) :: rest)) : Go K n0 kc kj Q T pc Ls (.int y :: .int x :: rest) := by
  obtain ⟨d, rfl⟩ := d; exact o_go (fun t k => XT.ishl X.here X.ex rfl (X.dec d) rfl k) g
theorem o_ishr (X : St K Z own b mx ret rm n0 k j T h) {x y : Int32} (d : Isn b pc (.ishr) 1 pc') (g : Go K n0 kc kj Q T pc' Ls (.int (x >>> (y &&& 31)) :: rest)) : Go K n0 kc kj Q T pc Ls (.int y :: .int x :: rest) := by
  obtain ⟨d, rfl⟩ := d; exact o_go (fun t k => XT.ishr X.here X.ex rfl (X.dec d) rfl k) g
theorem o_iushr (X : St K Z own b mx ret rm n0 k j T h) {x y : Int32} (d : Isn b pc (.iushr) 1 pc') (g : Go K n0 kc kj Q T pc' Ls (.int (XT.ushr x y) :: rest)) : Go K n0 kc kj Q T pc Ls (.int y :: .int x :: rest) := by
  obtain ⟨d, rfl⟩ := d; exact o_go (fun t k => XT.iushr X.here X.ex rfl (X.dec d) rfl k) g
theorem o_ladd (X : St K Z own b mx ret rm n0 k j T h) {x y : Int64} (d : Isn b pc (.ladd) 1 pc') (g : Go K n0 kc kj Q T pc' Ls (.long (x + y) :: rest)) : Go K n0 kc kj Q T pc Ls (.long y :: .long x :: rest) := by
  obtain ⟨d, rfl⟩ := d; exact o_go (fun t k => XT.ladd X.here X.ex rfl (X.dec d) rfl k) g
theorem o_lsub (X : St K Z own b mx ret rm n0 k j T h) {x y : Int64} (d : Isn b pc (.lsub) 1 pc') (g : Go K n0 kc kj Q T pc' Ls (.long (x - y) :: rest)) : Go K n0 kc kj Q T pc Ls (.long y :: .long x :: rest) := by
  obtain ⟨d, rfl⟩ := d; exact o_go (fun t k => XT.lsub X.here X.ex rfl (X.dec d) rfl k) g
theorem o_lmul (X : St K Z own b mx ret rm n0 k j T h) {x y : Int64} (d : Isn b pc (.lmul) 1 pc') (g : Go K n0 kc kj Q T pc' Ls (.long (x * y) :: rest)) : Go K n0 kc kj Q T pc Ls (.long y :: .long x :: rest) := by
  obtain ⟨d, rfl⟩ := d; exact o_go (fun t k => XT.lmul X.here X.ex rfl (X.dec d) rfl k) g
theorem o_land (X : St K Z own b mx ret rm n0 k j T h) {x y : Int64} (d : Isn b pc (.land) 1 pc') (g : Go K n0 kc kj Q T pc' Ls (.long (x &&& y) :: rest)) : Go K n0 kc kj Q T pc Ls (.long y :: .long x :: rest) := by
  obtain ⟨d, rfl⟩ := d; exact o_go (fun t k => XT.land X.here X.ex rfl (X.dec d) rfl k) g
theorem o_lor (X : St K Z own b mx ret rm n0 k j T h) {x y : Int64} (d : Isn b pc (.lor) 1 pc') (g : Go K n0 kc kj Q T pc' Ls (.long (x ||| y) :: rest)) : Go K n0 kc kj Q T pc Ls (.long y :: .long x :: rest) := by
  obtain ⟨d, rfl⟩ := d; exact o_go (fun t k => XT.lor X.here X.ex rfl (X.dec d) rfl k) g
theorem o_lxor (X : St K Z own b mx ret rm n0 k j T h) {x y : Int64} (d : Isn b pc (.lxor) 1 pc') (g : Go K n0 kc kj Q T pc' Ls (.long (x ^^^ y) :: rest)) : Go K n0 kc kj Q T pc Ls (.long y :: .long x :: rest) := by
  obtain ⟨d, rfl⟩ := d; exact o_go (fun t k => XT.lxor X.here X.ex rfl (X.dec d) rfl k) g
theorem o_lshl (X : St K Z own b mx ret rm n0 k j T h) {x : Int64} {y : Int32} (d : Isn b pc (.lshl) 1 pc') (g : Go K n0 kc kj Q T pc' Ls (.long (x <<< (y.toInt64 &&& 63)) :: rest)) : Go K n0 kc kj Q T pc Ls (.int y :: .long x :: rest) := by
  obtain ⟨d, rfl⟩ := d; exact o_go (fun t k => XT.lshl X.here X.ex rfl (X.dec d) rfl k) g
theorem o_lshr (X : St K Z own b mx ret rm n0 k j T h) {x : Int64} {y : Int32} (d : Isn b pc (.lshr) 1 pc') (g : Go K n0 kc kj Q T pc' Ls (.long (x >>> (y.toInt64 &&& 63)) :: rest)) : Go K n0 kc kj Q T pc Ls (.int y :: .long x :: rest) := by
  obtain ⟨d, rfl⟩ := d; exact o_go (fun t k => XT.lshr X.here X.ex rfl (X.dec d) rfl k) g
theorem o_lushr (X : St K Z own b mx ret rm n0 k j T h) {x : Int64} {y : Int32} (d : Isn b pc (.lushr) 1 pc') (g : Go K n0 kc kj Q T pc' Ls (.long (XT.ushrL x y) :: rest)) : Go K n0 kc kj Q T pc Ls (.int y :: .long x :: rest) := by
  obtain ⟨d, rfl⟩ := d; exact o_go (fun t k => XT.lushr X.here X.ex rfl (X.dec d) rfl k) g
theorem o_lcmp (X : St K Z own b mx ret rm n0 k j T h) {x y : Int64} (d : Isn b pc (.lcmp) 1 pc') (g : Go K n0 kc kj Q T pc' Ls (.int (XT.cmpL x y) :: rest)) : Go K n0 kc kj Q T pc Ls (.long y :: .long x :: rest) := by
  obtain ⟨d, rfl⟩ := d; exact o_go (fun t k => XT.lcmp X.here X.ex rfl (X.dec d) rfl k) g
theorem o_idiv (X : St K Z own b mx ret rm n0 k j T h) {x y : Int32} (d : Isn b pc (.idiv) 1 pc') (hy : y ≠ 0) (g : Go K n0 kc kj Q T pc' Ls (.int (x / y) :: rest)) : Go K n0 kc kj Q T pc Ls (.int y :: .int x :: rest) := by
  obtain ⟨d, rfl⟩ := d; exact o_go (fun t k => XS.idiv X.here X.ex rfl (X.dec d) rfl hy k) g
theorem o_ldiv (X : St K Z own b mx ret rm n0 k j T h) {x y : Int64} (d : Isn b pc (.ldiv) 1 pc') (hy : y ≠ 0) (g : Go K n0 kc kj Q T pc' Ls (.long (x / y) :: rest)) : Go K n0 kc kj Q T pc Ls (.long y :: .long x :: rest) := by
  obtain ⟨d, rfl⟩ := d; exact o_go (fun t k => XT.ldiv X.here X.ex rfl (X.dec d) rfl hy k) g
theorem o_irem (X : St K Z own b mx ret rm n0 k j T h) {x y : Int32} (d : Isn b pc .irem 1 pc') (hy : y ≠ 0) (g : Go K n0 kc kj Q T pc' Ls (.int (x % y) :: rest)) : Go K n0 kc kj Q T pc Ls (.int y :: .int x :: rest) := by
  obtain ⟨d, rfl⟩ := d; obtain ⟨_, S, _⟩ := X.sd; exact o_go (fun t k => iremM S X.ex rfl (X.dec d) rfl hy k) g
theorem o_lrem (X : St K Z own b mx ret rm n0 k j T h) {x y : Int64} (d : Isn b pc .lrem 1 pc') (hy : y ≠ 0) (g : Go K n0 kc kj Q T pc' Ls (.long (x % y) :: rest)) : Go K n0 kc kj Q T pc Ls (.long y :: .long x :: rest) := by
  obtain ⟨d, rfl⟩ := d; rw [← lrem_mod] at g; exact o_go (fun t k => XT.lrem X.here X.ex rfl (X.dec d) rfl hy k) g
theorem o_i2l (X : St K Z own b mx ret rm n0 k j T h) {x : Int32} (d : Isn b pc (.i2l) 1 pc') (g : Go K n0 kc kj Q T pc' Ls (.long (x.toInt64) :: rest)) : Go K n0 kc kj Q T pc Ls (.int x :: rest) := by
  obtain ⟨d, rfl⟩ := d; exact o_go (fun t k => XT.i2l X.here X.ex rfl (X.dec d) rfl k) g
theorem o_l2i (X : St K Z own b mx ret rm n0 k j T h) {x : Int64} (d : Isn b pc (.l2i) 1 pc') (g : Go K n0 kc kj Q T pc' Ls (.int (x.toInt32) :: rest)) : Go K n0 kc kj Q T pc Ls (.long x :: rest) := by
  obtain ⟨d, rfl⟩ := d; exact o_go (fun t k => XT.l2i X.here X.ex rfl (X.dec d) rfl k) g
theorem o_i2b (X : St K Z own b mx ret rm n0 k j T h) {x : Int32} (d : Isn b pc (.i2b) 1 pc') (g : Go K n0 kc kj Q T pc' Ls (.int (x.toInt8.toInt32) :: rest)) : Go K n0 kc kj Q T pc Ls (.int x :: rest) := by
  obtain ⟨d, rfl⟩ := d; exact o_go (fun t k => XT.i2b X.here X.ex rfl (X.dec d) rfl k) g
theorem o_i2c (X : St K Z own b mx ret rm n0 k j T h) {x : Int32} (d : Isn b pc (.i2c) 1 pc') (g : Go K n0 kc kj Q T pc' Ls (.int (x.toUInt32.toUInt16.toUInt32.toInt32) :: rest)) : Go K n0 kc kj Q T pc Ls (.int x :: rest) := by
  obtain ⟨d, rfl⟩ := d; exact o_go (fun t k => XT.i2c X.here X.ex rfl (X.dec d) rfl k) g
theorem o_i2s (X : St K Z own b mx ret rm n0 k j T h) {x : Int32} (d : Isn b pc (.i2s) 1 pc') (g : Go K n0 kc kj Q T pc' Ls (.int (x.toInt16.toInt32) :: rest)) : Go K n0 kc kj Q T pc Ls (.int x :: rest) := by
  obtain ⟨d, rfl⟩ := d; exact o_go (fun t k => XT.i2s X.here X.ex rfl (X.dec d) rfl k) g
theorem o_ineg (X : St K Z own b mx ret rm n0 k j T h) {x : Int32} (d : Isn b pc (.ineg) 1 pc') (g : Go K n0 kc kj Q T pc' Ls (.int (-x) :: rest)) : Go K n0 kc kj Q T pc Ls (.int x :: rest) := by
  obtain ⟨d, rfl⟩ := d; exact o_go (fun t k => XS.ineg X.here X.ex rfl (X.dec d) rfl k) g
theorem o_lneg (X : St K Z own b mx ret rm n0 k j T h) {x : Int64} (d : Isn b pc (.lneg) 1 pc') (g : Go K n0 kc kj Q T pc' Ls (.long (-x) :: rest)) : Go K n0 kc kj Q T pc Ls (.long x :: rest) := by
  obtain ⟨d, rfl⟩ := d; exact o_go (fun t k => XT.lneg X.here X.ex rfl (X.dec d) rfl k) g
theorem o_iload_n (X : St K Z own b mx ret rm n0 k j T h) {i : Fin 4} {v : Int32} (d : Isn b pc (.iload_n i) 1 pc') (hl : Ls[i.val]? = some (.val (.int v))) (g : Go K n0 kc kj Q T pc' Ls (.int v :: st)) : Go K n0 kc kj Q T pc Ls (st) := by
  obtain ⟨d, rfl⟩ := d; exact o_go (fun t k => XS.iloadN X.here X.ex rfl (X.dec d) hl k) g
theorem o_iload (X : St K Z own b mx ret rm n0 k j T h) {i : Nat} {v : Int32} (d : Isn b pc (.iload i) 2 pc') (hl : Ls[i]? = some (.val (.int v))) (g : Go K n0 kc kj Q T pc' Ls (.int v :: st)) : Go K n0 kc kj Q T pc Ls (st) := by
  obtain ⟨d, rfl⟩ := d; exact o_go (fun t k => XS.iload X.here X.ex rfl (X.dec d) hl k) g
theorem o_lload_n (X : St K Z own b mx ret rm n0 k j T h) {i : Fin 4} {v : Int64} (d : Isn b pc (.lload_n i) 1 pc') (hl : Ls[i.val]? = some (.val (.long v))) (g : Go K n0 kc kj Q T pc' Ls (.long v :: st)) : Go K n0 kc kj Q T pc Ls (st) := by
  obtain ⟨d, rfl⟩ := d; exact o_go (fun t k => XT.lloadN X.here X.ex rfl (X.dec d) hl k) g
theorem o_lload (X : St K Z own b mx ret rm n0 k j T h) {i : Nat} {v : Int64} (d : Isn b pc (.lload i) 2 pc') (hl : Ls[i]? = some (.val (.long v))) (g : Go K n0 kc kj Q T pc' Ls (.long v :: st)) : Go K n0 kc kj Q T pc Ls (st) := by
  obtain ⟨d, rfl⟩ := d; exact o_go (fun t k => XT.lload X.here X.ex rfl (X.dec d) hl k) g
theorem o_aload_n (X : St K Z own b mx ret rm n0 k j T h) {i : Fin 4} {v : Value} (d : Isn b pc (.aload_n i) 1 pc') (hl : Ls[i.val]? = some (.val v)) (hv : v.isRef = true) (g : Go K n0 kc kj Q T pc' Ls (v :: st)) : Go K n0 kc kj Q T pc Ls (st) := by
  obtain ⟨d, rfl⟩ := d; exact o_go (fun t k => XS.aloadN X.here X.ex rfl (X.dec d) hl hv k) g
theorem o_aload (X : St K Z own b mx ret rm n0 k j T h) {i : Nat} {v : Value} (d : Isn b pc (.aload i) 2 pc') (hl : Ls[i]? = some (.val v)) (hv : v.isRef = true) (g : Go K n0 kc kj Q T pc' Ls (v :: st)) : Go K n0 kc kj Q T pc Ls (st) := by
  obtain ⟨d, rfl⟩ := d; exact o_go (fun t k => XS.aload X.here X.ex rfl (X.dec d) hl hv k) g
theorem o_istore_n (X : St K Z own b mx ret rm n0 k j T h) {i : Fin 4} {x : Int32} (d : Isn b pc (.istore_n i) 1 pc') (hl : storeLocals Ls i.val (.int x) = some Ls') (g : Go K n0 kc kj Q T pc' Ls' (rest)) : Go K n0 kc kj Q T pc Ls (.int x :: rest) := by
  obtain ⟨d, rfl⟩ := d; exact o_go (fun t k => XS.istoreN X.here X.ex rfl (X.dec d) rfl hl k) g
theorem o_istore (X : St K Z own b mx ret rm n0 k j T h) {i : Nat} {x : Int32} (d : Isn b pc (.istore i) 2 pc') (hl : storeLocals Ls i (.int x) = some Ls') (g : Go K n0 kc kj Q T pc' Ls' (rest)) : Go K n0 kc kj Q T pc Ls (.int x :: rest) := by
  obtain ⟨d, rfl⟩ := d; exact o_go (fun t k => XS.istore X.here X.ex rfl (X.dec d) rfl hl k) g
theorem o_lstore_n (X : St K Z own b mx ret rm n0 k j T h) {i : Fin 4} {x : Int64} (d : Isn b pc (.lstore_n i) 1 pc') (hl : storeLocals Ls i.val (.long x) = some Ls') (g : Go K n0 kc kj Q T pc' Ls' (rest)) : Go K n0 kc kj Q T pc Ls (.long x :: rest) := by
  obtain ⟨d, rfl⟩ := d; exact o_go (fun t k => XT.lstoreN X.here X.ex rfl (X.dec d) rfl hl k) g
theorem o_lstore (X : St K Z own b mx ret rm n0 k j T h) {i : Nat} {x : Int64} (d : Isn b pc (.lstore i) 2 pc') (hl : storeLocals Ls i (.long x) = some Ls') (g : Go K n0 kc kj Q T pc' Ls' (rest)) : Go K n0 kc kj Q T pc Ls (.long x :: rest) := by
  obtain ⟨d, rfl⟩ := d; exact o_go (fun t k => XT.lstore X.here X.ex rfl (X.dec d) rfl hl k) g
theorem o_astore_n (X : St K Z own b mx ret rm n0 k j T h) {i : Fin 4} {x : Value} (d : Isn b pc (.astore_n i) 1 pc') (hv : x.isRef = true) (hl : storeLocals Ls i.val x = some Ls') (g : Go K n0 kc kj Q T pc' Ls' (rest)) : Go K n0 kc kj Q T pc Ls (x :: rest) := by
  obtain ⟨d, rfl⟩ := d; exact o_go (fun t k => XS.astoreN X.here X.ex rfl (X.dec d) rfl hv hl k) g
theorem o_astore (X : St K Z own b mx ret rm n0 k j T h) {i : Nat} {x : Value} (d : Isn b pc (.astore i) 2 pc') (hv : x.isRef = true) (hl : storeLocals Ls i x = some Ls') (g : Go K n0 kc kj Q T pc' Ls' (rest)) : Go K n0 kc kj Q T pc Ls (x :: rest) := by
  obtain ⟨d, rfl⟩ := d; exact o_go (fun t k => XS.astore X.here X.ex rfl (X.dec d) rfl hv hl k) g
theorem o_iconst (v : Int32) (X : St K Z own b mx ret rm n0 k j T h) {i : Int} (d : Isn b pc (.iconst i) 1 pc') (hv : Int32.ofInt i = v) (g : Go K n0 kc kj Q T pc' Ls (.int v :: st)) : Go K n0 kc kj Q T pc Ls (st) := by
  obtain ⟨d, rfl⟩ := d; exact o_go (fun t k => XT.iconstV X.here X.ex rfl v (X.dec d) hv k) g
theorem o_bipush (v : Int32) (X : St K Z own b mx ret rm n0 k j T h) {i : Int} (d : Isn b pc (.bipush i) 2 pc') (hv : (Int8.ofInt i).toInt32 = v) (g : Go K n0 kc kj Q T pc' Ls (.int v :: st)) : Go K n0 kc kj Q T pc Ls (st) := by
  obtain ⟨d, rfl⟩ := d; exact o_go (fun t k => XT.bipushV X.here X.ex rfl v (X.dec d) hv k) g
theorem o_sipush (v : Int32) (X : St K Z own b mx ret rm n0 k j T h) {i : Int} (d : Isn b pc (.sipush i) 3 pc') (hv : (Int16.ofInt i).toInt32 = v) (g : Go K n0 kc kj Q T pc' Ls (.int v :: st)) : Go K n0 kc kj Q T pc Ls (st) := by
  obtain ⟨d, rfl⟩ := d; exact o_go (fun t k => XT.sipushV X.here X.ex rfl v (X.dec d) hv k) g
theorem o_lconst (v : Int64) (X : St K Z own b mx ret rm n0 k j T h) {i : Fin 2} (d : Isn b pc (.lconst i) 1 pc') (hv : Int64.ofNat i = v) (g : Go K n0 kc kj Q T pc' Ls (.long v :: st)) : Go K n0 kc kj Q T pc Ls (st) := by
  obtain ⟨d, rfl⟩ := d; exact o_go (fun t k => XT.lconstV X.here X.ex rfl v (X.dec d) hv k) g
theorem o_aconst_null (X : St K Z own b mx ret rm n0 k j T h)  (d : Isn b pc (.aconst_null) 1 pc') (g : Go K n0 kc kj Q T pc' Ls (.null :: st)) : Go K n0 kc kj Q T pc Ls (st) := by
  obtain ⟨d, rfl⟩ := d; exact o_go (fun t k => XS.aconstNull X.here X.ex rfl (X.dec d)  k) g
theorem o_iinc (v : Int32) (X : St K Z own b mx ret rm n0 k j T h) {i : Nat} {cst : Int} {x : Int32} (d : Isn b pc (.iinc i cst) 3 pc') (hv : Int32.ofInt cst = v) (hl : Ls[i]? = some (.val (.int x))) (hl' : storeLocals Ls i (.int (x + v)) = some Ls') (g : Go K n0 kc kj Q T pc' Ls' (st)) : Go K n0 kc kj Q T pc Ls (st) := by
  obtain ⟨d, rfl⟩ := d; exact o_go (fun t k => XT.iincV X.here X.ex rfl v (X.dec d) hv hl hl' k) g
theorem o_ldc (X : St K Z own b mx ret rm n0 k j T h) {i : Nat} {v : Int32} (d : Isn b pc (.ldc i) 2 pc') (wd : (Jvm.Cond.constant own i v).before a0 Z = true) (g : Go K n0 kc kj Q T pc' Ls (.int v :: st)) : Go K n0 kc kj Q T pc Ls (st) := by
  obtain ⟨d, rfl⟩ := d; obtain ⟨_, S, _⟩ := X.sd; exact o_go (fun t k => S.ldcI X.ex X.ow (mvT X.wZ wd) rfl (X.dec d) k) g
theorem o_ldc2 (X : St K Z own b mx ret rm n0 k j T h) {i : Nat} {v : Int64} (d : Isn b pc (.ldc2_w i) 3 pc') (wd : (Jvm.Cond.constantLong own i v).before a0 Z = true) (g : Go K n0 kc kj Q T pc' Ls (.long v :: st)) : Go K n0 kc kj Q T pc Ls (st) := by
  obtain ⟨d, rfl⟩ := d; obtain ⟨_, S, _⟩ := X.sd; exact o_go (fun t k => S.ldc2J X.ex X.ow (mvT X.wZ wd) rfl (X.dec d) k) g
theorem o_dup (X : St K Z own b mx ret rm n0 k j T h) {x : Value} (d : Isn b pc (.dup) 1 pc') (hc : x.category = 1) (g : Go K n0 kc kj Q T pc' Ls (x :: x :: rest)) : Go K n0 kc kj Q T pc Ls (x :: rest) := by
  obtain ⟨d, rfl⟩ := d; exact o_go (fun t k => XS.dup X.here X.ex rfl (X.dec d) rfl hc k) g
theorem o_pop (X : St K Z own b mx ret rm n0 k j T h) {x : Value} (d : Isn b pc (.pop) 1 pc') (hc : x.category = 1) (g : Go K n0 kc kj Q T pc' Ls (rest)) : Go K n0 kc kj Q T pc Ls (x :: rest) := by
  obtain ⟨d, rfl⟩ := d; exact o_go (fun t k => XT.pop X.here X.ex rfl (X.dec d) rfl hc k) g
theorem o_dup2 (X : St K Z own b mx ret rm n0 k j T h) {x y : Value} (d : Isn b pc (.dup2) 1 pc') (hc : x.category = 1) (hc' : y.category = 1) (g : Go K n0 kc kj Q T pc' Ls (x :: y :: x :: y :: rest)) : Go K n0 kc kj Q T pc Ls (x :: y :: rest) := by
  obtain ⟨d, rfl⟩ := d; exact o_go (fun t k => XT.dup2 X.here X.ex rfl (X.dec d) rfl hc hc' k) g
theorem o_dup_x1 (X : St K Z own b mx ret rm n0 k j T h) {x y : Value} (d : Isn b pc (.dup_x1) 1 pc') (hc : x.category = 1) (hc' : y.category = 1) (g : Go K n0 kc kj Q T pc' Ls (x :: y :: x :: rest)) : Go K n0 kc kj Q T pc Ls (x :: y :: rest) := by
  obtain ⟨d, rfl⟩ := d; exact o_go (fun t k => XT.dupX1 X.here X.ex rfl (X.dec d) rfl hc hc' k) g
theorem o_dup2L (X : St K Z own b mx ret rm n0 k j T h) {x : Int64} (d : Isn b pc (.dup2) 1 pc') (g : Go K n0 kc kj Q T pc' Ls (.long x :: .long x :: rest)) : Go K n0 kc kj Q T pc Ls (.long x :: rest) := by
  obtain ⟨d, rfl⟩ := d; exact o_go (fun t k => XT.dup2L X.here X.ex rfl (X.dec d) rfl k) g
theorem o_goto (X : St K Z own b mx ret rm n0 k j T h) {o : Int} (d : Brn b pc (.goto o) o pc' tg) (g : Go K n0 kc kj Q T tg Ls (st)) : Go K n0 kc kj Q T pc Ls (st) := by
  obtain ⟨d, rfl, h1, h2⟩ := d; exact o_go (fun t k => XS.goto X.here X.ex rfl rfl (X.dec d) h1 h2 k) g
theorem o_icmp_eq_t (X : St K Z own b mx ret rm n0 k j T h) {x y : Int32} {o : Int} (d : Brn b pc (.if_icmp .eq o) o pc' tg) (q : x = y) (g : Go K n0 kc kj Q T tg Ls (rest)) : Go K n0 kc kj Q T pc Ls (.int y :: .int x :: rest) := by
  obtain ⟨d, rfl, h1, h2⟩ := d; exact o_go (fun t k => XS.icmpYes X.here X.ex rfl rfl (X.dec d) rfl (XT.ii_eq_t q) h1 h2 k) g
theorem o_icmp_eq_f (X : St K Z own b mx ret rm n0 k j T h) {x y : Int32} {o : Int} (d : Brn b pc (.if_icmp .eq o) o pc' tg) (q : ¬ x = y) (g : Go K n0 kc kj Q T pc' Ls (rest)) : Go K n0 kc kj Q T pc Ls (.int y :: .int x :: rest) := by
  obtain ⟨d, rfl, h1, h2⟩ := d; exact o_go (fun t k => XS.icmpNo X.here X.ex rfl (X.dec d) rfl (XT.ii_eq_f q) k) g
theorem o_icmp_eq (X : St K Z own b mx ret rm n0 k j T h) {x y : Int32} {o : Int} (d : Brn b pc (.if_icmp .eq o) o pc' tg) (gt : x = y → Go K n0 kc kj Q T tg Ls (rest)) (gf : ¬ x = y → Go K n0 kc kj Q T pc' Ls (rest)) : Go K n0 kc kj Q T pc Ls (.int y :: .int x :: rest) := by
  by_cases q : x = y
  · exact o_icmp_eq_t X d q (gt q)
  · exact o_icmp_eq_f X d q (gf q)
theorem o_if_eq_t (X : St K Z own b mx ret rm n0 k j T h) {x : Int32} {o : Int} (d : Brn b pc (.ifCond .eq o) o pc' tg) (q : x = 0) (g : Go K n0 kc kj Q T tg Ls (rest)) : Go K n0 kc kj Q T pc Ls (.int x :: rest) := by
  obtain ⟨d, rfl, h1, h2⟩ := d; exact o_go (fun t k => XS.ifYes X.here X.ex rfl rfl (X.dec d) rfl (XT.i0_eq_t q) h1 h2 k) g
theorem o_if_eq_f (X : St K Z own b mx ret rm n0 k j T h) {x : Int32} {o : Int} (d : Brn b pc (.ifCond .eq o) o pc' tg) (q : ¬ x = 0) (g : Go K n0 kc kj Q T pc' Ls (rest)) : Go K n0 kc kj Q T pc Ls (.int x :: rest) := by
  obtain ⟨d, rfl, h1, h2⟩ := d; exact o_go (fun t k => XS.ifNo X.here X.ex rfl (X.dec d) rfl (XT.i0_eq_f q) k) g
theorem o_if_eq (X : St K Z own b mx ret rm n0 k j T h) {x : Int32} {o : Int} (d : Brn b pc (.ifCond .eq o) o pc' tg) (gt : x = 0 → Go K n0 kc kj Q T tg Ls (rest)) (gf : ¬ x = 0 → Go K n0 kc kj Q T pc' Ls (rest)) : Go K n0 kc kj Q T pc Ls (.int x :: rest) := by
  by_cases q : x = 0
  · exact o_if_eq_t X d q (gt q)
  · exact o_if_eq_f X d q (gf q)
theorem o_lif_eq_t (X : St K Z own b mx ret rm n0 k j T h) {x y : Int64} {o : Int} (d : Brn b pc (.ifCond .eq o) o pc' tg) (q : x = y) (g : Go K n0 kc kj Q T tg Ls (rest)) : Go K n0 kc kj Q T pc Ls (.int (XT.cmpL x y) :: rest) := by
  obtain ⟨d, rfl, h1, h2⟩ := d; exact o_go (fun t k => XS.ifYes X.here X.ex rfl rfl (X.dec d) rfl (XT.ll_eq_t q) h1 h2 k) g
theorem o_lif_eq_f (X : St K Z own b mx ret rm n0 k j T h) {x y : Int64} {o : Int} (d : Brn b pc (.ifCond .eq o) o pc' tg) (q : ¬ x = y) (g : Go K n0 kc kj Q T pc' Ls (rest)) : Go K n0 kc kj Q T pc Ls (.int (XT.cmpL x y) :: rest) := by
  obtain ⟨d, rfl, h1, h2⟩ := d; exact o_go (fun t k => XS.ifNo X.here X.ex rfl (X.dec d) rfl (XT.ll_eq_f q) k) g
theorem o_lif_eq (X : St K Z own b mx ret rm n0 k j T h) {x y : Int64} {o : Int} (d : Brn b pc (.ifCond .eq o) o pc' tg) (gt : x = y → Go K n0 kc kj Q T tg Ls (rest)) (gf : ¬ x = y → Go K n0 kc kj Q T pc' Ls (rest)) : Go K n0 kc kj Q T pc Ls (.int (XT.cmpL x y) :: rest) := by
  by_cases q : x = y
  · exact o_lif_eq_t X d q (gt q)
  · exact o_lif_eq_f X d q (gf q)
theorem o_icmp_ne_t (X : St K Z own b mx ret rm n0 k j T h) {x y : Int32} {o : Int} (d : Brn b pc (.if_icmp .ne o) o pc' tg) (q : ¬ x = y) (g : Go K n0 kc kj Q T tg Ls (rest)) : Go K n0 kc kj Q T pc Ls (.int y :: .int x :: rest) := by
  obtain ⟨d, rfl, h1, h2⟩ := d; exact o_go (fun t k => XS.icmpYes X.here X.ex rfl rfl (X.dec d) rfl (XT.ii_ne_t q) h1 h2 k) g
theorem o_icmp_ne_f (X : St K Z own b mx ret rm n0 k j T h) {x y : Int32} {o : Int} (d : Brn b pc (.if_icmp .ne o) o pc' tg) (q : x = y) (g : Go K n0 kc kj Q T pc' Ls (rest)) : Go K n0 kc kj Q T pc Ls (.int y :: .int x :: rest) := by
  obtain ⟨d, rfl, h1, h2⟩ := d; exact o_go (fun t k => XS.icmpNo X.here X.ex rfl (X.dec d) rfl (XT.ii_ne_f q) k) g
theorem o_icmp_ne (X : St K Z own b mx ret rm n0 k j T h) {x y : Int32} {o : Int} (d : Brn b pc (.if_icmp .ne o) o pc' tg) (gt : ¬ x = y → Go K n0 kc kj Q T tg Ls (rest)) (gf : x = y → Go K n0 kc kj Q T pc' Ls (rest)) : Go K n0 kc kj Q T pc Ls (.int y :: .int x :: rest) := by
  by_cases q : x = y
  · exact o_icmp_ne_f X d q (gf q)
  · exact o_icmp_ne_t X d q (gt q)
theorem o_if_ne_t (X : St K Z own b mx ret rm n0 k j T h) {x : Int32} {o : Int} (d : Brn b pc (.ifCond .ne o) o pc' tg) (q : ¬ x = 0) (g : Go K n0 kc kj Q T tg Ls (rest)) : Go K n0 kc kj Q T pc Ls (.int x :: rest) := by
  obtain ⟨d, rfl, h1, h2⟩ := d; exact o_go (fun t k => XS.ifYes X.here X.ex rfl rfl (X.dec d) rfl (XT.i0_ne_t q) h1 h2 k) g
theorem o_if_ne_f (X : St K Z own b mx ret rm n0 k j T h) {x : Int32} {o : Int} (d : Brn b pc (.ifCond .ne o) o pc' tg) (q : x = 0) (g : Go K n0 kc kj Q T pc' Ls (rest)) : Go K n0 kc kj Q T pc Ls (.int x :: rest) := by
  obtain ⟨d, rfl, h1, h2⟩ := d; exact o_go (fun t k => XS.ifNo X.here X.ex rfl (X.dec d) rfl (XT.i0_ne_f q) k) g
theorem o_if_ne (X : St K Z own b mx ret rm n0 k j T h) {x : Int32} {o : Int} (d : Brn b pc (.ifCond .ne o) o pc' tg) (gt : ¬ x = 0 → Go K n0 kc kj Q T tg Ls (rest)) (gf : x = 0 → Go K n0 kc kj Q T pc' Ls (rest)) : Go K n0 kc kj Q T pc Ls (.int x :: rest) := by
  by_cases q : x = 0
  · exact o_if_ne_f X d q (gf q)
  · exact o_if_ne_t X d q (gt q)
theorem o_lif_ne_t (X : St K Z own b mx ret rm n0 k j T h) {x y : Int64} {o : Int} (d : Brn b pc (.ifCond .ne o) o pc' tg) (q : ¬ x = y) (g : Go K n0 kc kj Q T tg Ls (rest)) : Go K n0 kc kj Q T pc Ls (.int (XT.cmpL x y) :: rest) := by
  obtain ⟨d, rfl, h1, h2⟩ := d; exact o_go (fun t k => XS.ifYes X.here X.ex rfl rfl (X.dec d) rfl (XT.ll_ne_t q) h1 h2 k) g
theorem o_lif_ne_f (X : St K Z own b mx ret rm n0 k j T h) {x y : Int64} {o : Int} (d : Brn b pc (.ifCond .ne o) o pc' tg) (q : x = y) (g : Go K n0 kc kj Q T pc' Ls (rest)) : Go K n0 kc kj Q T pc Ls (.int (XT.cmpL x y) :: rest) := by
  obtain ⟨d, rfl, h1, h2⟩ := d; exact o_go (fun t k => XS.ifNo X.here X.ex rfl (X.dec d) rfl (XT.ll_ne_f q) k) g
theorem o_lif_ne (X : St K Z own b mx ret rm n0 k j T h) {x y : Int64} {o : Int} (d : Brn b pc (.ifCond .ne o) o pc' tg) (gt : ¬ x = y → Go K n0 kc kj Q T tg Ls (rest)) (gf : x = y → Go K n0 kc kj Q T pc' Ls (rest)) : Go K n0 kc kj Q T pc Ls (.int (XT.cmpL x y) :: rest) := by
  by_cases q : x = y
  · exact o_lif_ne_f X d q (gf q)
  · exact o_lif_ne_t X d q (gt q)
theorem o_icmp_lt_t (X : St K Z own b mx ret rm n0 k j T h) {x y : Int32} {o : Int} (d : Brn b pc (.if_icmp .lt o) o pc' tg) (q : x < y) (g : Go K n0 kc kj Q T tg Ls (rest)) : Go K n0 kc kj Q T pc Ls (.int y :: .int x :: rest) := by
  obtain ⟨d, rfl, h1, h2⟩ := d; exact o_go (fun t k => XS.icmpYes X.here X.ex rfl rfl (X.dec d) rfl (XT.ii_lt_t q) h1 h2 k) g
theorem o_icmp_lt_f (X : St K Z own b mx ret rm n0 k j T h) {x y : Int32} {o : Int} (d : Brn b pc (.if_icmp .lt o) o pc' tg) (q : ¬ x < y) (g : Go K n0 kc kj Q T pc' Ls (rest)) : Go K n0 kc kj Q T pc Ls (.int y :: .int x :: rest) := by
  obtain ⟨d, rfl, h1, h2⟩ := d; exact o_go (fun t k => XS.icmpNo X.here X.ex rfl (X.dec d) rfl (XT.ii_lt_f q) k) g
theorem o_icmp_lt (X : St K Z own b mx ret rm n0 k j T h) {x y : Int32} {o : Int} (d : Brn b pc (.if_icmp .lt o) o pc' tg) (gt : x < y → Go K n0 kc kj Q T tg Ls (rest)) (gf : ¬ x < y → Go K n0 kc kj Q T pc' Ls (rest)) : Go K n0 kc kj Q T pc Ls (.int y :: .int x :: rest) := by
  by_cases q : x < y
  · exact o_icmp_lt_t X d q (gt q)
  · exact o_icmp_lt_f X d q (gf q)
theorem o_if_lt_t (X : St K Z own b mx ret rm n0 k j T h) {x : Int32} {o : Int} (d : Brn b pc (.ifCond .lt o) o pc' tg) (q : x < 0) (g : Go K n0 kc kj Q T tg Ls (rest)) : Go K n0 kc kj Q T pc Ls (.int x :: rest) := by
  obtain ⟨d, rfl, h1, h2⟩ := d; exact o_go (fun t k => XS.ifYes X.here X.ex rfl rfl (X.dec d) rfl (XT.i0_lt_t q) h1 h2 k) g
theorem o_if_lt_f (X : St K Z own b mx ret rm n0 k j T h) {x : Int32} {o : Int} (d : Brn b pc (.ifCond .lt o) o pc' tg) (q : ¬ x < 0) (g : Go K n0 kc kj Q T pc' Ls (rest)) : Go K n0 kc kj Q T pc Ls (.int x :: rest) := by
  obtain ⟨d, rfl, h1, h2⟩ := d; exact o_go (fun t k => XS.ifNo X.here X.ex rfl (X.dec d) rfl (XT.i0_lt_f q) k) g
theorem o_if_lt (X : St K Z own b mx ret rm n0 k j T h) {x : Int32} {o : Int} (d : Brn b pc (.ifCond .lt o) o pc' tg) (gt : x < 0 → Go K n0 kc kj Q T tg Ls (rest)) (gf : ¬ x < 0 → Go K n0 kc kj Q T pc' Ls (rest)) : Go K n0 kc kj Q T pc Ls (.int x :: rest) := by
  by_cases q : x < 0
  · exact o_if_lt_t X d q (gt q)
  · exact o_if_lt_f X d q (gf q)
theorem o_lif_lt_t (X : St K Z own b mx ret rm n0 k j T h) {x y : Int64} {o : Int} (d : Brn b pc (.ifCond .lt o) o pc' tg) (q : x < y) (g : Go K n0 kc kj Q T tg Ls (rest)) : Go K n0 kc kj Q T pc Ls (.int (XT.cmpL x y) :: rest) := by
  obtain ⟨d, rfl, h1, h2⟩ := d; exact o_go (fun t k => XS.ifYes X.here X.ex rfl rfl (X.dec d) rfl (XT.ll_lt_t q) h1 h2 k) g
theorem o_lif_lt_f (X : St K Z own b mx ret rm n0 k j T h) {x y : Int64} {o : Int} (d : Brn b pc (.ifCond .lt o) o pc' tg) (q : ¬ x < y) (g : Go K n0 kc kj Q T pc' Ls (rest)) : Go K n0 kc kj Q T pc Ls (.int (XT.cmpL x y) :: rest) := by
  obtain ⟨d, rfl, h1, h2⟩ := d; exact o_go (fun t k => XS.ifNo X.here X.ex rfl (X.dec d) rfl (XT.ll_lt_f q) k) g
theorem o_lif_lt (X : St K Z own b mx ret rm n0 k j T h) {x y : Int64} {o : Int} (d : Brn b pc (.ifCond .lt o) o pc' tg) (gt : x < y → Go K n0 kc kj Q T tg Ls (rest)) (gf : ¬ x < y → Go K n0 kc kj Q T pc' Ls (rest)) : Go K n0 kc kj Q T pc Ls (.int (XT.cmpL x y) :: rest) := by
  by_cases q : x < y
  · exact o_lif_lt_t X d q (gt q)
  · exact o_lif_lt_f X d q (gf q)
theorem o_icmp_ge_t (X : St K Z own b mx ret rm n0 k j T h) {x y : Int32} {o : Int} (d : Brn b pc (.if_icmp .ge o) o pc' tg) (q : ¬ x < y) (g : Go K n0 kc kj Q T tg Ls (rest)) : Go K n0 kc kj Q T pc Ls (.int y :: .int x :: rest) := by
  obtain ⟨d, rfl, h1, h2⟩ := d; exact o_go (fun t k => XS.icmpYes X.here X.ex rfl rfl (X.dec d) rfl (XT.ii_ge_t q) h1 h2 k) g
theorem o_icmp_ge_f (X : St K Z own b mx ret rm n0 k j T h) {x y : Int32} {o : Int} (d : Brn b pc (.if_icmp .ge o) o pc' tg) (q : x < y) (g : Go K n0 kc kj Q T pc' Ls (rest)) : Go K n0 kc kj Q T pc Ls (.int y :: .int x :: rest) := by
  obtain ⟨d, rfl, h1, h2⟩ := d; exact o_go (fun t k => XS.icmpNo X.here X.ex rfl (X.dec d) rfl (XT.ii_ge_f q) k) g
theorem o_icmp_ge (X : St K Z own b mx ret rm n0 k j T h) {x y : Int32} {o : Int} (d : Brn b pc (.if_icmp .ge o) o pc' tg) (gt : ¬ x < y → Go K n0 kc kj Q T tg Ls (rest)) (gf : x < y → Go K n0 kc kj Q T pc' Ls (rest)) : Go K n0 kc kj Q T pc Ls (.int y :: .int x :: rest) := by
  by_cases q : x < y
  · exact o_icmp_ge_f X d q (gf q)
  · exact o_icmp_ge_t X d q (gt q)
theorem o_if_ge_t (X : St K Z own b mx ret rm n0 k j T h) {x : Int32} {o : Int} (d : Brn b pc (.ifCond .ge o) o pc' tg) (q : ¬ x < 0) (g : Go K n0 kc kj Q T tg Ls (rest)) : Go K n0 kc kj Q T pc Ls (.int x :: rest) := by
  obtain ⟨d, rfl, h1, h2⟩ := d; exact o_go (fun t k => XS.ifYes X.here X.ex rfl rfl (X.dec d) rfl (XT.i0_ge_t q) h1 h2 k) g
theorem o_if_ge_f (X : St K Z own b mx ret rm n0 k j T h) {x : Int32} {o : Int} (d : Brn b pc (.ifCond .ge o) o pc' tg) (q : x < 0) (g : Go K n0 kc kj Q T pc' Ls (rest)) : Go K n0 kc kj Q T pc Ls (.int x :: rest) := by
  obtain ⟨d, rfl, h1, h2⟩ := d; exact o_go (fun t k => XS.ifNo X.here X.ex rfl (X.dec d) rfl (XT.i0_ge_f q) k) g
theorem o_if_ge (X : St K Z own b mx ret rm n0 k j T h) {x : Int32} {o : Int} (d : Brn b pc (.ifCond .ge o) o pc' tg) (gt : ¬ x < 0 → Go K n0 kc kj Q T tg Ls (rest)) (gf : x < 0 → Go K n0 kc kj Q T pc' Ls (rest)) : Go K n0 kc kj Q T pc Ls (.int x :: rest) := by
  by_cases q : x < 0
  · exact o_if_ge_f X d q (gf q)
  · exact o_if_ge_t X d q (gt q)
theorem o_lif_ge_t (X : St K Z own b mx ret rm n0 k j T h) {x y : Int64} {o : Int} (d : Brn b pc (.ifCond .ge o) o pc' tg) (q : ¬ x < y) (g : Go K n0 kc kj Q T tg Ls (rest)) : Go K n0 kc kj Q T pc Ls (.int (XT.cmpL x y) :: rest) := by
  obtain ⟨d, rfl, h1, h2⟩ := d; exact o_go (fun t k => XS.ifYes X.here X.ex rfl rfl (X.dec d) rfl (XT.ll_ge_t q) h1 h2 k) g
theorem o_lif_ge_f (X : St K Z own b mx ret rm n0 k j T h) {x y : Int64} {o : Int} (d : Brn b pc (.ifCond .ge o) o pc' tg) (q : x < y) (g : Go K n0 kc kj Q T pc' Ls (rest)) : Go K n0 kc kj Q T pc Ls (.int (XT.cmpL x y) :: rest) := by
  obtain ⟨d, rfl, h1, h2⟩ := d; exact o_go (fun t k => XS.ifNo X.here X.ex rfl (X.dec d) rfl (XT.ll_ge_f q) k) g
theorem o_lif_ge (X : St K Z own b mx ret rm n0 k j T h) {x y : Int64} {o : Int} (d : Brn b pc (.ifCond .ge o) o pc' tg) (gt : ¬ x < y → Go K n0 kc kj Q T tg Ls (rest)) (gf : x < y → Go K n0 kc kj Q T pc' Ls (rest)) : Go K n0 kc kj Q T pc Ls (.int (XT.cmpL x y) :: rest) := by
  by_cases q : x < y
  · exact o_lif_ge_f X d q (gf q)
  · exact o_lif_ge_t X d q (gt q)
theorem o_icmp_gt_t (X : St K Z own b mx ret rm n0 k j T h) {x y : Int32} {o : Int} (d : Brn b pc (.if_icmp .gt o) o pc' tg) (q : y < x) (g : Go K n0 kc kj Q T tg Ls (rest)) : Go K n0 kc kj Q T pc Ls (.int y :: .int x :: rest) := by
  obtain ⟨d, rfl, h1, h2⟩ := d; exact o_go (fun t k => XS.icmpYes X.here X.ex rfl rfl (X.dec d) rfl (XT.ii_gt_t q) h1 h2 k) g
theorem o_icmp_gt_f (X : St K Z own b mx ret rm n0 k j T h) {x y : Int32} {o : Int} (d : Brn b pc (.if_icmp .gt o) o pc' tg) (q : ¬ y < x) (g : Go K n0 kc kj Q T pc' Ls (rest)) : Go K n0 kc kj Q T pc Ls (.int y :: .int x :: rest) := by
  obtain ⟨d, rfl, h1, h2⟩ := d; exact o_go (fun t k => XS.icmpNo X.here X.ex rfl (X.dec d) rfl (XT.ii_gt_f q) k) g
theorem o_icmp_gt (X : St K Z own b mx ret rm n0 k j T h) {x y : Int32} {o : Int} (d : Brn b pc (.if_icmp .gt o) o pc' tg) (gt : y < x → Go K n0 kc kj Q T tg Ls (rest)) (gf : ¬ y < x → Go K n0 kc kj Q T pc' Ls (rest)) : Go K n0 kc kj Q T pc Ls (.int y :: .int x :: rest) := by
  by_cases q : y < x
  · exact o_icmp_gt_t X d q (gt q)
  · exact o_icmp_gt_f X d q (gf q)
theorem o_if_gt_t (X : St K Z own b mx ret rm n0 k j T h) {x : Int32} {o : Int} (d : Brn b pc (.ifCond .gt o) o pc' tg) (q : 0 < x) (g : Go K n0 kc kj Q T tg Ls (rest)) : Go K n0 kc kj Q T pc Ls (.int x :: rest) := by
  obtain ⟨d, rfl, h1, h2⟩ := d; exact o_go (fun t k => XS.ifYes X.here X.ex rfl rfl (X.dec d) rfl (XT.i0_gt_t q) h1 h2 k) g
theorem o_if_gt_f (X : St K Z own b mx ret rm n0 k j T h) {x : Int32} {o : Int} (d : Brn b pc (.ifCond .gt o) o pc' tg) (q : ¬ 0 < x) (g : Go K n0 kc kj Q T pc' Ls (rest)) : Go K n0 kc kj Q T pc Ls (.int x :: rest) := by
  obtain ⟨d, rfl, h1, h2⟩ := d; exact o_go (fun t k => XS.ifNo X.here X.ex rfl (X.dec d) rfl (XT.i0_gt_f q) k) g
theorem o_if_gt (X : St K Z own b mx ret rm n0 k j T h) {x : Int32} {o : Int} (d : Brn b pc (.ifCond .gt o) o pc' tg) (gt : 0 < x → Go K n0 kc kj Q T tg Ls (rest)) (gf : ¬ 0 < x → Go K n0 kc kj Q T pc' Ls (rest)) : Go K n0 kc kj Q T pc Ls (.int x :: rest) := by
  by_cases q : 0 < x
  · exact o_if_gt_t X d q (gt q)
  · exact o_if_gt_f X d q (gf q)
theorem o_lif_gt_t (X : St K Z own b mx ret rm n0 k j T h) {x y : Int64} {o : Int} (d : Brn b pc (.ifCond .gt o) o pc' tg) (q : y < x) (g : Go K n0 kc kj Q T tg Ls (rest)) : Go K n0 kc kj Q T pc Ls (.int (XT.cmpL x y) :: rest) := by
  obtain ⟨d, rfl, h1, h2⟩ := d; exact o_go (fun t k => XS.ifYes X.here X.ex rfl rfl (X.dec d) rfl (XT.ll_gt_t q) h1 h2 k) g
theorem o_lif_gt_f (X : St K Z own b mx ret rm n0 k j T h) {x y : Int64} {o : Int} (d : Brn b pc (.ifCond .gt o) o pc' tg) (q : ¬ y < x) (g : Go K n0 kc kj Q T pc' Ls (rest)) : Go K n0 kc kj Q T pc Ls (.int (XT.cmpL x y) :: rest) := by
  obtain ⟨d, rfl, h1, h2⟩ := d; exact o_go (fun t k => XS.ifNo X.here X.ex rfl (X.dec d) rfl (XT.ll_gt_f q) k) g
theorem o_lif_gt (X : St K Z own b mx ret rm n0 k j T h) {x y : Int64} {o : Int} (d : Brn b pc (.ifCond .gt o) o pc' tg) (gt : y < x → Go K n0 kc kj Q T tg Ls (rest)) (gf : ¬ y < x → Go K n0 kc kj Q T pc' Ls (rest)) : Go K n0 kc kj Q T pc Ls (.int (XT.cmpL x y) :: rest) := by
  by_cases q : y < x
  · exact o_lif_gt_t X d q (gt q)
  · exact o_lif_gt_f X d q (gf q)
theorem o_icmp_le_t (X : St K Z own b mx ret rm n0 k j T h) {x y : Int32} {o : Int} (d : Brn b pc (.if_icmp .le o) o pc' tg) (q : ¬ y < x) (g : Go K n0 kc kj Q T tg Ls (rest)) : Go K n0 kc kj Q T pc Ls (.int y :: .int x :: rest) := by
  obtain ⟨d, rfl, h1, h2⟩ := d; exact o_go (fun t k => XS.icmpYes X.here X.ex rfl rfl (X.dec d) rfl (XT.ii_le_t q) h1 h2 k) g
theorem o_icmp_le_f (X : St K Z own b mx ret rm n0 k j T h) {x y : Int32} {o : Int} (d : Brn b pc (.if_icmp .le o) o pc' tg) (q : y < x) (g : Go K n0 kc kj Q T pc' Ls (rest)) : Go K n0 kc kj Q T pc Ls (.int y :: .int x :: rest) := by
  obtain ⟨d, rfl, h1, h2⟩ := d; exact o_go (fun t k => XS.icmpNo X.here X.ex rfl (X.dec d) rfl (XT.ii_le_f q) k) g
theorem o_icmp_le (X : St K Z own b mx ret rm n0 k j T h) {x y : Int32} {o : Int} (d : Brn b pc (.if_icmp .le o) o pc' tg) (gt : ¬ y < x → Go K n0 kc kj Q T tg Ls (rest)) (gf : y < x → Go K n0 kc kj Q T pc' Ls (rest)) : Go K n0 kc kj Q T pc Ls (.int y :: .int x :: rest) := by
  by_cases q : y < x
  · exact o_icmp_le_f X d q (gf q)
  · exact o_icmp_le_t X d q (gt q)
theorem o_if_le_t (X : St K Z own b mx ret rm n0 k j T h) {x : Int32} {o : Int} (d : Brn b pc (.ifCond .le o) o pc' tg) (q : ¬ 0 < x) (g : Go K n0 kc kj Q T tg Ls (rest)) : Go K n0 kc kj Q T pc Ls (.int x :: rest) := by
  obtain ⟨d, rfl, h1, h2⟩ := d; exact o_go (fun t k => XS.ifYes X.here X.ex rfl rfl (X.dec d) rfl (XT.i0_le_t q) h1 h2 k) g
theorem o_if_le_f (X : St K Z own b mx ret rm n0 k j T h) {x : Int32} {o : Int} (d : Brn b pc (.ifCond .le o) o pc' tg) (q : 0 < x) (g : Go K n0 kc kj Q T pc' Ls (rest)) : Go K n0 kc kj Q T pc Ls (.int x :: rest) := by
  obtain ⟨d, rfl, h1, h2⟩ := d; exact o_go (fun t k => XS.ifNo X.here X.ex rfl (X.dec d) rfl (XT.i0_le_f q) k) g
theorem o_if_le (X : St K Z own b mx ret rm n0 k j T h) {x : Int32} {o : Int} (d : Brn b pc (.ifCond .le o) o pc' tg) (gt : ¬ 0 < x → Go K n0 kc kj Q T tg Ls (rest)) (gf : 0 < x → Go K n0 kc kj Q T pc' Ls (rest)) : Go K n0 kc kj Q T pc Ls (.int x :: rest) := by
  by_cases q : 0 < x
  · exact o_if_le_f X d q (gf q)
  · exact o_if_le_t X d q (gt q)
theorem o_lif_le_t (X : St K Z own b mx ret rm n0 k j T h) {x y : Int64} {o : Int} (d : Brn b pc (.ifCond .le o) o pc' tg) (q : ¬ y < x) (g : Go K n0 kc kj Q T tg Ls (rest)) : Go K n0 kc kj Q T pc Ls (.int (XT.cmpL x y) :: rest) := by
  obtain ⟨d, rfl, h1, h2⟩ := d; exact o_go (fun t k => XS.ifYes X.here X.ex rfl rfl (X.dec d) rfl (XT.ll_le_t q) h1 h2 k) g
theorem o_lif_le_f (X : St K Z own b mx ret rm n0 k j T h) {x y : Int64} {o : Int} (d : Brn b pc (.ifCond .le o) o pc' tg) (q : y < x) (g : Go K n0 kc kj Q T pc' Ls (rest)) : Go K n0 kc kj Q T pc Ls (.int (XT.cmpL x y) :: rest) := by
  obtain ⟨d, rfl, h1, h2⟩ := d; exact o_go (fun t k => XS.ifNo X.here X.ex rfl (X.dec d) rfl (XT.ll_le_f q) k) g
theorem o_lif_le (X : St K Z own b mx ret rm n0 k j T h) {x y : Int64} {o : Int} (d : Brn b pc (.ifCond .le o) o pc' tg) (gt : ¬ y < x → Go K n0 kc kj Q T tg Ls (rest)) (gf : y < x → Go K n0 kc kj Q T pc' Ls (rest)) : Go K n0 kc kj Q T pc Ls (.int (XT.cmpL x y) :: rest) := by
  by_cases q : y < x
  · exact o_lif_le_f X d q (gf q)
  · exact o_lif_le_t X d q (gt q)
theorem o_bool_icmp_eq (X : St K Z own b mx ret rm n0 k j T h) {x y : Int32} {o o2 : Int} {pc2 pc3 pj : Nat} (d : Brn b pc (.if_icmp .eq o) o pc' tg) (d1 : Isn b pc' (.iconst 1) 1 pc2) (d2 : Brn b pc2 (.goto o2) o2 pc3 pj) (d3 : Isn b tg (.iconst 0) 1 pj) (g : Go K n0 kc kj Q T pj Ls (.int (if x = y then 0 else 1) :: rest)) : Go K n0 kc kj Q T pc Ls (.int y :: .int x :: rest) := by
  refine o_icmp_eq X d (fun q => o_iconst 0 X d3 rfl ?_) (fun q => o_iconst 1 X d1 rfl (o_goto X d2 ?_))
  · simpa only [q, if_true, if_false] using g
  · simpa only [q, if_true, if_false] using g
theorem o_bool_if_eq (X : St K Z own b mx ret rm n0 k j T h) {x : Int32} {o o2 : Int} {pc2 pc3 pj : Nat} (d : Brn b pc (.ifCond .eq o) o pc' tg) (d1 : Isn b pc' (.iconst 1) 1 pc2) (d2 : Brn b pc2 (.goto o2) o2 pc3 pj) (d3 : Isn b tg (.iconst 0) 1 pj) (g : Go K n0 kc kj Q T pj Ls (.int (if x = 0 then 0 else 1) :: rest)) : Go K n0 kc kj Q T pc Ls (.int x :: rest) := by
  refine o_if_eq X d (fun q => o_iconst 0 X d3 rfl ?_) (fun q => o_iconst 1 X d1 rfl (o_goto X d2 ?_))
  · simpa only [q, if_true, if_false] using g
  · simpa only [q, if_true, if_false] using g
theorem o_bool_lif_eq (X : St K Z own b mx ret rm n0 k j T h) {x y : Int64} {o o2 : Int} {pc2 pc3 pj : Nat} (d : Brn b pc (.ifCond .eq o) o pc' tg) (d1 : Isn b pc' (.iconst 1) 1 pc2) (d2 : Brn b pc2 (.goto o2) o2 pc3 pj) (d3 : Isn b tg (.iconst 0) 1 pj) (g : Go K n0 kc kj Q T pj Ls (.int (if x = y then 0 else 1) :: rest)) : Go K n0 kc kj Q T pc Ls (.int (XT.cmpL x y) :: rest) := by
  refine o_lif_eq X d (fun q => o_iconst 0 X d3 rfl ?_) (fun q => o_iconst 1 X d1 rfl (o_goto X d2 ?_))
  · simpa only [q, if_true, if_false] using g
  · simpa only [q, if_true, if_false] using g
theorem o_bool_icmp_ne (X : St K Z own b mx ret rm n0 k j T h) {x y : Int32} {o o2 : Int} {pc2 pc3 pj : Nat} (d : Brn b pc (.if_icmp .ne o) o pc' tg) (d1 : Isn b pc' (.iconst 1) 1 pc2) (d2 : Brn b pc2 (.goto o2) o2 pc3 pj) (d3 : Isn b tg (.iconst 0) 1 pj) (g : Go K n0 kc kj Q T pj Ls (.int (if x = y then 1 else 0) :: rest)) : Go K n0 kc kj Q T pc Ls (.int y :: .int x :: rest) := by
  refine o_icmp_ne X d (fun q => o_iconst 0 X d3 rfl ?_) (fun q => o_iconst 1 X d1 rfl (o_goto X d2 ?_))
  · simpa only [q, if_true, if_false] using g
  · simpa only [q, if_true, if_false] using g
theorem o_bool_if_ne (X : St K Z own b mx ret rm n0 k j T h) {x : Int32} {o o2 : Int} {pc2 pc3 pj : Nat} (d : Brn b pc (.ifCond .ne o) o pc' tg) (d1 : Isn b pc' (.iconst 1) 1 pc2) (d2 : Brn b pc2 (.goto o2) o2 pc3 pj) (d3 : Isn b tg (.iconst 0) 1 pj) (g : Go K n0 kc kj Q T pj Ls (.int (if x = 0 then 1 else 0) :: rest)) : Go K n0 kc kj Q T pc Ls (.int x :: rest) := by
  refine o_if_ne X d (fun q => o_iconst 0 X d3 rfl ?_) (fun q => o_iconst 1 X d1 rfl (o_goto X d2 ?_))
  · simpa only [q, if_true, if_false] using g
  · simpa only [q, if_true, if_false] using g
theorem o_bool_lif_ne (X : St K Z own b mx ret rm n0 k j T h) {x y : Int64} {o o2 : Int} {pc2 pc3 pj : Nat} (d : Brn b pc (.ifCond .ne o) o pc' tg) (d1 : Isn b pc' (.iconst 1) 1 pc2) (d2 : Brn b pc2 (.goto o2) o2 pc3 pj) (d3 : Isn b tg (.iconst 0) 1 pj) (g : Go K n0 kc kj Q T pj Ls (.int (if x = y then 1 else 0) :: rest)) : Go K n0 kc kj Q T pc Ls (.int (XT.cmpL x y) :: rest) := by
  refine o_lif_ne X d (fun q => o_iconst 0 X d3 rfl ?_) (fun q => o_iconst 1 X d1 rfl (o_goto X d2 ?_))
  · simpa only [q, if_true, if_false] using g
  · simpa only [q, if_true, if_false] using g
theorem o_bool_icmp_lt (X : St K Z own b mx ret rm n0 k j T h) {x y : Int32} {o o2 : Int} {pc2 pc3 pj : Nat} (d : Brn b pc (.if_icmp .lt o) o pc' tg) (d1 : Isn b pc' (.iconst 1) 1 pc2) (d2 : Brn b pc2 (.goto o2) o2 pc3 pj) (d3 : Isn b tg (.iconst 0) 1 pj) (g : Go K n0 kc kj Q T pj Ls (.int (if x < y then 0 else 1) :: rest)) : Go K n0 kc kj Q T pc Ls (.int y :: .int x :: rest) := by
  refine o_icmp_lt X d (fun q => o_iconst 0 X d3 rfl ?_) (fun q => o_iconst 1 X d1 rfl (o_goto X d2 ?_))
  · simpa only [q, if_true, if_false] using g
  · simpa only [q, if_true, if_false] using g
theorem o_bool_if_lt (X : St K Z own b mx ret rm n0 k j T h) {x : Int32} {o o2 : Int} {pc2 pc3 pj : Nat} (d : Brn b pc (.ifCond .lt o) o pc' tg) (d1 : Isn b pc' (.iconst 1) 1 pc2) (d2 : Brn b pc2 (.goto o2) o2 pc3 pj) (d3 : Isn b tg (.iconst 0) 1 pj) (g : Go K n0 kc kj Q T pj Ls (.int (if x < 0 then 0 else 1) :: rest)) : Go K n0 kc kj Q T pc Ls (.int x :: rest) := by
  refine o_if_lt X d (fun q => o_iconst 0 X d3 rfl ?_) (fun q => o_iconst 1 X d1 rfl (o_goto X d2 ?_))
  · simpa only [q, if_true, if_false] using g
  · simpa only [q, if_true, if_false] using g
theorem o_bool_lif_lt (X : St K Z own b mx ret rm n0 k j T h) {x y : Int64} {o o2 : Int} {pc2 pc3 pj : Nat} (d : Brn b pc (.ifCond .lt o) o pc' tg) (d1 : Isn b pc' (.iconst 1) 1 pc2) (d2 : Brn b pc2 (.goto o2) o2 pc3 pj) (d3 : Isn b tg (.iconst 0) 1 pj) (g : Go K n0 kc kj Q T pj Ls (.int (if x < y then 0 else 1) :: rest)) : Go K n0 kc kj Q T pc Ls (.int (XT.cmpL x y) :: rest) := by
  refine o_lif_lt X d (fun q => o_iconst 0 X d3 rfl ?_) (fun q => o_iconst 1 X d1 rfl (o_goto X d2 ?_))
  · simpa only [q, if_true, if_false] using g
  · simpa only [q, if_true, if_false] using g
theorem o_bool_icmp_ge (X : St K Z own b mx ret rm n0 k j T h) {x y : Int32} {o o2 : Int} {pc2 pc3 pj : Nat} (d : Brn b pc (.if_icmp .ge o) o pc' tg) (d1 : Isn b pc' (.iconst 1) 1 pc2) (d2 : Brn b pc2 (.goto o2) o2 pc3 pj) (d3 : Isn b tg (.iconst 0) 1 pj) (g : Go K n0 kc kj Q T pj Ls (.int (if x < y then 1 else 0) :: rest)) : Go K n0 kc kj Q T pc Ls (.int y :: .int x :: rest) := by
  refine o_icmp_ge X d (fun q => o_iconst 0 X d3 rfl ?_) (fun q => o_iconst 1 X d1 rfl (o_goto X d2 ?_))
  · simpa only [q, if_true, if_false] using g
  · simpa only [q, if_true, if_false] using g
theorem o_bool_if_ge (X : St K Z own b mx ret rm n0 k j T h) {x : Int32} {o o2 : Int} {pc2 pc3 pj : Nat} (d : Brn b pc (.ifCond .ge o) o pc' tg) (d1 : Isn b pc' (.iconst 1) 1 pc2) (d2 : Brn b pc2 (.goto o2) o2 pc3 pj) (d3 : Isn b tg (.iconst 0) 1 pj) (g : Go K n0 kc kj Q T pj Ls (.int (if x < 0 then 1 else 0) :: rest)) : Go K n0 kc kj Q T pc Ls (.int x :: rest) := by
  refine o_if_ge X d (fun q => o_iconst 0 X d3 rfl ?_) (fun q => o_iconst 1 X d1 rfl (o_goto X d2 ?_))
  · simpa only [q, if_true, if_false] using g
  · simpa only [q, if_true, if_false] using g
theorem o_bool_lif_ge (X : St K Z own b mx ret rm n0 k j T h) {x y : Int64} {o o2 : Int} {pc2 pc3 pj : Nat} (d : Brn b pc (.ifCond .ge o) o pc' tg) (d1 : Isn b pc' (.iconst 1) 1 pc2) (d2 : Brn b pc2 (.goto o2) o2 pc3 pj) (d3 : Isn b tg (.iconst 0) 1 pj) (g : Go K n0 kc kj Q T pj Ls (.int (if x < y then 1 else 0) :: rest)) : Go K n0 kc kj Q T pc Ls (.int (XT.cmpL x y) :: rest) := by
  refine o_lif_ge X d (fun q => o_iconst 0 X d3 rfl ?_) (fun q => o_iconst 1 X d1 rfl (o_goto X d2 ?_))
  · simpa only [q, if_true, if_false] using g
  · simpa only [q, if_true, if_false] using g
theorem o_bool_icmp_gt (X : St K Z own b mx ret rm n0 k j T h) {x y : Int32} {o o2 : Int} {pc2 pc3 pj : Nat} (d : Brn b pc (.if_icmp .gt o) o pc' tg) (d1 : Isn b pc' (.iconst 1) 1 pc2) (d2 : Brn b pc2 (.goto o2) o2 pc3 pj) (d3 : Isn b tg (.iconst 0) 1 pj) (g : Go K n0 kc kj Q T pj Ls (.int (if y < x then 0 else 1) :: rest)) : Go K n0 kc kj Q T pc Ls (.int y :: .int x :: rest) := by
  refine o_icmp_gt X d (fun q => o_iconst 0 X d3 rfl ?_) (fun q => o_iconst 1 X d1 rfl (o_goto X d2 ?_))
  · simpa only [q, if_true, if_false] using g
  · simpa only [q, if_true, if_false] using g
theorem o_bool_if_gt (X : St K Z own b mx ret rm n0 k j T h) {x : Int32} {o o2 : Int} {pc2 pc3 pj : Nat} (d : Brn b pc (.ifCond .gt o) o pc' tg) (d1 : Isn b pc' (.iconst 1) 1 pc2) (d2 : Brn b pc2 (.goto o2) o2 pc3 pj) (d3 : Isn b tg (.iconst 0) 1 pj) (g : Go K n0 kc kj Q T pj Ls (.int (if 0 < x then 0 else 1) :: rest)) : Go K n0 kc kj Q T pc Ls (.int x :: rest) := by
  refine o_if_gt X d (fun q => o_iconst 0 X d3 rfl ?_) (fun q => o_iconst 1 X d1 rfl (o_goto X d2 ?_))
  · simpa only [q, if_true, if_false] using g
  · simpa only [q, if_true, if_false] using g
theorem o_bool_lif_gt (X : St K Z own b mx ret rm n0 k j T h) {x y : Int64} {o o2 : Int} {pc2 pc3 pj : Nat} (d : Brn b pc (.ifCond .gt o) o pc' tg) (d1 : Isn b pc' (.iconst 1) 1 pc2) (d2 : Brn b pc2 (.goto o2) o2 pc3 pj) (d3 : Isn b tg (.iconst 0) 1 pj) (g : Go K n0 kc kj Q T pj Ls (.int (if y < x then 0 else 1) :: rest)) : Go K n0 kc kj Q T pc Ls (.int (XT.cmpL x y) :: rest) := by
  refine o_lif_gt X d (fun q => o_iconst 0 X d3 rfl ?_) (fun q => o_iconst 1 X d1 rfl (o_goto X d2 ?_))
  · simpa only [q, if_true, if_false] using g
  · simpa only [q, if_true, if_false] using g
theorem o_bool_icmp_le (X : St K Z own b mx ret rm n0 k j T h) {x y : Int32} {o o2 : Int} {pc2 pc3 pj : Nat} (d : Brn b pc (.if_icmp .le o) o pc' tg) (d1 : Isn b pc' (.iconst 1) 1 pc2) (d2 : Brn b pc2 (.goto o2) o2 pc3 pj) (d3 : Isn b tg (.iconst 0) 1 pj) (g : Go K n0 kc kj Q T pj Ls (.int (if y < x then 1 else 0) :: rest)) : Go K n0 kc kj Q T pc Ls (.int y :: .int x :: rest) := by
  refine o_icmp_le X d (fun q => o_iconst 0 X d3 rfl ?_) (fun q => o_iconst 1 X d1 rfl (o_goto X d2 ?_))
  · simpa only [q, if_true, if_false] using g
  · simpa only [q, if_true, if_false] using g
theorem o_bool_if_le (X : St K Z own b mx ret rm n0 k j T h) {x : Int32} {o o2 : Int} {pc2 pc3 pj : Nat} (d : Brn b pc (.ifCond .le o) o pc' tg) (d1 : Isn b pc' (.iconst 1) 1 pc2) (d2 : Brn b pc2 (.goto o2) o2 pc3 pj) (d3 : Isn b tg (.iconst 0) 1 pj) (g : Go K n0 kc kj Q T pj Ls (.int (if 0 < x then 1 else 0) :: rest)) : Go K n0 kc kj Q T pc Ls (.int x :: rest) := by
  refine o_if_le X d (fun q => o_iconst 0 X d3 rfl ?_) (fun q => o_iconst 1 X d1 rfl (o_goto X d2 ?_))
  · simpa only [q, if_true, if_false] using g
  · simpa only [q, if_true, if_false] using g
theorem o_bool_lif_le (X : St K Z own b mx ret rm n0 k j T h) {x y : Int64} {o o2 : Int} {pc2 pc3 pj : Nat} (d : Brn b pc (.ifCond .le o) o pc' tg) (d1 : Isn b pc' (.iconst 1) 1 pc2) (d2 : Brn b pc2 (.goto o2) o2 pc3 pj) (d3 : Isn b tg (.iconst 0) 1 pj) (g : Go K n0 kc kj Q T pj Ls (.int (if y < x then 1 else 0) :: rest)) : Go K n0 kc kj Q T pc Ls (.int (XT.cmpL x y) :: rest) := by
  refine o_lif_le X d (fun q => o_iconst 0 X d3 rfl ?_) (fun q => o_iconst 1 X d1 rfl (o_goto X d2 ?_))
  · simpa only [q, if_true, if_false] using g
  · simpa only [q, if_true, if_false] using g
theorem o_ifnonnull_r (X : St K Z own b mx ret rm n0 k j T h) {a : Addr} {o : Int} (d : Brn b pc (.ifnonnull o) o pc' tg) (g : Go K n0 kc kj Q T tg Ls (rest)) : Go K n0 kc kj Q T pc Ls (.ref a :: rest) := by
  obtain ⟨d, rfl, h1, h2⟩ := d; exact o_go (fun t k => XT.ifnonnullYes X.here X.ex rfl rfl (X.dec d) rfl h1 h2 k) g
theorem o_ifnonnull_0 (X : St K Z own b mx ret rm n0 k j T h) {o : Int} (d : Brn b pc (.ifnonnull o) o pc' tg) (g : Go K n0 kc kj Q T pc' Ls (rest)) : Go K n0 kc kj Q T pc Ls (.null :: rest) := by
  obtain ⟨d, rfl, h1, h2⟩ := d; exact o_go (fun t k => XT.ifnonnullNo X.here X.ex rfl (X.dec d) rfl k) g
theorem o_ifnull_r (X : St K Z own b mx ret rm n0 k j T h) {a : Addr} {o : Int} (d : Brn b pc (.ifnull o) o pc' tg) (g : Go K n0 kc kj Q T pc' Ls (rest)) : Go K n0 kc kj Q T pc Ls (.ref a :: rest) := by
  obtain ⟨d, rfl, h1, h2⟩ := d; exact o_go (fun t k => XS.ifnullNo X.here X.ex rfl (X.dec d) rfl k) g
theorem o_ifnull_0 (X : St K Z own b mx ret rm n0 k j T h) {o : Int} (d : Brn b pc (.ifnull o) o pc' tg) (g : Go K n0 kc kj Q T tg Ls (rest)) : Go K n0 kc kj Q T pc Ls (.null :: rest) := by
  obtain ⟨d, rfl, h1, h2⟩ := d; exact o_go (fun t k => XS.ifnullYes X.here X.ex rfl rfl (X.dec d) rfl h1 h2 k) g
theorem o_leave (X : St K Z own b mx ret rm n0 k j T h) {v : Option Value} (hv : ret = none → v = none) (hk : k ≤ kc) (hj : j ≤ kj) (q : Q v h)
    (f : ∀ fs, (∀ (f : JFrame) (acts : List Action), f.method = K.m → f.locked = none → f.entered = [] → (doReturn K.e (T.setTop f) acts v).1 = T.setFrames fs) → Steps K.p.tables K.e K.below (T.setTop (mkF K.m pc Ls st)) (T.setFrames fs)) : Go K n0 kc kj Q T pc Ls (st) := by
  obtain ⟨locs, S, N⟩ := X.sd
  obtain ⟨fs, hr, hrun, hended, hW, hsame⟩ := S.leave (v := v) (fun q => hv (X.rt.symm.trans q)) X.nl
  have e : (T.setFrames fs).heap = h := X.hp
  exact ⟨_, _, f fs hr, hrun, hended, v, locs, rfl, ⟨e ▸ q, N⟩, ⟨v, rfl⟩, hW, hsame.mono hk hj⟩
theorem o_retI (X : St K Z own b mx (some .int) rm n0 k j T h) {z : Int32} (d : Isn b pc .ireturn 1 pc') (hk : k ≤ kc) (hj : j ≤ kj) (q : Q (some (.int z)) h) : Go K n0 kc kj Q T pc Ls (.int z :: rest) := by
  obtain ⟨_, S, _⟩ := X.sd
  exact o_leave X (fun q => nomatch q) hk hj q fun fs hr => retOut S X.ex X.rt rfl (Or.inl ⟨rfl, Or.inl rfl, z, rfl⟩) (X.dec d.1) hr
theorem o_retL (X : St K Z own b mx (some .long) rm n0 k j T h) {z : Int64} (d : Isn b pc .lreturn 1 pc') (hk : k ≤ kc) (hj : j ≤ kj) (q : Q (some (.long z)) h) : Go K n0 kc kj Q T pc Ls (.long z :: rest) := by
  obtain ⟨_, S, _⟩ := X.sd
  exact o_leave X (fun q => nomatch q) hk hj q fun fs hr => retOut S X.ex X.rt rfl (Or.inr (Or.inl ⟨rfl, rfl, z, rfl⟩)) (X.dec d.1) hr
theorem o_retA {t : FieldType} (X : St K Z own b mx (some t) rm n0 k j T h) {z : Value} (ht : t.isReference = true) (hn : narrow t z = z) (hz : z.isRef = true) (d : Isn b pc .areturn 1 pc') (hk : k ≤ kc) (hj : j ≤ kj) (q : Q (some z) h) : Go K n0 kc kj Q T pc Ls (z :: rest) := by
  obtain ⟨_, S, _⟩ := X.sd
  exact o_leave X (fun q => nomatch q) hk hj q fun fs hr => retOut S X.ex X.rt hn (Or.inr (Or.inr (Or.inr (Or.inr ⟨rfl, ht, hz⟩)))) (X.dec d.1) hr
theorem o_retN {t : FieldType} (X : St K Z own b mx (some t) rm n0 k j T h) {z : Int32} (ht : t = .boolean ∨ t = .byte ∨ t = .char ∨ t = .short) (d : Isn b pc .ireturn 1 pc') (hk : k ≤ kc) (hj : j ≤ kj) (q : Q (some (.int (nar t z))) h) : Go K n0 kc kj Q T pc Ls (.int z :: rest) := by
  obtain ⟨_, S, _⟩ := X.sd
  exact o_leave X (fun q => nomatch q) hk hj q fun fs hr => retN S X.ex X.rt ht (X.dec d.1) hr
theorem o_retZ (X : St K Z own b mx (some .boolean) rm n0 k j T h) {z : Int32} (d : Isn b pc .ireturn 1 pc') (hk : k ≤ kc) (hj : j ≤ kj) (q : Q (some (.int (z &&& 1))) h) : Go K n0 kc kj Q T pc Ls (.int z :: rest) := o_retN X (Or.inl rfl) d hk hj q
theorem o_ret0 (X : St K Z own b mx none rm n0 k j T h) (d : Isn b pc .return_ 1 pc') (hk : k ≤ kc) (hj : j ≤ kj) (q : Q none h) : Go K n0 kc kj Q T pc Ls ([]) := by
  obtain ⟨_, S, _⟩ := X.sd
  exact o_leave X (fun _ => rfl) hk hj q fun fs hr => S.returnOut X.ex X.rt (X.dec d.1) hr
theorem CtrW.intro {l : Launch} {y : MethodName} {ws : List Jvm.Cond} {as' : List Value} (pn : plainFor y = true) (ho : y.cls = own) (Ls : Array Slot) (hE : Jvm.Sym.laidSlots as' ++ List.replicate (mx - (Jvm.Sym.laidSlots as').length) .unset = Ls.toList)
    (body : ∀ (K : Cx) (T : State), K.meth.name = y.name → K.l = l → St K Z own b mx ret rm n0 0 0 T h → Go K n0 kc kj Q T 0 Ls []) : CtrW l Z y b mx ret ws rm kc kj as' h n0 Q := by
  refine MetFree.of_bodySF pn hisR ?_
  intro p e s m args below meth c s₁ Bd hml0 hP hK
  obtain ⟨rfl, hZ, hh⟩ := hP
  subst ho
  have X0 : Stand p l e rm s m as'.toArray below meth c s₁ [] 0 0 := Stand.of_body Bd
  have e0 : s₁.heap = h := by rw [← hh, Bd.state]; rfl
  obtain ⟨t, o, h1, h2, h3, h4⟩ := body (p, l, e, rm, s, m, as'.toArray, below, meth, c) s₁ (name_of_methodNamed Bd.named Bd.method).1 rfl ⟨Bd.exec, hZ, findClass_of_methodNamed Bd.named, Bd.bytes, hml0, Bd.returns, Bd.notSynchronized, rfl, e0, [], X0, Fr.nil n0⟩
  exact ⟨t, o, (XT.entry hE).trans h1, h2, h3, h4⟩
theorem o_callS (X : St K Z own b mx ret rm n0 k j T h) (W : Nat) {i : Nat} {y : MethodName} {by' : ByteArray} {my : Nat} {ry : Option FieldType} {rmy : Room} {as' : List Value} {Qy : Option Value → Heap → Prop} (d : Isn b pc (.invokestatic i) 3 pc')
    (w1 : (Jvm.Cond.methodLink own i y).before a0 Z = true) (w2 : (Jvm.Cond.static y).before a0 Z = true) (w3 : (Jvm.Cond.initialized y.cls).before a0 Z = true) (w4 : (Jvm.Cond.code y by' my ry).before a0 Z = true)
    (hy : y.cls ≠ "java/lang/invoke/MethodHandle" ∧ y.cls ≠ "java/lang/invoke/VarHandle") (C : Ctr K.l Z y by' my ry rmy as' h n0 Qy) (hn : ∀ sig, parseMethodDescriptor y.desc = some sig → as'.length = sig.parameters.length)
    (hs : st = as'.reverse ++ rest) (hsz : Ls.size = mx) (hW : (rest.map fun v => v.category).sum ≤ W) (hr : rmy.frames + 1 ≤ rm.frames ∧ W + (my + 11) + rmy.locals ≤ rm.locals ∧ k + rmy.cells ≤ rm.cells ∧ j + rmy.slots ≤ rm.slots)
    (g : ∀ T' h' v, Qy v h' → St K Z own b mx ret rm n0 (k + rmy.cells) (j + rmy.slots) T' h' → Go K n0 kc kj Q T' pc' Ls (v.toList ++ rest)) : Go K n0 kc kj Q T pc Ls (st) := by
  obtain ⟨d, rfl⟩ := d; obtain ⟨locs, S, N⟩ := X.sd; have hR := X.rmE
  obtain ⟨v, _, ⟨T', L', k', j'⟩, -, S', ⟨Lc, ⟨hQ, NL⟩, l1, l2, l3⟩, st'⟩ := Jvm.LawKit.callS S X.ex (y := y) X.ow (mvT X.wZ w1) (mvT X.wZ w2) (mvT X.wZ w3) (mvT X.wZ w4) hy (backOf (W := W) (Q := fun v h L => Qy v h ∧ Fr n0 L) C X.wZ w4 w3 (by rw [hR]; exact hr.1) (by rw [hR]; exact hr.2.1)) (g := mkF K.m pc Ls st) rfl (hsz.trans X.ml.symm) (argsL := as') (rest := rest) hn hs (by show 2 * 0 + _ ≤ _; omega) (X.dec d) (fun _ _ => ⟨rfl, X.hp, by rw [hR]; exact hr.2.2.1, by rw [hR]; exact hr.2.2.2⟩)
  dsimp only [Pt.U, Pt.locs, Pt.cells, Pt.slots] at S' l1 l2 l3 st' hQ
  subst l1 l2 l3
  exact o_go (fun t k => st' t k) (g T' T'.heap v hQ (X.mk' S' (Fr.app N NL) rfl))
theorem o_callV (X : St K Z own b mx ret rm n0 k j T h) (W : Nat) {i : Nat} {y z : MethodName} {C' : String} {by' : ByteArray} {my : Nat} {ry : Option FieldType} {rmy : Room} {a : Addr} {as' : List Value} {Qy : Option Value → Heap → Prop} (d : Isn b pc (.invokevirtual i) 3 pc')
    (w1 : (Jvm.Cond.methodLink own i y).before a0 Z = true) (w2 : (Jvm.Cond.declares y).before a0 Z = true) (w3 : (Jvm.Cond.selects y.cls y y).before a0 Z = true) (w5 : (Jvm.Cond.selects C' y z).before a0 Z = true) (w6 : (Jvm.Cond.instanceMethod z).before a0 Z = true)
    (hy : y.cls ≠ "java/lang/invoke/MethodHandle" ∧ y.cls ≠ "java/lang/invoke/VarHandle") (w4 : (Jvm.Cond.code z by' my ry).before a0 Z = true) (w7 : (Jvm.Cond.initialized z.cls).before a0 Z = true) (C : Ctr K.l Z z by' my ry rmy (.ref a :: as') h n0 Qy) (E : Exa Z h a C') (hn : ∀ sig, parseMethodDescriptor y.desc = some sig → as'.length = sig.parameters.length)
    (hs : st = as'.reverse ++ .ref a :: rest) (hsz : Ls.size = mx) (hW : (rest.map fun v => v.category).sum ≤ W) (hr : rmy.frames + 1 ≤ rm.frames ∧ W + (my + 11) + rmy.locals ≤ rm.locals ∧ k + rmy.cells ≤ rm.cells ∧ j + rmy.slots ≤ rm.slots)
    (g : ∀ T' h' v, Qy v h' → St K Z own b mx ret rm n0 (k + rmy.cells) (j + rmy.slots) T' h' → Go K n0 kc kj Q T' pc' Ls (v.toList ++ rest)) : Go K n0 kc kj Q T pc Ls (st) := by
  obtain ⟨d, rfl⟩ := d; obtain ⟨locs, S, N⟩ := X.sd; have hR := X.rmE
  obtain ⟨cq, kq, q1, q2, q3⟩ := isOf (s := K.s) X.wZ X.hp E
  obtain ⟨v, _, ⟨T', L', k', j'⟩, -, S', ⟨Lc, ⟨hQ, NL⟩, l1, l2, l3⟩, st'⟩ := S.virtualBack X.ex (y := y) (z := z) X.ow (mvT X.wZ w1) (mvT X.wZ w2) (notFace_of_selects (args := #[]) (mvT X.wZ w3)) (mvT X.wZ w5) (mvT X.wZ w6) hy (backOf (W := W) (Q := fun v h L => Qy v h ∧ Fr n0 L) C X.wZ w4 w7 (by rw [hR]; exact hr.1) (by rw [hR]; exact hr.2.1)) q1 q3 (g := mkF K.m pc Ls st) rfl (hsz.trans X.ml.symm) (Steps.refl _) (argsL := as') (rest := rest) hn hs (by show 2 * 0 + _ ≤ _; omega) (X.dec d) (fun _ _ => ⟨rfl, X.hp, by rw [hR]; exact hr.2.2.1, by rw [hR]; exact hr.2.2.2⟩)
  dsimp only [Pt.U, Pt.locs, Pt.cells, Pt.slots] at S' l1 l2 l3 st' hQ
  subst l1 l2 l3
  exact o_go (fun t k => st'.trans k) (g T' T'.heap v hQ (X.mk' S' (Fr.app N NL) rfl))
theorem o_callN (X : St K Z own b mx ret rm n0 k j T h) (W : Nat) {i : Nat} {y : MethodName} {by' : ByteArray} {my : Nat} {rmy : Room} {a : Addr} {as' : List Value} {Qy : Option Value → Heap → Prop} (d : Isn b pc (.invokespecial i) 3 pc') (hy1 : y.name = "<init>")
    (w1 : (Jvm.Cond.methodLink own i y).before a0 Z = true) (w2 : (Jvm.Cond.instanceMethod y).before a0 Z = true) (w4 : (Jvm.Cond.code y by' my none).before a0 Z = true) (w3 : (Jvm.Cond.initialized y.cls).before a0 Z = true)
    (hy : y.cls ≠ "java/lang/invoke/MethodHandle" ∧ y.cls ≠ "java/lang/invoke/VarHandle") (C : Ctr K.l Z y by' my none rmy (.ref a :: as') h n0 Qy) (hn : ∀ sig, parseMethodDescriptor y.desc = some sig → as'.length = sig.parameters.length)
    (hs : st = as'.reverse ++ .ref a :: rest) (hsz : Ls.size = mx) (hW : (rest.map fun v => v.category).sum ≤ W) (hr : rmy.frames + 1 ≤ rm.frames ∧ W + (my + 11) + rmy.locals ≤ rm.locals ∧ k + rmy.cells ≤ rm.cells ∧ j + rmy.slots ≤ rm.slots)
    (g : ∀ T' h' v, Qy v h' → St K Z own b mx ret rm n0 (k + rmy.cells) (j + rmy.slots) T' h' → Go K n0 kc kj Q T' pc' Ls (v.toList ++ rest)) : Go K n0 kc kj Q T pc Ls (st) := by
  obtain ⟨d, rfl⟩ := d; obtain ⟨locs, S, N⟩ := X.sd; have hR := X.rmE
  obtain ⟨v, _, ⟨T', L', k', j'⟩, -, S', ⟨Lc, ⟨hQ, NL⟩, l1, l2, l3⟩, st'⟩ := S.specialBack X.ex (y := y) hy1 X.ow (mvT X.wZ w1) (mvT X.wZ w2) (mvT X.wZ w4) hy (backOf (W := W) (Q := fun v h L => Qy v h ∧ Fr n0 L) C X.wZ w4 w3 (by rw [hR]; exact hr.1) (by rw [hR]; exact hr.2.1)) (g := mkF K.m pc Ls st) rfl (hsz.trans X.ml.symm) (Steps.refl _) (a := a) (argsL := as') (rest := rest) hn hs (by show 2 * 0 + _ ≤ _; omega) (X.dec d) (fun _ _ => ⟨rfl, X.hp, by rw [hR]; exact hr.2.2.1, by rw [hR]; exact hr.2.2.2⟩)
  dsimp only [Pt.U, Pt.locs, Pt.cells, Pt.slots] at S' l1 l2 l3 st' hQ
  subst l1 l2 l3
  exact o_go (fun t k => st'.trans k) (g T' T'.heap v hQ (X.mk' S' (Fr.app N NL) rfl))
theorem o_initO (X : St K Z own b mx ret rm n0 k j T h) (W : Nat) {i : Nat} {a : Addr} (d : Isn b pc (.invokespecial i) 3 pc') (w1 : (Jvm.Cond.methodLink own i Lib.objectInit).before a0 Z = true) (w2 : (Jvm.Cond.instanceMethod Lib.objectInit).before a0 Z = true) (w3 : (Jvm.Cond.code Lib.objectInit ⟨#[0xb1]⟩ 1 none).before a0 Z = true)
    (hsz : Ls.size = mx) (hW : (rest.map fun v => v.category).sum ≤ W) (hr : 1 ≤ rm.frames ∧ W + 12 ≤ rm.locals) (g : ∀ T', St K Z own b mx ret rm n0 k j T' h → Go K n0 kc kj Q T' pc' Ls (rest)) : Go K n0 kc kj Q T pc Ls (.ref a :: rest) := by
  obtain ⟨d, rfl⟩ := d; obtain ⟨locs, S, N⟩ := X.sd; have hR := X.rmE
  obtain ⟨T', S', e', st'⟩ := initO S X.ex X.wZ X.ow w1 w2 w3 X.hp (g := mkF K.m pc Ls (.ref a :: rest)) rfl (hsz.trans X.ml.symm) rfl (X.dec d) (by rw [hR]; exact hr.1) (W := W) (by show 2 * 0 + _ ≤ _; omega) (by rw [hR]; exact hr.2)
  exact o_go (fun t k => st' t k) (g T' (X.mk' S' N e'))
theorem o_getF (X : St K Z own b mx ret rm n0 k j T h) {i : Nat} {O n dd : String} {a : Addr} {v : Value} (d : Isn b pc (.getfield i) 3 pc') (wd : (Jvm.Cond.fieldLink own i O n dd).before a0 Z = true) (F : Fld Z h a O n dd v)
    (g : ∀ T', St K Z own b mx ret rm n0 k j T' h → Go K n0 kc kj Q T' pc' Ls (v :: rest)) : Go K n0 kc kj Q T pc Ls (.ref a :: rest) := by
  obtain ⟨d, rfl⟩ := d; obtain ⟨locs, S, N⟩ := X.sd
  obtain ⟨T', S', e', st'⟩ := getF S X.ex X.wZ X.ow (host := "") (Or.inl wd) Via.refl X.hp F (g := mkF K.m pc Ls (.ref a :: rest)) rfl rfl (X.dec d)
  exact o_go (fun t k => st' t k) (g T' (X.mk' S' N e'))
theorem o_putF (X : St K Z own b mx ret rm n0 k j T h) {i kk : Nat} {O n dd C' : String} {ty : FieldType} {a : Addr} {v ov : Value} (d : Isn b pc (.putfield i) 3 pc') (wd : (Jvm.Cond.fieldLink own i O n dd).before a0 Z = true) (F : Fld Z h a O n dd ov) (E : Exa Z h a C')
    (Lf : (Jvm.Cond.lays C' O n dd).before a0 Z = true ∨ ((Jvm.Cond.laysFinal C' O n dd).before a0 Z = true ∧ own = O ∧ K.meth.name = "<init>")) (wi : (Jvm.Cond.instantiable C' kk).before a0 Z = true) (hty : parseFieldDescriptor dd = some ty) (hn : narrow ty v = v) (hf : fits ty v = true) (ha : n0 ≤ a)
    (g : ∀ T' h', St K Z own b mx ret rm n0 k j T' h' → Wr h h' a (Jvm.RoadKit.slotOf Z O n dd) v → Go K n0 kc kj Q T' pc' Ls (rest)) : Go K n0 kc kj Q T pc Ls (v :: .ref a :: rest) := by
  obtain ⟨d, rfl⟩ := d; obtain ⟨locs, S, N⟩ := X.sd
  obtain ⟨T', h', S', e', W', st'⟩ := putF S X.ex X.wZ X.ow (host := "") (Or.inl wd) Via.refl X.hp F E Lf wi hty hn hf (g := mkF K.m pc Ls (v :: .ref a :: rest)) rfl rfl (X.dec d)
  exact o_go (fun t k => st' t k) (g T' h' (X.mk' S' (Fr.snoc S' N ha) e') W')
theorem o_new (X : St K Z own b mx ret rm n0 k j T h) {i nn : Nat} {C' : String} (d : Isn b pc (.new i) 3 pc') (w1 : (Jvm.Cond.classLink own i C').before a0 Z = true) (w2 : (Jvm.Cond.instantiable C' nn).before a0 Z = true) (w3 : (Jvm.Cond.initialized C').before a0 Z = true) (hr : k + 1 ≤ rm.cells ∧ j + nn ≤ rm.slots)
    (g : ∀ T' h' a, a = h.size → St K Z own b mx ret rm n0 (k + 1) (j + nn) T' h' → Ext h h' → Exa Z h' a C' → (∀ {O nm dd : String} {ty : FieldType}, Laid Z a0 C' O nm dd → parseFieldDescriptor dd = some ty → Fld Z h' a O nm dd (defaultValue ty)) → Go K n0 kc kj Q T' pc' Ls (.ref a :: st)) : Go K n0 kc kj Q T pc Ls (st) := by
  obtain ⟨d, rfl⟩ := d; obtain ⟨locs, S, N⟩ := X.sd; have hR := X.rmE
  obtain ⟨T', h', S', e', E', A', D', -, st'⟩ := newO S X.ex X.wZ X.ow w1 w2 w3 X.hp (g := mkF K.m pc Ls st) rfl (X.dec d) (by rw [hR]; exact hr.1) (by rw [hR]; exact hr.2)
  exact o_go (fun t k => st' t k) (g T' h' h.size rfl (X.mk' S' N e') E' A' D')
/-- an array, by all its values -/
def AL (Z : State) (h : Heap) (a : Addr) (ty : FieldType) (vs : List Value) : Prop := ∃ c : Cell, Arr Z h a c ty ∧ c.slots = vs.toArray ∧ vs.length < 2 ^ 31
theorem AL.lt {a : Addr} {ty : FieldType} {vs : List Value} (A : AL Z h a ty vs) : a < h.size := by obtain ⟨c, q, -⟩ := A; exact q.lt
theorem AL.ext {h' : Heap} {a : Addr} {ty : FieldType} {vs : List Value} (A : AL Z h a ty vs) (E : Ext h h') : AL Z h' a ty vs := by obtain ⟨c, q, r⟩ := A; exact ⟨c, q.ext E, r⟩
theorem AL.other {h' : Heap} {a a' : Addr} {sl : Nat} {v : Value} {ty : FieldType} {vs : List Value} (A : AL Z h a ty vs) (W : Wr h h' a' sl v) (ne : a ≠ a') : AL Z h' a ty vs := by obtain ⟨c, q, r⟩ := A; exact ⟨c, q.other W ne, r⟩
theorem AL.keep {h' : Heap} {a : Addr} {ws : List Addr} {ty : FieldType} {vs : List Value} (A : AL Z h a ty vs) (Kp : Keep h h' ws) (q : a ∉ ws) : AL Z h' a ty vs := by obtain ⟨c, A1, r⟩ := A; exact ⟨c, ⟨Kp.2.1 a c A1.1 q, A1.2⟩, r⟩
theorem AL.set {h' : Heap} {a : Addr} {sl : Nat} {v : Value} {ty : FieldType} {vs : List Value} (A : AL Z h a ty vs) (W : Wr h h' a sl v) : AL Z h' a ty (vs.set sl v) := by
  obtain ⟨c, q, r, s⟩ := A
  exact ⟨_, q.same W, by simp [Cell.setSlot, r], by simpa using s⟩
theorem AL.inb {a : Addr} {ty : FieldType} {vs : List Value} {i : Int32} {c : Cell} (r : c.slots = vs.toArray) (hi : ¬ i < 0) (hl : i.toNatClampNeg < vs.length) : ¬ (i < 0 ∨ c.slots.size ≤ i.toNatClampNeg) := by
  rw [r]; rintro (q | q)
  · exact hi q
  · simp at q; omega
theorem o_arraylength (X : St K Z own b mx ret rm n0 k j T h) {a : Addr} {ty : FieldType} {vs : List Value} (n : Int32) (d : Isn b pc .arraylength 1 pc') (A : AL Z h a ty vs) (hn : vs.length.toInt32 = n) (g : Go K n0 kc kj Q T pc' Ls (.int n :: rest)) : Go K n0 kc kj Q T pc Ls (.ref a :: rest) := by
  obtain ⟨d, rfl⟩ := d; obtain ⟨locs, S, N⟩ := X.sd; obtain ⟨c, q, r, s⟩ := A
  have e : c.slots.size.toInt32 = n := by rw [r, ← hn]; simp
  exact o_go (fun t k => S.arraylength X.ex (cell := c) (by rw [X.hp]; exact q.1) (State.isArrayOf_alike X.wZ.alike q.2.1) (g := mkF K.m pc Ls (.ref a :: rest)) rfl (rest := rest) rfl (X.dec d) t (by rw [e]; exact k)) g
theorem o_iaload (X : St K Z own b mx ret rm n0 k j T h) {a : Addr} {vs : List Value} {i : Int32} {v : Int32} (d : Isn b pc .iaload 1 pc') (A : AL Z h a .int vs) (hi : ¬ i < 0) (hv : vs[i.toNatClampNeg]? = some (.int v)) (g : Go K n0 kc kj Q T pc' Ls (.int v :: rest)) : Go K n0 kc kj Q T pc Ls (.int i :: .ref a :: rest) := by
  obtain ⟨d, rfl⟩ := d; obtain ⟨locs, S, N⟩ := X.sd; obtain ⟨c, q, r, s⟩ := A
  have hl : i.toNatClampNeg < vs.length := (List.getElem?_eq_some_iff.mp hv).1
  exact o_go (fun t k => S.iaload X.ex (j := i) (v := .int v) (by rw [X.hp]; exact q.1) (State.isArrayOf_alike X.wZ.alike q.2.1) q.2.2 (AL.inb (a := a) (ty := .int) r hi hl) (by rw [r]; simpa using hv) (g := mkF K.m pc Ls (.int i :: .ref a :: rest)) rfl rfl (X.dec d) t k) g
theorem o_laload (X : St K Z own b mx ret rm n0 k j T h) {a : Addr} {vs : List Value} {i : Int32} {v : Int64} (d : Isn b pc .laload 1 pc') (A : AL Z h a .long vs) (hi : ¬ i < 0) (hv : vs[i.toNatClampNeg]? = some (.long v)) (g : Go K n0 kc kj Q T pc' Ls (.long v :: rest)) : Go K n0 kc kj Q T pc Ls (.int i :: .ref a :: rest) := by
  obtain ⟨d, rfl⟩ := d; obtain ⟨locs, S, N⟩ := X.sd; obtain ⟨c, q, r, s⟩ := A
  have hl : i.toNatClampNeg < vs.length := (List.getElem?_eq_some_iff.mp hv).1
  exact o_go (fun t k => S.laload X.ex (j := i) (v := .long v) (by rw [X.hp]; exact q.1) (State.isArrayOf_alike X.wZ.alike q.2.1) q.2.2 (AL.inb (a := a) (ty := .long) r hi hl) (by rw [r]; simpa using hv) (g := mkF K.m pc Ls (.int i :: .ref a :: rest)) rfl rfl (X.dec d) t k) g
theorem o_caload (X : St K Z own b mx ret rm n0 k j T h) {a : Addr} {vs : List Value} {i : Int32} {v : Int32} (d : Isn b pc .caload 1 pc') (A : AL Z h a .char vs) (hi : ¬ i < 0) (hv : vs[i.toNatClampNeg]? = some (.int v)) (g : Go K n0 kc kj Q T pc' Ls (.int v :: rest)) : Go K n0 kc kj Q T pc Ls (.int i :: .ref a :: rest) := by
  obtain ⟨d, rfl⟩ := d; obtain ⟨locs, S, N⟩ := X.sd; obtain ⟨c, q, r, s⟩ := A
  have hl : i.toNatClampNeg < vs.length := (List.getElem?_eq_some_iff.mp hv).1
  exact o_go (fun t k => S.caload X.ex (j := i) (v := .int v) (by rw [X.hp]; exact q.1) (State.isArrayOf_alike X.wZ.alike q.2.1) q.2.2 (AL.inb (a := a) (ty := .char) r hi hl) (by rw [r]; simpa using hv) (g := mkF K.m pc Ls (.int i :: .ref a :: rest)) rfl rfl (X.dec d) t k) g
theorem o_baload (X : St K Z own b mx ret rm n0 k j T h) {a : Addr} {vs : List Value} {i : Int32} {v : Int32} (d : Isn b pc .baload 1 pc') (A : AL Z h a .byte vs) (hi : ¬ i < 0) (hv : vs[i.toNatClampNeg]? = some (.int v)) (g : Go K n0 kc kj Q T pc' Ls (.int v :: rest)) : Go K n0 kc kj Q T pc Ls (.int i :: .ref a :: rest) := by
  obtain ⟨d, rfl⟩ := d; obtain ⟨locs, S, N⟩ := X.sd; obtain ⟨c, q, r, s⟩ := A
  have hl : i.toNatClampNeg < vs.length := (List.getElem?_eq_some_iff.mp hv).1
  exact o_go (fun t k => S.baloadBytes X.ex (j := i) (v := .int v) (by rw [X.hp]; exact q.1) (State.isArrayOf_alike X.wZ.alike q.2.1) q.2.2 (AL.inb (a := a) (ty := .byte) r hi hl) (by rw [r]; simpa using hv) (g := mkF K.m pc Ls (.int i :: .ref a :: rest)) rfl rfl (X.dec d) t k) g
theorem o_iastore (X : St K Z own b mx ret rm n0 k j T h) {a : Addr} {vs vs' : List Value} {i : Int32} {v : Int32} (d : Isn b pc .iastore 1 pc') (A : AL Z h a .int vs) (hi : ¬ i < 0) (hl : i.toNatClampNeg < vs.length) (ha : n0 ≤ a) (hv : vs.set i.toNatClampNeg (.int v) = vs')
    (g : ∀ T' h', St K Z own b mx ret rm n0 k j T' h' → Wr h h' a i.toNatClampNeg (.int v) → AL Z h' a .int vs' → Go K n0 kc kj Q T' pc' Ls (rest)) : Go K n0 kc kj Q T pc Ls (.int v :: .int i :: .ref a :: rest) := by
  obtain ⟨d, rfl⟩ := d; obtain ⟨locs, S, N⟩ := X.sd; obtain ⟨c, q, r, s⟩ := A
  obtain ⟨T', h', S', e', W', st'⟩ := stI S X.ex X.wZ X.hp q (j := i) (x := v) (AL.inb (a := a) (ty := .int) r hi hl) (g := mkF K.m pc Ls (.int v :: .int i :: .ref a :: rest)) rfl rfl (X.dec d)
  exact o_go (fun t k => st' t k) (g T' h' (X.mk' S' (Fr.snoc S' N ha) e') W' (hv ▸ AL.set ⟨c, q, r, s⟩ W'))
theorem o_lastore (X : St K Z own b mx ret rm n0 k j T h) {a : Addr} {vs vs' : List Value} {i : Int32} {v : Int64} (d : Isn b pc .lastore 1 pc') (A : AL Z h a .long vs) (hi : ¬ i < 0) (hl : i.toNatClampNeg < vs.length) (ha : n0 ≤ a) (hv : vs.set i.toNatClampNeg (.long v) = vs')
    (g : ∀ T' h', St K Z own b mx ret rm n0 k j T' h' → Wr h h' a i.toNatClampNeg (.long v) → AL Z h' a .long vs' → Go K n0 kc kj Q T' pc' Ls (rest)) : Go K n0 kc kj Q T pc Ls (.long v :: .int i :: .ref a :: rest) := by
  obtain ⟨d, rfl⟩ := d; obtain ⟨locs, S, N⟩ := X.sd; obtain ⟨c, q, r, s⟩ := A
  obtain ⟨T', h', S', e', W', st'⟩ := stJ S X.ex X.wZ X.hp q (j := i) (x := v) (AL.inb (a := a) (ty := .long) r hi hl) (g := mkF K.m pc Ls (.long v :: .int i :: .ref a :: rest)) rfl rfl (X.dec d)
  exact o_go (fun t k => st' t k) (g T' h' (X.mk' S' (Fr.snoc S' N ha) e') W' (hv ▸ AL.set ⟨c, q, r, s⟩ W'))
theorem o_castore (X : St K Z own b mx ret rm n0 k j T h) {a : Addr} {vs vs' : List Value} {i : Int32} {v : Int32} (d : Isn b pc .castore 1 pc') (A : AL Z h a .char vs) (hi : ¬ i < 0) (hl : i.toNatClampNeg < vs.length) (ha : n0 ≤ a) (hv : vs.set i.toNatClampNeg (.int (nar .char v)) = vs')
    (g : ∀ T' h', St K Z own b mx ret rm n0 k j T' h' → Wr h h' a i.toNatClampNeg (.int (nar .char v)) → AL Z h' a .char vs' → Go K n0 kc kj Q T' pc' Ls (rest)) : Go K n0 kc kj Q T pc Ls (.int v :: .int i :: .ref a :: rest) := by
  obtain ⟨d, rfl⟩ := d; obtain ⟨locs, S, N⟩ := X.sd; obtain ⟨c, q, r, s⟩ := A
  obtain ⟨T', h', S', e', W', st'⟩ := stC S X.ex X.wZ X.hp q (j := i) (x := v) (AL.inb (a := a) (ty := .char) r hi hl) (g := mkF K.m pc Ls (.int v :: .int i :: .ref a :: rest)) rfl rfl (X.dec d)
  exact o_go (fun t k => st' t k) (g T' h' (X.mk' S' (Fr.snoc S' N ha) e') W' (hv ▸ AL.set ⟨c, q, r, s⟩ W'))
theorem o_bastore (X : St K Z own b mx ret rm n0 k j T h) {a : Addr} {vs vs' : List Value} {i : Int32} {v : Int32} (d : Isn b pc .bastore 1 pc') (A : AL Z h a .byte vs) (hi : ¬ i < 0) (hl : i.toNatClampNeg < vs.length) (ha : n0 ≤ a) (hv : vs.set i.toNatClampNeg (.int (nar .byte v)) = vs')
    (g : ∀ T' h', St K Z own b mx ret rm n0 k j T' h' → Wr h h' a i.toNatClampNeg (.int (nar .byte v)) → AL Z h' a .byte vs' → Go K n0 kc kj Q T' pc' Ls (rest)) : Go K n0 kc kj Q T pc Ls (.int v :: .int i :: .ref a :: rest) := by
  obtain ⟨d, rfl⟩ := d; obtain ⟨locs, S, N⟩ := X.sd; obtain ⟨c, q, r, s⟩ := A
  obtain ⟨T', h', S', e', W', st'⟩ := stB S X.ex X.wZ X.hp q (j := i) (x := v) (AL.inb (a := a) (ty := .byte) r hi hl) (g := mkF K.m pc Ls (.int v :: .int i :: .ref a :: rest)) rfl rfl (X.dec d)
  exact o_go (fun t k => st' t k) (g T' h' (X.mk' S' (Fr.snoc S' N ha) e') W' (hv ▸ AL.set ⟨c, q, r, s⟩ W'))
theorem o_newarray (X : St K Z own b mx ret rm n0 k j T h) (cap : Nat) {aty : ArrayType} {n : Int32} {vs : List Value} (d : Isn b pc (.newarray aty) 2 pc') (wd : (Jvm.Cond.arrayClass (newarray.typeOf aty)).before a0 Z = true) (hn : ¬ n < 0) (hcap : n.toNatClampNeg ≤ cap) (hvs : List.replicate n.toNatClampNeg (defaultValue (newarray.typeOf aty)) = vs) (hr : cap * 8 ≤ 536870912 ∧ k + 1 ≤ rm.cells ∧ j + cap ≤ rm.slots)
    (g : ∀ T' h' a, a = h.size → St K Z own b mx ret rm n0 (k + 1) (j + cap) T' h' → Ext h h' → AL Z h' a (newarray.typeOf aty) vs → Go K n0 kc kj Q T' pc' Ls (.ref a :: rest)) : Go K n0 kc kj Q T pc Ls (.int n :: rest) := by
  obtain ⟨d, rfl⟩ := d; obtain ⟨locs, S, N⟩ := X.sd; have hR := X.rmE
  obtain ⟨T', h', cA, S', e', E', A', st'⟩ := newP S X.ex X.wZ wd X.hp (g := mkF K.m pc Ls (.int n :: rest)) rfl (X.dec d) rfl hn hcap hr.1 (by rw [hR]; exact hr.2.1) (by rw [hR]; exact hr.2.2)
  refine o_go (fun t k => st' t k) (g T' h' h.size rfl (X.mk' S' N e') E' ⟨_, A', ?_, ?_⟩)
  · rw [← hvs]; simp [newA]
  · rw [← hvs]; simp; have := (back32 hn).2; omega
/-- the array at a takes objects of class C -/
def AO (Z : State) (h : Heap) (a : Addr) (C : String) : Prop := ∃ c : Cell, h[a]? = some c ∧ Ovr Z c.cls C
theorem AO.ext {h' : Heap} {a : Addr} {C : String} (A : AO Z h a C) (E : Ext h h') : AO Z h' a C := by obtain ⟨c, q, r⟩ := A; exact ⟨c, E.2 _ _ q, r⟩
theorem AO.wr {h' : Heap} {a a' : Addr} {C : String} {sl : Nat} {v : Value} (A : AO Z h a C) (W : Wr h h' a' sl v) : AO Z h' a C := by
  obtain ⟨c, q, r⟩ := A; obtain ⟨c', q1, q2, -⟩ := wr_at W q; exact ⟨c', q1, by rw [q2]; exact r⟩
theorem o_anewarray (X : St K Z own b mx ret rm n0 k j T h) (cap : Nat) {i : Nat} {C' : String} {n : Int32} {vs : List Value} (d : Isn b pc (.anewarray i) 3 pc') (w1 : (Jvm.Cond.classLink own i C').before a0 Z = true) (w2 : (Jvm.Cond.arrayOver (.object C')).before a0 Z = true) (hn : ¬ n < 0) (hcap : n.toNatClampNeg ≤ cap) (hvs : List.replicate n.toNatClampNeg Value.null = vs) (hr : cap * 8 ≤ 536870912 ∧ k + 1 ≤ rm.cells ∧ j + cap ≤ rm.slots)
    (g : ∀ T' h' a, a = h.size → St K Z own b mx ret rm n0 (k + 1) (j + cap) T' h' → Ext h h' → AL Z h' a (.object C') vs → AO Z h' a C' → Go K n0 kc kj Q T' pc' Ls (.ref a :: rest)) : Go K n0 kc kj Q T pc Ls (.int n :: rest) := by
  obtain ⟨d, rfl⟩ := d; obtain ⟨locs, S, N⟩ := X.sd; have hR := X.rmE
  obtain ⟨T', h', cA, S', e', E', A', O', st'⟩ := newR S X.ex X.wZ X.ow w1 w2 X.hp (g := mkF K.m pc Ls (.int n :: rest)) rfl (X.dec d) rfl hn hcap hr.1 (by rw [hR]; exact hr.2.1) (by rw [hR]; exact hr.2.2)
  refine o_go (fun t k => st' t k) (g T' h' h.size rfl (X.mk' S' N e') E' ⟨_, A', ?_, ?_⟩ ⟨_, A'.1, O'⟩)
  · rw [← hvs]; simp [newA, defaultValue]
  · rw [← hvs]; simp; have := (back32 hn).2; omega
theorem o_aaload (X : St K Z own b mx ret rm n0 k j T h) {a : Addr} {ty : FieldType} {vs : List Value} {i : Int32} {v : Value} (hty : ty.isReference = true) (d : Isn b pc .aaload 1 pc') (A : AL Z h a ty vs) (hi : ¬ i < 0) (hv : vs[i.toNatClampNeg]? = some v) (g : Go K n0 kc kj Q T pc' Ls (v :: rest)) : Go K n0 kc kj Q T pc Ls (.int i :: .ref a :: rest) := by
  obtain ⟨d, rfl⟩ := d; obtain ⟨locs, S, N⟩ := X.sd; obtain ⟨c, q, r, s⟩ := A
  have hl : i.toNatClampNeg < vs.length := (List.getElem?_eq_some_iff.mp hv).1
  exact o_go (fun t k => S.aaload X.ex (j := i) (v := v) (by rw [X.hp]; exact q.1) (State.isArrayOf_alike X.wZ.alike q.2.1) hty q.2.2 (AL.inb (a := a) (ty := ty) r hi hl) (by rw [r]; simpa using hv) (g := mkF K.m pc Ls (.int i :: .ref a :: rest)) rfl rfl (X.dec d) t k) g
theorem o_aastore (X : St K Z own b mx ret rm n0 k j T h) {a y : Addr} {C' : String} {vs vs' : List Value} {i : Int32} (d : Isn b pc .aastore 1 pc') (A : AL Z h a (.object C') vs) (O : AO Z h a C') (I : Jvm.RoadKit.Ins Z h y C' true) (hi : ¬ i < 0) (hl : i.toNatClampNeg < vs.length) (ha : n0 ≤ a) (hv : vs.set i.toNatClampNeg (.ref y) = vs')
    (g : ∀ T' h', St K Z own b mx ret rm n0 k j T' h' → Wr h h' a i.toNatClampNeg (.ref y) → AL Z h' a (.object C') vs' → Go K n0 kc kj Q T' pc' Ls (rest)) : Go K n0 kc kj Q T pc Ls (.ref y :: .int i :: .ref a :: rest) := by
  obtain ⟨d, rfl⟩ := d; obtain ⟨locs, S, N⟩ := X.sd; obtain ⟨c, q, r, s⟩ := A
  obtain ⟨c2, q2, r2⟩ := O
  have hO : Ovr Z c.cls C' := by cases q.1.symm.trans q2; exact r2
  obtain ⟨T', h', S', e', W', st'⟩ := stR S X.ex X.wZ X.hp q (j := i) (v := .ref y) (AL.inb (a := a) (ty := .object C') r hi hl) rfl (Sto.of q hO I) (g := mkF K.m pc Ls (.ref y :: .int i :: .ref a :: rest)) rfl rfl (X.dec d)
  exact o_go (fun t k => st' t k) (g T' h' (X.mk' S' (Fr.snoc S' N ha) e') W' (hv ▸ AL.set ⟨c, q, r, s⟩ W'))
/-- an array of ints, booleans, bytes or chars, by a function of the place -/
def AN (Z : State) (h : Heap) (a : Addr) (ty : FieldType) (n : Nat) (f : Nat → Int32) : Prop := ∃ c : Cell, Arr Z h a c ty ∧ c.slots.size = n ∧ n < 2 ^ 31 ∧ ∀ i, i < n → c.slots[i]? = some (.int (f i))
theorem AN.lt {a : Addr} {ty : FieldType} {n : Nat} {f : Nat → Int32} (A : AN Z h a ty n f) : a < h.size := by obtain ⟨c, q, -⟩ := A; exact q.lt
theorem AN.ext {h' : Heap} {a : Addr} {ty : FieldType} {n : Nat} {f : Nat → Int32} (A : AN Z h a ty n f) (E : Ext h h') : AN Z h' a ty n f := by obtain ⟨c, q, r⟩ := A; exact ⟨c, q.ext E, r⟩
theorem AN.other {h' : Heap} {a a' : Addr} {sl : Nat} {v : Value} {ty : FieldType} {n : Nat} {f : Nat → Int32} (A : AN Z h a ty n f) (W : Wr h h' a' sl v) (ne : a ≠ a') : AN Z h' a ty n f := by obtain ⟨c, q, r⟩ := A; exact ⟨c, q.other W ne, r⟩
theorem AN.keep {h' : Heap} {a : Addr} {ws : List Addr} {ty : FieldType} {n : Nat} {f : Nat → Int32} (A : AN Z h a ty n f) (Kp : Keep h h' ws) (q : a ∉ ws) : AN Z h' a ty n f := by obtain ⟨c, A1, r⟩ := A; exact ⟨c, ⟨Kp.2.1 a c A1.1 q, A1.2⟩, r⟩
theorem AN.set {h' : Heap} {a : Addr} {sl : Nat} {v : Int32} {ty : FieldType} {n : Nat} {f : Nat → Int32} (A : AN Z h a ty n f) (W : Wr h h' a sl (.int v)) : AN Z h' a ty n (fun i => if i = sl then v else f i) := by
  obtain ⟨c, q, r, s, t⟩ := A
  refine ⟨_, q.same W, by simpa [Cell.setSlot] using r, s, fun i hi => ?_⟩
  have e := t i hi
  by_cases p : i = sl
  · subst p; have : i < c.slots.size := r ▸ hi
    simp [Cell.setSlot, this]
  · have p' : ¬ sl = i := fun q => p q.symm
    simp [Cell.setSlot, Array.getElem?_setIfInBounds, p, p', e]
theorem AN.inb {n : Nat} {i : Int32} {c : Cell} (r : c.slots.size = n) (hi : ¬ i < 0) (hl : i.toNatClampNeg < n) : ¬ (i < 0 ∨ c.slots.size ≤ i.toNatClampNeg) := by
  rw [r]; rintro (q | q)
  · exact hi q
  · omega
theorem o_alenN (X : St K Z own b mx ret rm n0 k j T h) {a : Addr} {ty : FieldType} {n : Nat} {f : Nat → Int32} (z : Int32) (d : Isn b pc .arraylength 1 pc') (A : AN Z h a ty n f) (hn : n.toInt32 = z) (g : Go K n0 kc kj Q T pc' Ls (.int z :: rest)) : Go K n0 kc kj Q T pc Ls (.ref a :: rest) := by
  obtain ⟨d, rfl⟩ := d; obtain ⟨locs, S, N⟩ := X.sd; obtain ⟨c, q, r, s⟩ := A
  have e : c.slots.size.toInt32 = z := by rw [r, ← hn]
  exact o_go (fun t k => S.arraylength X.ex (cell := c) (by rw [X.hp]; exact q.1) (State.isArrayOf_alike X.wZ.alike q.2.1) (g := mkF K.m pc Ls (.ref a :: rest)) rfl (rest := rest) rfl (X.dec d) t (by rw [e]; exact k)) g

theorem o_ialoadN (X : St K Z own b mx ret rm n0 k j T h) {a : Addr} {n : Nat} {f : Nat → Int32} {i : Int32} (d : Isn b pc .iaload 1 pc') (A : AN Z h a .int n f) (hi : ¬ i < 0) (hl : i.toNatClampNeg < n) (g : Go K n0 kc kj Q T pc' Ls (.int (f i.toNatClampNeg) :: rest)) : Go K n0 kc kj Q T pc Ls (.int i :: .ref a :: rest) := by
  obtain ⟨d, rfl⟩ := d; obtain ⟨locs, S, N⟩ := X.sd; obtain ⟨c, q, r, s, t⟩ := A
  exact o_go (fun t' k => S.iaload X.ex (j := i) (v := .int (f i.toNatClampNeg)) (by rw [X.hp]; exact q.1) (State.isArrayOf_alike X.wZ.alike q.2.1) q.2.2 (AN.inb r hi hl) (t _ hl) (g := mkF K.m pc Ls (.int i :: .ref a :: rest)) rfl rfl (X.dec d) t' k) g
theorem o_caloadN (X : St K Z own b mx ret rm n0 k j T h) {a : Addr} {n : Nat} {f : Nat → Int32} {i : Int32} (d : Isn b pc .caload 1 pc') (A : AN Z h a .char n f) (hi : ¬ i < 0) (hl : i.toNatClampNeg < n) (g : Go K n0 kc kj Q T pc' Ls (.int (f i.toNatClampNeg) :: rest)) : Go K n0 kc kj Q T pc Ls (.int i :: .ref a :: rest) := by
  obtain ⟨d, rfl⟩ := d; obtain ⟨locs, S, N⟩ := X.sd; obtain ⟨c, q, r, s, t⟩ := A
  exact o_go (fun t' k => S.caload X.ex (j := i) (v := .int (f i.toNatClampNeg)) (by rw [X.hp]; exact q.1) (State.isArrayOf_alike X.wZ.alike q.2.1) q.2.2 (AN.inb r hi hl) (t _ hl) (g := mkF K.m pc Ls (.int i :: .ref a :: rest)) rfl rfl (X.dec d) t' k) g
theorem o_baloadN (X : St K Z own b mx ret rm n0 k j T h) {a : Addr} {n : Nat} {f : Nat → Int32} {i : Int32} (d : Isn b pc .baload 1 pc') (A : AN Z h a .byte n f) (hi : ¬ i < 0) (hl : i.toNatClampNeg < n) (g : Go K n0 kc kj Q T pc' Ls (.int (f i.toNatClampNeg) :: rest)) : Go K n0 kc kj Q T pc Ls (.int i :: .ref a :: rest) := by
  obtain ⟨d, rfl⟩ := d; obtain ⟨locs, S, N⟩ := X.sd; obtain ⟨c, q, r, s, t⟩ := A
  exact o_go (fun t' k => S.baloadBytes X.ex (j := i) (v := .int (f i.toNatClampNeg)) (by rw [X.hp]; exact q.1) (State.isArrayOf_alike X.wZ.alike q.2.1) q.2.2 (AN.inb r hi hl) (t _ hl) (g := mkF K.m pc Ls (.int i :: .ref a :: rest)) rfl rfl (X.dec d) t' k) g
theorem o_zaloadN (X : St K Z own b mx ret rm n0 k j T h) {a : Addr} {n : Nat} {f : Nat → Int32} {i : Int32} (d : Isn b pc .baload 1 pc') (A : AN Z h a .boolean n f) (hi : ¬ i < 0) (hl : i.toNatClampNeg < n) (g : Go K n0 kc kj Q T pc' Ls (.int (f i.toNatClampNeg) :: rest)) : Go K n0 kc kj Q T pc Ls (.int i :: .ref a :: rest) := by
  obtain ⟨d, rfl⟩ := d; obtain ⟨locs, S, N⟩ := X.sd; obtain ⟨c, q, r, s, t⟩ := A
  exact o_go (fun t' k => S.baloadBooleans X.ex (j := i) (v := .int (f i.toNatClampNeg)) (by rw [X.hp]; exact q.1) (State.isArrayOf_alike X.wZ.alike q.2.1) q.2.2 (AN.inb r hi hl) (t _ hl) (g := mkF K.m pc Ls (.int i :: .ref a :: rest)) rfl rfl (X.dec d) t' k) g
theorem o_iastoreN (X : St K Z own b mx ret rm n0 k j T h) {a : Addr} {n : Nat} {f : Nat → Int32} {i v : Int32} (d : Isn b pc .iastore 1 pc') (A : AN Z h a .int n f) (hi : ¬ i < 0) (hl : i.toNatClampNeg < n) (ha : n0 ≤ a)
    (g : ∀ T' h', St K Z own b mx ret rm n0 k j T' h' → Wr h h' a i.toNatClampNeg (.int (v)) → AN Z h' a .int n (fun q => if q = i.toNatClampNeg then v else f q) → Go K n0 kc kj Q T' pc' Ls (rest)) : Go K n0 kc kj Q T pc Ls (.int v :: .int i :: .ref a :: rest) := by
  obtain ⟨d, rfl⟩ := d; obtain ⟨locs, S, N⟩ := X.sd; have A0 := A; obtain ⟨c, q, r, s⟩ := A
  obtain ⟨T', h', S', e', W', st'⟩ := stI S X.ex X.wZ X.hp q (j := i) (x := v) (AN.inb r hi hl) (g := mkF K.m pc Ls (.int v :: .int i :: .ref a :: rest)) rfl rfl (X.dec d)
  exact o_go (fun t k => st' t k) (g T' h' (X.mk' S' (Fr.snoc S' N ha) e') W' (A0.set W'))
theorem o_castoreN (X : St K Z own b mx ret rm n0 k j T h) {a : Addr} {n : Nat} {f : Nat → Int32} {i v : Int32} (d : Isn b pc .castore 1 pc') (A : AN Z h a .char n f) (hi : ¬ i < 0) (hl : i.toNatClampNeg < n) (ha : n0 ≤ a)
    (g : ∀ T' h', St K Z own b mx ret rm n0 k j T' h' → Wr h h' a i.toNatClampNeg (.int (nar .char v)) → AN Z h' a .char n (fun q => if q = i.toNatClampNeg then nar .char v else f q) → Go K n0 kc kj Q T' pc' Ls (rest)) : Go K n0 kc kj Q T pc Ls (.int v :: .int i :: .ref a :: rest) := by
  obtain ⟨d, rfl⟩ := d; obtain ⟨locs, S, N⟩ := X.sd; have A0 := A; obtain ⟨c, q, r, s⟩ := A
  obtain ⟨T', h', S', e', W', st'⟩ := stC S X.ex X.wZ X.hp q (j := i) (x := v) (AN.inb r hi hl) (g := mkF K.m pc Ls (.int v :: .int i :: .ref a :: rest)) rfl rfl (X.dec d)
  exact o_go (fun t k => st' t k) (g T' h' (X.mk' S' (Fr.snoc S' N ha) e') W' (A0.set W'))
theorem o_bastoreN (X : St K Z own b mx ret rm n0 k j T h) {a : Addr} {n : Nat} {f : Nat → Int32} {i v : Int32} (d : Isn b pc .bastore 1 pc') (A : AN Z h a .byte n f) (hi : ¬ i < 0) (hl : i.toNatClampNeg < n) (ha : n0 ≤ a)
    (g : ∀ T' h', St K Z own b mx ret rm n0 k j T' h' → Wr h h' a i.toNatClampNeg (.int (nar .byte v)) → AN Z h' a .byte n (fun q => if q = i.toNatClampNeg then nar .byte v else f q) → Go K n0 kc kj Q T' pc' Ls (rest)) : Go K n0 kc kj Q T pc Ls (.int v :: .int i :: .ref a :: rest) := by
  obtain ⟨d, rfl⟩ := d; obtain ⟨locs, S, N⟩ := X.sd; have A0 := A; obtain ⟨c, q, r, s⟩ := A
  obtain ⟨T', h', S', e', W', st'⟩ := stB S X.ex X.wZ X.hp q (j := i) (x := v) (AN.inb r hi hl) (g := mkF K.m pc Ls (.int v :: .int i :: .ref a :: rest)) rfl rfl (X.dec d)
  exact o_go (fun t k => st' t k) (g T' h' (X.mk' S' (Fr.snoc S' N ha) e') W' (A0.set W'))
theorem o_zastoreN (X : St K Z own b mx ret rm n0 k j T h) {a : Addr} {n : Nat} {f : Nat → Int32} {i v : Int32} (d : Isn b pc .bastore 1 pc') (A : AN Z h a .boolean n f) (hi : ¬ i < 0) (hl : i.toNatClampNeg < n) (ha : n0 ≤ a)
    (g : ∀ T' h', St K Z own b mx ret rm n0 k j T' h' → Wr h h' a i.toNatClampNeg (.int (nar .boolean v)) → AN Z h' a .boolean n (fun q => if q = i.toNatClampNeg then nar .boolean v else f q) → Go K n0 kc kj Q T' pc' Ls (rest)) : Go K n0 kc kj Q T pc Ls (.int v :: .int i :: .ref a :: rest) := by
  obtain ⟨d, rfl⟩ := d; obtain ⟨locs, S, N⟩ := X.sd; have A0 := A; obtain ⟨c, q, r, s⟩ := A
  obtain ⟨T', h', S', e', W', st'⟩ := stZ S X.ex X.wZ X.hp q (j := i) (x := v) (AN.inb r hi hl) (g := mkF K.m pc Ls (.int v :: .int i :: .ref a :: rest)) rfl rfl (X.dec d)
  exact o_go (fun t k => st' t k) (g T' h' (X.mk' S' (Fr.snoc S' N ha) e') W' (A0.set W'))
theorem o_newarrayN (X : St K Z own b mx ret rm n0 k j T h) (cap : Nat) {aty : ArrayType} {n : Int32} (m : Nat) (d : Isn b pc (.newarray aty) 2 pc') (wd : (Jvm.Cond.arrayClass (newarray.typeOf aty)).before a0 Z = true) (hn : ¬ n < 0) (hm : n.toNatClampNeg = m) (hcap : m ≤ cap) (hdv : defaultValue (newarray.typeOf aty) = .int 0) (hr : cap * 8 ≤ 536870912 ∧ k + 1 ≤ rm.cells ∧ j + cap ≤ rm.slots)
    (g : ∀ T' h' a, a = h.size → St K Z own b mx ret rm n0 (k + 1) (j + cap) T' h' → Ext h h' → AN Z h' a (newarray.typeOf aty) m (fun _ => 0) → Go K n0 kc kj Q T' pc' Ls (.ref a :: rest)) : Go K n0 kc kj Q T pc Ls (.int n :: rest) := by
  obtain ⟨d, rfl⟩ := d; obtain ⟨locs, S, N⟩ := X.sd; have hR := X.rmE
  obtain ⟨T', h', cA, S', e', E', A', st'⟩ := newP S X.ex X.wZ wd X.hp (g := mkF K.m pc Ls (.int n :: rest)) rfl (X.dec d) rfl hn (hm ▸ hcap) hr.1 (by rw [hR]; exact hr.2.1) (by rw [hR]; exact hr.2.2)
  refine o_go (fun t k => st' t k) (g T' h' h.size rfl (X.mk' S' N e') E' ⟨_, A', ?_, ?_, fun i hi => ?_⟩)
  · simpa [newA] using hm
  · have := (back32 hn).2; omega
  · simp [newA, hm, hi, hdv]
/-- a long array, by a function of the place -/
def LN (Z : State) (h : Heap) (a : Addr) (n : Nat) (f : Nat → Int64) : Prop := ∃ c : Cell, Arr Z h a c .long ∧ c.slots.size = n ∧ n < 2 ^ 31 ∧ ∀ i, i < n → c.slots[i]? = some (.long (f i))
theorem LN.lt {a : Addr} {n : Nat} {f : Nat → Int64} (A : LN Z h a n f) : a < h.size := by obtain ⟨c, q, -⟩ := A; exact q.lt
theorem LN.ext {h' : Heap} {a : Addr} {n : Nat} {f : Nat → Int64} (A : LN Z h a n f) (E : Ext h h') : LN Z h' a n f := by obtain ⟨c, q, r⟩ := A; exact ⟨c, q.ext E, r⟩
theorem LN.other {h' : Heap} {a a' : Addr} {sl : Nat} {v : Value} {n : Nat} {f : Nat → Int64} (A : LN Z h a n f) (W : Wr h h' a' sl v) (ne : a ≠ a') : LN Z h' a n f := by obtain ⟨c, q, r⟩ := A; exact ⟨c, q.other W ne, r⟩
theorem LN.set {h' : Heap} {a : Addr} {sl : Nat} {v : Int64} {n : Nat} {f : Nat → Int64} (A : LN Z h a n f) (W : Wr h h' a sl (.long v)) : LN Z h' a n (fun i => if i = sl then v else f i) := by
  obtain ⟨c, q, r, s, t⟩ := A
  refine ⟨_, q.same W, by simpa [Cell.setSlot] using r, s, fun i hi => ?_⟩
  have e := t i hi
  by_cases p : i = sl
  · subst p; have : i < c.slots.size := r ▸ hi
    simp [Cell.setSlot, this]
  · have p' : ¬ sl = i := fun q => p q.symm
    simp [Cell.setSlot, Array.getElem?_setIfInBounds, p, p', e]
theorem o_alenL (X : St K Z own b mx ret rm n0 k j T h) {a : Addr} {n : Nat} {f : Nat → Int64} (z : Int32) (d : Isn b pc .arraylength 1 pc') (A : LN Z h a n f) (hn : n.toInt32 = z) (g : Go K n0 kc kj Q T pc' Ls (.int z :: rest)) : Go K n0 kc kj Q T pc Ls (.ref a :: rest) := by
  obtain ⟨d, rfl⟩ := d; obtain ⟨locs, S, N⟩ := X.sd; obtain ⟨c, q, r, s⟩ := A
  have e : c.slots.size.toInt32 = z := by rw [r, ← hn]
  exact o_go (fun t k => S.arraylength X.ex (cell := c) (by rw [X.hp]; exact q.1) (State.isArrayOf_alike X.wZ.alike q.2.1) (g := mkF K.m pc Ls (.ref a :: rest)) rfl (rest := rest) rfl (X.dec d) t (by rw [e]; exact k)) g
theorem o_laloadN (X : St K Z own b mx ret rm n0 k j T h) {a : Addr} {n : Nat} {f : Nat → Int64} {i : Int32} (d : Isn b pc .laload 1 pc') (A : LN Z h a n f) (hi : ¬ i < 0) (hl : i.toNatClampNeg < n) (g : Go K n0 kc kj Q T pc' Ls (.long (f i.toNatClampNeg) :: rest)) : Go K n0 kc kj Q T pc Ls (.int i :: .ref a :: rest) := by
  obtain ⟨d, rfl⟩ := d; obtain ⟨locs, S, N⟩ := X.sd; obtain ⟨c, q, r, s, t⟩ := A
  exact o_go (fun t' k => S.laload X.ex (j := i) (v := .long (f i.toNatClampNeg)) (by rw [X.hp]; exact q.1) (State.isArrayOf_alike X.wZ.alike q.2.1) q.2.2 (AN.inb r hi hl) (t _ hl) (g := mkF K.m pc Ls (.int i :: .ref a :: rest)) rfl rfl (X.dec d) t' k) g
theorem o_lastoreN (X : St K Z own b mx ret rm n0 k j T h) {a : Addr} {n : Nat} {f : Nat → Int64} {i : Int32} {v : Int64} (d : Isn b pc .lastore 1 pc') (A : LN Z h a n f) (hi : ¬ i < 0) (hl : i.toNatClampNeg < n) (ha : n0 ≤ a)
    (g : ∀ T' h', St K Z own b mx ret rm n0 k j T' h' → Wr h h' a i.toNatClampNeg (.long v) → LN Z h' a n (fun q => if q = i.toNatClampNeg then v else f q) → Go K n0 kc kj Q T' pc' Ls (rest)) : Go K n0 kc kj Q T pc Ls (.long v :: .int i :: .ref a :: rest) := by
  obtain ⟨d, rfl⟩ := d; obtain ⟨locs, S, N⟩ := X.sd; have A0 := A; obtain ⟨c, q, r, s⟩ := A
  obtain ⟨T', h', S', e', W', st'⟩ := stJ S X.ex X.wZ X.hp q (j := i) (x := v) (AN.inb r hi hl) (g := mkF K.m pc Ls (.long v :: .int i :: .ref a :: rest)) rfl rfl (X.dec d)
  exact o_go (fun t k => st' t k) (g T' h' (X.mk' S' (Fr.snoc S' N ha) e') W' (A0.set W'))
theorem o_newarrayL (X : St K Z own b mx ret rm n0 k j T h) (cap : Nat) {n : Int32} (m : Nat) (d : Isn b pc (.newarray .long) 2 pc') (wd : (Jvm.Cond.arrayClass .long).before a0 Z = true) (hn : ¬ n < 0) (hm : n.toNatClampNeg = m) (hcap : m ≤ cap) (hr : cap * 8 ≤ 536870912 ∧ k + 1 ≤ rm.cells ∧ j + cap ≤ rm.slots)
    (g : ∀ T' h' a, a = h.size → St K Z own b mx ret rm n0 (k + 1) (j + cap) T' h' → Ext h h' → LN Z h' a m (fun _ => 0) → Go K n0 kc kj Q T' pc' Ls (.ref a :: rest)) : Go K n0 kc kj Q T pc Ls (.int n :: rest) := by
  obtain ⟨d, rfl⟩ := d; obtain ⟨locs, S, N⟩ := X.sd; have hR := X.rmE
  obtain ⟨T', h', cA, S', e', E', A', st'⟩ := newP S X.ex X.wZ (aty := .long) wd X.hp (g := mkF K.m pc Ls (.int n :: rest)) rfl (X.dec d) rfl hn (hm ▸ hcap) hr.1 (by rw [hR]; exact hr.2.1) (by rw [hR]; exact hr.2.2)
  refine o_go (fun t k => st' t k) (g T' h' h.size rfl (X.mk' S' N e') E' ⟨_, A', ?_, ?_, fun i hi => ?_⟩)
  · simpa [newA] using hm
  · have := (back32 hn).2; omega
  · have e : defaultValue (newarray.typeOf .long) = .long 0 := rfl
    simp [newA, hm, hi, e]
/-- an object, by all the values of these fields of its class -/
def Obj (Z : State) (h : Heap) (a : Addr) (C : String) (ns : List (String × String)) (vs : List Value) : Prop := Exa Z h a C ∧ ns.length = vs.length ∧ ∀ (i : Nat) (n d : String) (v : Value), ns[i]? = some (n, d) → vs[i]? = some v → Fld Z h a C n d v
def LdAll (Z : State) (a0 : Array Value) (C : String) (ns : List (String × String)) : Prop := (ns.map Prod.fst).Nodup ∧ ∀ q ∈ ns, Laid Z a0 C C q.1 q.2 ∧ ∃ t, parseFieldDescriptor q.2 = some t
variable {h' : Heap} {a a' : Addr} {C : String} {ns : List (String × String)} {vs : List Value} {sl : Nat} {v : Value}
theorem Obj.lt (O : Obj Z h a C ns vs) : a < h.size := O.1.lt
theorem Obj.exa (O : Obj Z h a C ns vs) : Exa Z h a C := O.1
theorem Obj.ext (O : Obj Z h a C ns vs) (E : Ext h h') : Obj Z h' a C ns vs := ⟨O.1.ext E, O.2.1, fun i n d v q r => (O.2.2 i n d v q r).ext E⟩
theorem Obj.other (O : Obj Z h a C ns vs) (W : Wr h h' a' sl v) (ne : a ≠ a') : Obj Z h' a C ns vs := ⟨O.1.wr W, O.2.1, fun i n d v q r => (O.2.2 i n d v q r).other W (Or.inl ne)⟩
theorem Obj.keep {ws : List Addr} (O : Obj Z h a C ns vs) (Kp : Keep h h' ws) (ne : a ∉ ws) : Obj Z h' a C ns vs := ⟨O.1.keep Kp, O.2.1, fun i n d v q r => (O.2.2 i n d v q r).keep Kp ne⟩
theorem Obj.new (E : Exa Z h a C) (D : ∀ {O nm dd : String} {ty : FieldType}, Laid Z a0 C O nm dd → parseFieldDescriptor dd = some ty → Fld Z h a O nm dd (defaultValue ty)) (LA : LdAll Z a0 C ns) (ts : List FieldType) (ht : ns.map (fun q => parseFieldDescriptor q.2) = ts.map some) (hv : ts.map defaultValue = vs) : Obj Z h a C ns vs := by
  refine ⟨E, by rw [← hv]; simpa using congrArg List.length ht, fun i n d v q r => ?_⟩
  subst hv
  obtain ⟨t, ht1, rfl⟩ : ∃ t, ts[i]? = some t ∧ defaultValue t = v := by simpa using r
  have q2 := congrArg (fun L => L[i]?) ht
  simp [q, ht1] at q2
  exact D (LA.2 (n, d) (List.mem_of_getElem? q)).1 q2
theorem Obj.set (O : Obj Z h a C ns vs) (LA : LdAll Z a0 C ns) {n d : String} (W : Wr h h' a (Jvm.RoadKit.slotOf Z C n d) v) (i : Nat) (hi : ns[i]? = some (n, d)) : Obj Z h' a C ns (vs.set i v) := by
  refine ⟨O.1.wr W, by simpa using O.2.1, fun j n' d' v' q r => ?_⟩
  have hil : i < ns.length := (List.getElem?_eq_some_iff.mp hi).1
  by_cases e : i = j
  · subst e
    cases hi.symm.trans q
    have hiv : i < vs.length := O.2.1 ▸ hil
    obtain ⟨w, hw⟩ : ∃ w, vs[i]? = some w := ⟨_, List.getElem?_eq_getElem hiv⟩
    have : v = v' := by simpa [List.getElem?_set, hiv] using r
    subst this
    exact (O.2.2 i n d w hi hw).same W
  · have r' : vs[j]? = some v' := by rw [List.getElem?_set_ne e] at r; exact r
    refine (O.2.2 j n' d' v' q r').other W (Or.inr ?_)
    obtain ⟨l1, t1, p1⟩ := LA.2 _ (List.mem_of_getElem? q)
    obtain ⟨l2, t2, p2⟩ := LA.2 _ (List.mem_of_getElem? hi)
    refine slot_ne l1 l2 (fun eq => e ?_) p1 p2
    have hjl : j < ns.length := (List.getElem?_eq_some_iff.mp q).1
    have e1 : (ns.map Prod.fst)[i]? = some n := by simp [hi]
    have e2 : (ns.map Prod.fst)[j]? = some n' := by simp [q]
    have eq' : n' = n := eq
    subst eq'
    obtain ⟨x1, y1⟩ := List.getElem?_eq_some_iff.mp e1
    obtain ⟨x2, y2⟩ := List.getElem?_eq_some_iff.mp e2
    have P := List.pairwise_iff_getElem.mp LA.1
    rcases Nat.lt_trichotomy i j with z | z | z
    · exact absurd (y1.trans y2.symm) (P i j x1 x2 z)
    · exact z
    · exact absurd (y2.trans y1.symm) (P j i x2 x1 z)
theorem o_getO (X : St K Z own b mx ret rm n0 k j T h) {q : Nat} {n dd : String} (i : Nat) (d : Isn b pc (.getfield q) 3 pc') (wd : (Jvm.Cond.fieldLink own q C n dd).before a0 Z = true) (O : Obj Z h a C ns vs) (hi : ns[i]? = some (n, dd)) (hv : vs[i]? = some v)
    (g : ∀ T', St K Z own b mx ret rm n0 k j T' h → Go K n0 kc kj Q T' pc' Ls (v :: rest)) : Go K n0 kc kj Q T pc Ls (.ref a :: rest) := o_getF X d wd (O.2.2 i n dd v hi hv) g
theorem o_putO (X : St K Z own b mx ret rm n0 k j T h) {q kk : Nat} {n dd : String} {ty : FieldType} {vs' : List Value} (i : Nat) (d : Isn b pc (.putfield q) 3 pc') (wd : (Jvm.Cond.fieldLink own q C n dd).before a0 Z = true) (O : Obj Z h a C ns vs) (LA : LdAll Z a0 C ns) (hi : ns[i]? = some (n, dd))
    (Lf : (Jvm.Cond.lays C C n dd).before a0 Z = true ∨ ((Jvm.Cond.laysFinal C C n dd).before a0 Z = true ∧ own = C ∧ K.meth.name = "<init>")) (wi : (Jvm.Cond.instantiable C kk).before a0 Z = true) (hty : parseFieldDescriptor dd = some ty) (hn : narrow ty v = v) (hf : fits ty v = true) (ha : n0 ≤ a) (hv : vs.set i v = vs')
    (g : ∀ T' h', St K Z own b mx ret rm n0 k j T' h' → Wr h h' a (Jvm.RoadKit.slotOf Z C n dd) v → Obj Z h' a C ns vs' → Go K n0 kc kj Q T' pc' Ls (rest)) : Go K n0 kc kj Q T pc Ls (v :: .ref a :: rest) := by
  have hil : i < vs.length := O.2.1 ▸ (List.getElem?_eq_some_iff.mp hi).1
  exact o_putF X d wd (O.2.2 i n dd _ hi (List.getElem?_eq_getElem hil)) O.1 Lf wi hty hn hf ha fun T' h' X' W => g T' h' X' W (hv ▸ O.set LA W i hi)
end OwnKit
theorem pd0 : parseMethodDescriptor "()V" = some ⟨[], none⟩ := by decide +kernel
theorem pd1 : parseMethodDescriptor "(IIZ)I" = some ⟨[.int, .int, .boolean], some .int⟩ := by decide +kernel
theorem pd2 : parseMethodDescriptor "(I)Z" = some ⟨[.int], some .boolean⟩ := by decide +kernel
theorem pd3 : parseMethodDescriptor "(I)V" = some ⟨[.int], none⟩ := by decide +kernel
theorem pn0 : plainName "com/example/amends/amends/core/Recall" = true := by first | (simp [plainName, overriddenIn]; done) | decide +kernel
theorem pn1 : plainName "com/example/amends/amends/core/RecallKeepsMovesOfPinLaw" = true := by first | (simp [plainName, overriddenIn]; done) | decide +kernel
abbrev own_C : String := "com/example/amends/amends/core/Recall"
def own_ns : List (String × String) := [("kept", "[Lcom/example/amends/amends/core/Recall$Made;"), ("deepest", "I"), ("rest", "J"), ("seedNesting", "I"), ("followed", "J"), ("deepestAt", "J"), ("grown", "J"), ("takenOverAt", "J"), ("restUntil", "J")]
theorem own_ld (Z : State) (a0 : Array Value) (hw : ∀ d ∈ tables_1, d.before a0 Z = true) : LdAll Z a0 own_C own_ns := by
  refine ⟨by decide, fun q hq => ?_⟩
  simp only [own_ns, List.mem_cons, List.not_mem_nil, or_false] at hq
  rcases hq with rfl | rfl | rfl | rfl | rfl | rfl | rfl | rfl | rfl
  · exact ⟨Or.inr (hw _ (List.mem_of_getElem? (i := 13) rfl)), ⟨_, (by decide : parseFieldDescriptor "[Lcom/example/amends/amends/core/Recall$Made;" = some (.array (.object "com/example/amends/amends/core/Recall$Made")))⟩⟩
  · exact ⟨Or.inl (hw _ (List.mem_of_getElem? (i := 15) rfl)), ⟨_, (by decide : parseFieldDescriptor "I" = some .int)⟩⟩
  · exact ⟨Or.inl (hw _ (List.mem_of_getElem? (i := 18) rfl)), ⟨_, (by decide : parseFieldDescriptor "J" = some .long)⟩⟩
  · exact ⟨Or.inl (hw _ (List.mem_of_getElem? (i := 25) rfl)), ⟨_, (by decide : parseFieldDescriptor "I" = some .int)⟩⟩
  · exact ⟨Or.inl (hw _ (List.mem_of_getElem? (i := 27) rfl)), ⟨_, (by decide : parseFieldDescriptor "J" = some .long)⟩⟩
  · exact ⟨Or.inl (hw _ (List.mem_of_getElem? (i := 29) rfl)), ⟨_, (by decide : parseFieldDescriptor "J" = some .long)⟩⟩
  · exact ⟨Or.inl (hw _ (List.mem_of_getElem? (i := 31) rfl)), ⟨_, (by decide : parseFieldDescriptor "J" = some .long)⟩⟩
  · exact ⟨Or.inl (hw _ (List.mem_of_getElem? (i := 33) rfl)), ⟨_, (by decide : parseFieldDescriptor "J" = some .long)⟩⟩
  · exact ⟨Or.inl (hw _ (List.mem_of_getElem? (i := 35) rfl)), ⟨_, (by decide : parseFieldDescriptor "J" = some .long)⟩⟩
/-- the object behind m calls: its counters are small -/
def own_Inv (Z : State) (h : Heap) (a : Addr) (sn : Int32) (m : Nat) : Prop := ∃ (kp : Value) (dp : Int32) (re fo da gr ru : Int64), Obj Z h a own_C own_ns [kp, .int dp, .long re, .int sn, .long fo, .long da, .long gr, .long 0, .long ru] ∧ fo.toInt = m ∧ 0 ≤ da.toInt ∧ da.toInt ≤ m ∧ 0 ≤ gr.toInt ∧ gr.toInt ≤ m
def own_k (n sn : Int32) : Int32 := if n < sn + 8 then 0 else 1
theorem own_add1 (x : Int64) (m : Nat) (hm : m ≤ 50) (h0 : 0 ≤ x.toInt) (h1 : x.toInt ≤ m) : (x + 1).toInt = x.toInt + 1 := by
  have e1 : (1 : Int64).toInt = 1 := by decide
  rw [XT.add64 (by rw [e1]; exact ⟨by omega, by omega⟩), e1]
theorem own_d1 (fo da : Int64) (m : Nat) (hm : m ≤ 50) (h : fo.toInt = m) (h0 : 0 ≤ da.toInt) (h1 : da.toInt ≤ m) : fo + 1 - da < 64 := by
  have e := own_add1 fo m hm (by omega) (by omega)
  rw [Int64.lt_iff_toInt_lt, XT.sub64 (by rw [e]; exact ⟨by omega, by omega⟩), e]
  show _ < (64 : Int); omega
theorem own_d2 (x : Int64) : x - x < 64 := by rw [Int64.sub_self]; decide
theorem own_d3 (gr : Int64) (m : Nat) (hm : m ≤ 50) (h0 : 0 ≤ gr.toInt) (h1 : gr.toInt ≤ m) : ¬ 64 < gr + 1 - 0 := by
  rw [Int64.sub_zero, Int64.lt_iff_toInt_lt, own_add1 gr m hm h0 h1]
  show ¬ (64 : Int) < _; omega
theorem f1_0 : Isn prog_77_method_1_code 0 (.aload_n 0) 1 1 := ⟨by decide +kernel, rfl⟩
theorem f1_1 : Isn prog_77_method_1_code 1 (.invokespecial 3) 3 4 := ⟨by decide +kernel, rfl⟩
theorem f1_4 : Isn prog_77_method_1_code 4 (.aload_n 0) 1 5 := ⟨by decide +kernel, rfl⟩
theorem f1_5 : Isn prog_77_method_1_code 5 (.bipush 64) 2 7 := ⟨by decide +kernel, rfl⟩
theorem f1_7 : Isn prog_77_method_1_code 7 (.anewarray 9) 3 10 := ⟨by decide +kernel, rfl⟩
theorem f1_10 : Isn prog_77_method_1_code 10 (.putfield 11) 3 13 := ⟨by decide +kernel, rfl⟩
theorem f1_13 : Isn prog_77_method_1_code 13 (.aload_n 0) 1 14 := ⟨by decide +kernel, rfl⟩
theorem f1_14 : Isn prog_77_method_1_code 14 (.iconst (-1)) 1 15 := ⟨by decide +kernel, rfl⟩
theorem f1_15 : Isn prog_77_method_1_code 15 (.putfield 15) 3 18 := ⟨by decide +kernel, rfl⟩
theorem f1_18 : Isn prog_77_method_1_code 18 (.aload_n 0) 1 19 := ⟨by decide +kernel, rfl⟩
theorem f1_19 : Isn prog_77_method_1_code 19 (.ldc2_w 19) 3 22 := ⟨by decide +kernel, rfl⟩
theorem f1_22 : Isn prog_77_method_1_code 22 (.putfield 21) 3 25 := ⟨by decide +kernel, rfl⟩
theorem f1_25 : Isn prog_77_method_1_code 25 (.return_) 1 26 := ⟨by decide +kernel, rfl⟩
set_option maxRecDepth 65536 in
set_option maxHeartbeats 40000000 in
theorem rm1 (l : Launch) (Z : State) (a0 : Array Value) (hw : ∀ d ∈ tables_1, d.before a0 Z = true) (a : Addr) (h : Heap) (n0 : Nat) (ha : n0 ≤ a) (O : Obj Z h a own_C own_ns [.null, .int 0, .long 0, .int 0, .long 0, .long 0, .long 0, .long 0, .long 0]) :
    Ctr l Z (⟨"com/example/amends/amends/core/Recall", "<init>", "()V"⟩ : MethodName) prog_77_method_1_code 1 (none) ({ frames := 1, cells := 1, slots := 64, locals := 18 } : Room) [.ref a] h n0 (fun v h' => v = none ∧ own_Inv Z h' a 0 0) := by
  refine CtrW.intro (plainFor_of_name pn0) rfl #[.val (.ref a)] rfl ?_
  intro K T hnm hl X
  subst hl
  refine o_aload_n X f1_0 rfl rfl ?_
  refine o_initO X 6 f1_1 (hw _ (List.mem_of_getElem? (i := 7) rfl)) (hw _ (List.mem_of_getElem? (i := 8) rfl)) (hw _ (List.mem_of_getElem? (i := 9) rfl)) rfl (by first | exact Nat.zero_le _ | simp [Value.category]) (by decide) ?_
  intro T1 X1
  refine o_aload_n X1 f1_4 rfl rfl ?_
  refine o_bipush 64 X1 f1_5 rfl ?_
  refine o_anewarray X1 64 f1_7 (hw _ (List.mem_of_getElem? (i := 10) rfl)) (hw _ (List.mem_of_getElem? (i := 11) rfl)) (by decide) (by decide) rfl (by decide) ?_
  intro T2 h2 r2 e2 X2 E2 _ _
  have O2 := O.ext E2
  refine o_putO X2 0 f1_10 (hw _ (List.mem_of_getElem? (i := 12) rfl)) O2 (own_ld Z a0 hw) rfl (Or.inr ⟨(hw _ (List.mem_of_getElem? (i := 13) rfl)), rfl, hnm⟩) (hw _ (List.mem_of_getElem? (i := 2) rfl)) (ty := (.array (.object "com/example/amends/amends/core/Recall$Made"))) (by decide) rfl rfl ha (vs' := [_, _, _, _, _, _, _, _, _]) rfl ?_
  intro T3 h3 X3 W3 O3
  refine o_aload_n X3 f1_13 rfl rfl ?_
  refine o_iconst (-1) X3 f1_14 rfl ?_
  refine o_putO X3 1 f1_15 (hw _ (List.mem_of_getElem? (i := 14) rfl)) O3 (own_ld Z a0 hw) rfl (Or.inl (hw _ (List.mem_of_getElem? (i := 15) rfl))) (hw _ (List.mem_of_getElem? (i := 2) rfl)) (ty := .int) (by decide) rfl rfl ha (vs' := [_, _, _, _, _, _, _, _, _]) rfl ?_
  intro T4 h4 X4 W4 O4
  refine o_aload_n X4 f1_18 rfl rfl ?_
  refine o_ldc2 X4 f1_19 (hw _ (List.mem_of_getElem? (i := 16) rfl)) ?_
  refine o_putO X4 2 f1_22 (hw _ (List.mem_of_getElem? (i := 17) rfl)) O4 (own_ld Z a0 hw) rfl (Or.inl (hw _ (List.mem_of_getElem? (i := 18) rfl))) (hw _ (List.mem_of_getElem? (i := 2) rfl)) (ty := .long) (by decide) rfl rfl ha (vs' := [_, _, _, _, _, _, _, _, _]) rfl ?_
  intro T5 h5 X5 W5 O5
  refine o_ret0 X5 f1_25 (by decide) (by decide) ?_
  exact ⟨rfl, _, _, _, _, _, _, _, O5, rfl, by decide, by decide, by decide, by decide⟩
theorem f3_0 : Isn prog_77_method_5_code 0 (.aload_n 0) 1 1 := ⟨by decide +kernel, rfl⟩
theorem f3_1 : Isn prog_77_method_5_code 1 (.iload_n 1) 1 2 := ⟨by decide +kernel, rfl⟩
theorem f3_2 : Isn prog_77_method_5_code 2 (.putfield 90) 3 5 := ⟨by decide +kernel, rfl⟩
theorem f3_5 : Isn prog_77_method_5_code 5 (.aload_n 0) 1 6 := ⟨by decide +kernel, rfl⟩
theorem f3_6 : Isn prog_77_method_5_code 6 (.iconst (-1)) 1 7 := ⟨by decide +kernel, rfl⟩
theorem f3_7 : Isn prog_77_method_5_code 7 (.putfield 15) 3 10 := ⟨by decide +kernel, rfl⟩
theorem f3_10 : Isn prog_77_method_5_code 10 (.aload_n 0) 1 11 := ⟨by decide +kernel, rfl⟩
theorem f3_11 : Isn prog_77_method_5_code 11 (.lconst 0) 1 12 := ⟨by decide +kernel, rfl⟩
theorem f3_12 : Isn prog_77_method_5_code 12 (.putfield 93) 3 15 := ⟨by decide +kernel, rfl⟩
theorem f3_15 : Isn prog_77_method_5_code 15 (.aload_n 0) 1 16 := ⟨by decide +kernel, rfl⟩
theorem f3_16 : Isn prog_77_method_5_code 16 (.lconst 0) 1 17 := ⟨by decide +kernel, rfl⟩
theorem f3_17 : Isn prog_77_method_5_code 17 (.putfield 96) 3 20 := ⟨by decide +kernel, rfl⟩
theorem f3_20 : Isn prog_77_method_5_code 20 (.aload_n 0) 1 21 := ⟨by decide +kernel, rfl⟩
theorem f3_21 : Isn prog_77_method_5_code 21 (.lconst 0) 1 22 := ⟨by decide +kernel, rfl⟩
theorem f3_22 : Isn prog_77_method_5_code 22 (.putfield 57) 3 25 := ⟨by decide +kernel, rfl⟩
theorem f3_25 : Isn prog_77_method_5_code 25 (.aload_n 0) 1 26 := ⟨by decide +kernel, rfl⟩
theorem f3_26 : Isn prog_77_method_5_code 26 (.lconst 0) 1 27 := ⟨by decide +kernel, rfl⟩
theorem f3_27 : Isn prog_77_method_5_code 27 (.putfield 60) 3 30 := ⟨by decide +kernel, rfl⟩
theorem f3_30 : Isn prog_77_method_5_code 30 (.aload_n 0) 1 31 := ⟨by decide +kernel, rfl⟩
theorem f3_31 : Isn prog_77_method_5_code 31 (.lconst 0) 1 32 := ⟨by decide +kernel, rfl⟩
theorem f3_32 : Isn prog_77_method_5_code 32 (.putfield 99) 3 35 := ⟨by decide +kernel, rfl⟩
theorem f3_35 : Isn prog_77_method_5_code 35 (.aload_n 0) 1 36 := ⟨by decide +kernel, rfl⟩
theorem f3_36 : Isn prog_77_method_5_code 36 (.ldc2_w 19) 3 39 := ⟨by decide +kernel, rfl⟩
theorem f3_39 : Isn prog_77_method_5_code 39 (.putfield 21) 3 42 := ⟨by decide +kernel, rfl⟩
theorem f3_42 : Isn prog_77_method_5_code 42 (.return_) 1 43 := ⟨by decide +kernel, rfl⟩
set_option maxRecDepth 65536 in
set_option maxHeartbeats 40000000 in
theorem rm3 (l : Launch) (Z : State) (a0 : Array Value) (hw : ∀ d ∈ tables_1, d.before a0 Z = true) (a : Addr) (x0 : Int32) (h : Heap) (n0 : Nat) (ha : n0 ≤ a) (sn : Int32) (m : Nat) (I : own_Inv Z h a sn m) :
    Ctr l Z (⟨"com/example/amends/amends/core/Recall", "startFrom", "(I)V"⟩ : MethodName) prog_77_method_5_code 2 (none) ({ frames := 0, cells := 0, slots := 0, locals := 0 } : Room) [.ref a, .int x0] h n0 (fun v h' => v = none ∧ own_Inv Z h' a x0 0) := by
  refine CtrW.intro (plainFor_of_name pn0) rfl #[.val (.ref a), .val (.int x0)] rfl ?_
  intro K T hnm hl X
  subst hl
  obtain ⟨kp, dp, re, fo, da, gr, ru, O, b1, b2, b3, b4, b5⟩ := I
  refine o_aload_n X f3_0 rfl rfl ?_
  refine o_iload_n X f3_1 rfl ?_
  refine o_putO X 3 f3_2 (hw _ (List.mem_of_getElem? (i := 24) rfl)) O (own_ld Z a0 hw) rfl (Or.inl (hw _ (List.mem_of_getElem? (i := 25) rfl))) (hw _ (List.mem_of_getElem? (i := 2) rfl)) (ty := .int) (by decide) rfl rfl ha (vs' := [_, _, _, _, _, _, _, _, _]) rfl ?_
  intro T1 h1 X1 W1 O1
  refine o_aload_n X1 f3_5 rfl rfl ?_
  refine o_iconst (-1) X1 f3_6 rfl ?_
  refine o_putO X1 1 f3_7 (hw _ (List.mem_of_getElem? (i := 14) rfl)) O1 (own_ld Z a0 hw) rfl (Or.inl (hw _ (List.mem_of_getElem? (i := 15) rfl))) (hw _ (List.mem_of_getElem? (i := 2) rfl)) (ty := .int) (by decide) rfl rfl ha (vs' := [_, _, _, _, _, _, _, _, _]) rfl ?_
  intro T2 h2 X2 W2 O2
  refine o_aload_n X2 f3_10 rfl rfl ?_
  refine o_lconst 0 X2 f3_11 rfl ?_
  refine o_putO X2 4 f3_12 (hw _ (List.mem_of_getElem? (i := 26) rfl)) O2 (own_ld Z a0 hw) rfl (Or.inl (hw _ (List.mem_of_getElem? (i := 27) rfl))) (hw _ (List.mem_of_getElem? (i := 2) rfl)) (ty := .long) (by decide) rfl rfl ha (vs' := [_, _, _, _, _, _, _, _, _]) rfl ?_
  intro T3 h3 X3 W3 O3
  refine o_aload_n X3 f3_15 rfl rfl ?_
  refine o_lconst 0 X3 f3_16 rfl ?_
  refine o_putO X3 5 f3_17 (hw _ (List.mem_of_getElem? (i := 28) rfl)) O3 (own_ld Z a0 hw) rfl (Or.inl (hw _ (List.mem_of_getElem? (i := 29) rfl))) (hw _ (List.mem_of_getElem? (i := 2) rfl)) (ty := .long) (by decide) rfl rfl ha (vs' := [_, _, _, _, _, _, _, _, _]) rfl ?_
  intro T4 h4 X4 W4 O4
  refine o_aload_n X4 f3_20 rfl rfl ?_
  refine o_lconst 0 X4 f3_21 rfl ?_
  refine o_putO X4 6 f3_22 (hw _ (List.mem_of_getElem? (i := 30) rfl)) O4 (own_ld Z a0 hw) rfl (Or.inl (hw _ (List.mem_of_getElem? (i := 31) rfl))) (hw _ (List.mem_of_getElem? (i := 2) rfl)) (ty := .long) (by decide) rfl rfl ha (vs' := [_, _, _, _, _, _, _, _, _]) rfl ?_
  intro T5 h5 X5 W5 O5
  refine o_aload_n X5 f3_25 rfl rfl ?_
  refine o_lconst 0 X5 f3_26 rfl ?_
  refine o_putO X5 7 f3_27 (hw _ (List.mem_of_getElem? (i := 32) rfl)) O5 (own_ld Z a0 hw) rfl (Or.inl (hw _ (List.mem_of_getElem? (i := 33) rfl))) (hw _ (List.mem_of_getElem? (i := 2) rfl)) (ty := .long) (by decide) rfl rfl ha (vs' := [_, _, _, _, _, _, _, _, _]) rfl ?_
  intro T6 h6 X6 W6 O6
  refine o_aload_n X6 f3_30 rfl rfl ?_
  refine o_lconst 0 X6 f3_31 rfl ?_
  refine o_putO X6 8 f3_32 (hw _ (List.mem_of_getElem? (i := 34) rfl)) O6 (own_ld Z a0 hw) rfl (Or.inl (hw _ (List.mem_of_getElem? (i := 35) rfl))) (hw _ (List.mem_of_getElem? (i := 2) rfl)) (ty := .long) (by decide) rfl rfl ha (vs' := [_, _, _, _, _, _, _, _, _]) rfl ?_
  intro T7 h7 X7 W7 O7
  refine o_aload_n X7 f3_35 rfl rfl ?_
  refine o_ldc2 X7 f3_36 (hw _ (List.mem_of_getElem? (i := 16) rfl)) ?_
  refine o_putO X7 2 f3_39 (hw _ (List.mem_of_getElem? (i := 17) rfl)) O7 (own_ld Z a0 hw) rfl (Or.inl (hw _ (List.mem_of_getElem? (i := 18) rfl))) (hw _ (List.mem_of_getElem? (i := 2) rfl)) (ty := .long) (by decide) rfl rfl ha (vs' := [_, _, _, _, _, _, _, _, _]) rfl ?_
  intro T8 h8 X8 W8 O8
  refine o_ret0 X8 f3_42 (by decide) (by decide) ?_
  exact ⟨rfl, _, _, _, _, _, _, _, O8, rfl, by decide, by decide, by decide, by decide⟩
theorem f5_0 : Isn prog_77_method_6_code 0 (.aload_n 0) 1 1 := ⟨by decide +kernel, rfl⟩
theorem f5_1 : Isn prog_77_method_6_code 1 (.dup) 1 2 := ⟨by decide +kernel, rfl⟩
theorem f5_2 : Isn prog_77_method_6_code 2 (.getfield 93) 3 5 := ⟨by decide +kernel, rfl⟩
theorem f5_5 : Isn prog_77_method_6_code 5 (.lconst 1) 1 6 := ⟨by decide +kernel, rfl⟩
theorem f5_6 : Isn prog_77_method_6_code 6 (.ladd) 1 7 := ⟨by decide +kernel, rfl⟩
theorem f5_7 : Isn prog_77_method_6_code 7 (.putfield 93) 3 10 := ⟨by decide +kernel, rfl⟩
theorem f5_10 : Isn prog_77_method_6_code 10 (.iload_n 1) 1 11 := ⟨by decide +kernel, rfl⟩
theorem f5_11 : Isn prog_77_method_6_code 11 (.aload_n 0) 1 12 := ⟨by decide +kernel, rfl⟩
theorem f5_12 : Isn prog_77_method_6_code 12 (.getfield 15) 3 15 := ⟨by decide +kernel, rfl⟩
theorem f5_15 : Brn prog_77_method_6_code 15 (.if_icmp .le 16) 16 18 31 := ⟨by decide +kernel, rfl, by decide, by decide⟩
theorem f5_18 : Isn prog_77_method_6_code 18 (.aload_n 0) 1 19 := ⟨by decide +kernel, rfl⟩
theorem f5_19 : Isn prog_77_method_6_code 19 (.iload_n 1) 1 20 := ⟨by decide +kernel, rfl⟩
theorem f5_20 : Isn prog_77_method_6_code 20 (.putfield 15) 3 23 := ⟨by decide +kernel, rfl⟩
theorem f5_23 : Isn prog_77_method_6_code 23 (.aload_n 0) 1 24 := ⟨by decide +kernel, rfl⟩
theorem f5_24 : Isn prog_77_method_6_code 24 (.aload_n 0) 1 25 := ⟨by decide +kernel, rfl⟩
theorem f5_25 : Isn prog_77_method_6_code 25 (.getfield 93) 3 28 := ⟨by decide +kernel, rfl⟩
theorem f5_28 : Isn prog_77_method_6_code 28 (.putfield 96) 3 31 := ⟨by decide +kernel, rfl⟩
theorem f5_31 : Isn prog_77_method_6_code 31 (.iload_n 1) 1 32 := ⟨by decide +kernel, rfl⟩
theorem f5_32 : Isn prog_77_method_6_code 32 (.aload_n 0) 1 33 := ⟨by decide +kernel, rfl⟩
theorem f5_33 : Isn prog_77_method_6_code 33 (.getfield 90) 3 36 := ⟨by decide +kernel, rfl⟩
theorem f5_36 : Isn prog_77_method_6_code 36 (.bipush 8) 2 38 := ⟨by decide +kernel, rfl⟩
theorem f5_38 : Isn prog_77_method_6_code 38 (.iadd) 1 39 := ⟨by decide +kernel, rfl⟩
theorem f5_39 : Brn prog_77_method_6_code 39 (.if_icmp .lt 19) 19 42 58 := ⟨by decide +kernel, rfl, by decide, by decide⟩
theorem f5_42 : Isn prog_77_method_6_code 42 (.aload_n 0) 1 43 := ⟨by decide +kernel, rfl⟩
theorem f5_43 : Isn prog_77_method_6_code 43 (.getfield 93) 3 46 := ⟨by decide +kernel, rfl⟩
theorem f5_46 : Isn prog_77_method_6_code 46 (.aload_n 0) 1 47 := ⟨by decide +kernel, rfl⟩
theorem f5_47 : Isn prog_77_method_6_code 47 (.getfield 96) 3 50 := ⟨by decide +kernel, rfl⟩
theorem f5_50 : Isn prog_77_method_6_code 50 (.lsub) 1 51 := ⟨by decide +kernel, rfl⟩
theorem f5_51 : Isn prog_77_method_6_code 51 (.ldc2_w 19) 3 54 := ⟨by decide +kernel, rfl⟩
theorem f5_54 : Isn prog_77_method_6_code 54 (.lcmp) 1 55 := ⟨by decide +kernel, rfl⟩
theorem f5_55 : Brn prog_77_method_6_code 55 (.ifCond .lt 5) 5 58 60 := ⟨by decide +kernel, rfl, by decide, by decide⟩
theorem f5_58 : Isn prog_77_method_6_code 58 (.iconst 0) 1 59 := ⟨by decide +kernel, rfl⟩
theorem f5_59 : Isn prog_77_method_6_code 59 (.ireturn) 1 60 := ⟨by decide +kernel, rfl⟩
theorem f5_60 : Isn prog_77_method_6_code 60 (.aload_n 0) 1 61 := ⟨by decide +kernel, rfl⟩
theorem f5_61 : Isn prog_77_method_6_code 61 (.dup) 1 62 := ⟨by decide +kernel, rfl⟩
theorem f5_62 : Isn prog_77_method_6_code 62 (.getfield 57) 3 65 := ⟨by decide +kernel, rfl⟩
theorem f5_65 : Isn prog_77_method_6_code 65 (.lconst 1) 1 66 := ⟨by decide +kernel, rfl⟩
theorem f5_66 : Isn prog_77_method_6_code 66 (.ladd) 1 67 := ⟨by decide +kernel, rfl⟩
theorem f5_67 : Isn prog_77_method_6_code 67 (.putfield 57) 3 70 := ⟨by decide +kernel, rfl⟩
theorem f5_70 : Isn prog_77_method_6_code 70 (.aload_n 0) 1 71 := ⟨by decide +kernel, rfl⟩
theorem f5_71 : Isn prog_77_method_6_code 71 (.getfield 57) 3 74 := ⟨by decide +kernel, rfl⟩
theorem f5_74 : Isn prog_77_method_6_code 74 (.aload_n 0) 1 75 := ⟨by decide +kernel, rfl⟩
theorem f5_75 : Isn prog_77_method_6_code 75 (.getfield 60) 3 78 := ⟨by decide +kernel, rfl⟩
theorem f5_78 : Isn prog_77_method_6_code 78 (.lsub) 1 79 := ⟨by decide +kernel, rfl⟩
theorem f5_79 : Isn prog_77_method_6_code 79 (.ldc2_w 19) 3 82 := ⟨by decide +kernel, rfl⟩
theorem f5_82 : Isn prog_77_method_6_code 82 (.lcmp) 1 83 := ⟨by decide +kernel, rfl⟩
theorem f5_83 : Brn prog_77_method_6_code 83 (.ifCond .gt 7) 7 86 90 := ⟨by decide +kernel, rfl, by decide, by decide⟩
theorem f5_86 : Isn prog_77_method_6_code 86 (.iconst 1) 1 87 := ⟨by decide +kernel, rfl⟩
theorem f5_87 : Brn prog_77_method_6_code 87 (.goto 4) 4 90 91 := ⟨by decide +kernel, rfl, by decide, by decide⟩
theorem f5_90 : Isn prog_77_method_6_code 90 (.iconst 0) 1 91 := ⟨by decide +kernel, rfl⟩
theorem f5_91 : Isn prog_77_method_6_code 91 (.istore_n 2) 1 92 := ⟨by decide +kernel, rfl⟩
theorem f5_92 : Isn prog_77_method_6_code 92 (.iload_n 2) 1 93 := ⟨by decide +kernel, rfl⟩
theorem f5_93 : Brn prog_77_method_6_code 93 (.ifCond .ne 43) 43 96 136 := ⟨by decide +kernel, rfl, by decide, by decide⟩
theorem f5_96 : Isn prog_77_method_6_code 96 (.aload_n 0) 1 97 := ⟨by decide +kernel, rfl⟩
theorem f5_97 : Isn prog_77_method_6_code 97 (.getfield 99) 3 100 := ⟨by decide +kernel, rfl⟩
theorem f5_100 : Isn prog_77_method_6_code 100 (.aload_n 0) 1 101 := ⟨by decide +kernel, rfl⟩
theorem f5_101 : Isn prog_77_method_6_code 101 (.getfield 60) 3 104 := ⟨by decide +kernel, rfl⟩
theorem f5_104 : Isn prog_77_method_6_code 104 (.lcmp) 1 105 := ⟨by decide +kernel, rfl⟩
theorem f5_105 : Brn prog_77_method_6_code 105 (.ifCond .gt 31) 31 108 136 := ⟨by decide +kernel, rfl, by decide, by decide⟩
theorem f5_108 : Isn prog_77_method_6_code 108 (.aload_n 0) 1 109 := ⟨by decide +kernel, rfl⟩
theorem f5_109 : Isn prog_77_method_6_code 109 (.aload_n 0) 1 110 := ⟨by decide +kernel, rfl⟩
theorem f5_110 : Isn prog_77_method_6_code 110 (.getfield 57) 3 113 := ⟨by decide +kernel, rfl⟩
theorem f5_113 : Isn prog_77_method_6_code 113 (.aload_n 0) 1 114 := ⟨by decide +kernel, rfl⟩
theorem f5_114 : Isn prog_77_method_6_code 114 (.getfield 21) 3 117 := ⟨by decide +kernel, rfl⟩
theorem f5_117 : Isn prog_77_method_6_code 117 (.ladd) 1 118 := ⟨by decide +kernel, rfl⟩
theorem f5_118 : Isn prog_77_method_6_code 118 (.putfield 99) 3 121 := ⟨by decide +kernel, rfl⟩
theorem f5_121 : Isn prog_77_method_6_code 121 (.aload_n 0) 1 122 := ⟨by decide +kernel, rfl⟩
theorem f5_122 : Isn prog_77_method_6_code 122 (.ldc2_w 102) 3 125 := ⟨by decide +kernel, rfl⟩
theorem f5_125 : Isn prog_77_method_6_code 125 (.aload_n 0) 1 126 := ⟨by decide +kernel, rfl⟩
theorem f5_126 : Isn prog_77_method_6_code 126 (.getfield 21) 3 129 := ⟨by decide +kernel, rfl⟩
theorem f5_129 : Isn prog_77_method_6_code 129 (.lmul) 1 130 := ⟨by decide +kernel, rfl⟩
theorem f5_130 : Isn prog_77_method_6_code 130 (.putfield 21) 3 133 := ⟨by decide +kernel, rfl⟩
theorem f5_133 : Brn prog_77_method_6_code 133 (.goto 29) 29 136 162 := ⟨by decide +kernel, rfl, by decide, by decide⟩
theorem f5_136 : Isn prog_77_method_6_code 136 (.iload_n 2) 1 137 := ⟨by decide +kernel, rfl⟩
theorem f5_137 : Brn prog_77_method_6_code 137 (.ifCond .ne 25) 25 140 162 := ⟨by decide +kernel, rfl, by decide, by decide⟩
theorem f5_140 : Isn prog_77_method_6_code 140 (.aload_n 0) 1 141 := ⟨by decide +kernel, rfl⟩
theorem f5_141 : Isn prog_77_method_6_code 141 (.getfield 57) 3 144 := ⟨by decide +kernel, rfl⟩
theorem f5_144 : Isn prog_77_method_6_code 144 (.aload_n 0) 1 145 := ⟨by decide +kernel, rfl⟩
theorem f5_145 : Isn prog_77_method_6_code 145 (.getfield 99) 3 148 := ⟨by decide +kernel, rfl⟩
theorem f5_148 : Isn prog_77_method_6_code 148 (.lcmp) 1 149 := ⟨by decide +kernel, rfl⟩
theorem f5_149 : Brn prog_77_method_6_code 149 (.ifCond .lt 13) 13 152 162 := ⟨by decide +kernel, rfl, by decide, by decide⟩
theorem f5_152 : Isn prog_77_method_6_code 152 (.aload_n 0) 1 153 := ⟨by decide +kernel, rfl⟩
theorem f5_153 : Isn prog_77_method_6_code 153 (.aload_n 0) 1 154 := ⟨by decide +kernel, rfl⟩
theorem f5_154 : Isn prog_77_method_6_code 154 (.getfield 57) 3 157 := ⟨by decide +kernel, rfl⟩
theorem f5_157 : Isn prog_77_method_6_code 157 (.putfield 60) 3 160 := ⟨by decide +kernel, rfl⟩
theorem f5_160 : Isn prog_77_method_6_code 160 (.iconst 1) 1 161 := ⟨by decide +kernel, rfl⟩
theorem f5_161 : Isn prog_77_method_6_code 161 (.istore_n 2) 1 162 := ⟨by decide +kernel, rfl⟩
theorem f5_162 : Isn prog_77_method_6_code 162 (.iload_n 2) 1 163 := ⟨by decide +kernel, rfl⟩
theorem f5_163 : Isn prog_77_method_6_code 163 (.ireturn) 1 164 := ⟨by decide +kernel, rfl⟩
set_option maxRecDepth 65536 in
set_option maxHeartbeats 40000000 in
theorem rm5 (l : Launch) (Z : State) (a0 : Array Value) (hw : ∀ d ∈ tables_1, d.before a0 Z = true) (a : Addr) (x0 : Int32) (h : Heap) (n0 : Nat) (ha : n0 ≤ a) (sn : Int32) (m : Nat) (hm : m ≤ 50) (I : own_Inv Z h a sn m) :
    Ctr l Z (⟨"com/example/amends/amends/core/Recall", "keepsMovesOf", "(I)Z"⟩ : MethodName) prog_77_method_6_code 3 (some (.boolean)) ({ frames := 0, cells := 0, slots := 0, locals := 0 } : Room) [.ref a, .int x0] h n0 (fun v h' => v = some (.int (own_k x0 sn)) ∧ own_Inv Z h' a sn (m + 1)) := by
  refine CtrW.intro (plainFor_of_name pn0) rfl #[.val (.ref a), .val (.int x0), .unset] rfl ?_
  intro K T hnm hl X
  subst hl
  obtain ⟨kp, dp, re, fo, da, gr, ru, O, b1, b2, b3, b4, b5⟩ := I
  have eF := own_add1 fo m hm (by omega) (by omega)
  have eG := own_add1 gr m hm b4 b5
  refine o_aload_n X f5_0 rfl rfl ?_
  refine o_dup X f5_1 rfl ?_
  refine o_getO X 4 f5_2 (hw _ (List.mem_of_getElem? (i := 26) rfl)) O rfl rfl ?_
  intro T1 X1
  refine o_lconst 1 X1 f5_5 rfl ?_
  refine o_ladd X1 f5_6 ?_
  refine o_putO X1 4 f5_7 (hw _ (List.mem_of_getElem? (i := 26) rfl)) O (own_ld Z a0 hw) rfl (Or.inl (hw _ (List.mem_of_getElem? (i := 27) rfl))) (hw _ (List.mem_of_getElem? (i := 2) rfl)) (ty := .long) (by decide) rfl rfl ha (vs' := [_, _, _, _, _, _, _, _, _]) rfl ?_
  intro T2 h2 X2 W2 O2
  refine o_iload_n X2 f5_10 rfl ?_
  refine o_aload_n X2 f5_11 rfl rfl ?_
  refine o_getO X2 1 f5_12 (hw _ (List.mem_of_getElem? (i := 14) rfl)) O2 rfl rfl ?_
  intro T3 X3
  refine o_icmp_le X3 f5_15 (fun q15 => ?_) (fun q15 => ?_)
  · refine o_iload_n X3 f5_31 rfl ?_
    refine o_aload_n X3 f5_32 rfl rfl ?_
    refine o_getO X3 3 f5_33 (hw _ (List.mem_of_getElem? (i := 24) rfl)) O2 rfl rfl ?_
    intro T4 X4
    refine o_bipush 8 X4 f5_36 rfl ?_
    refine o_iadd X4 f5_38 ?_
    refine o_icmp_lt X4 f5_39 (fun q39 => ?_) (fun q39 => ?_)
    · refine o_iconst 0 X4 f5_58 rfl ?_
      refine o_retZ X4 f5_59 (by decide) (by decide) ?_
      exact ⟨by simp only [own_k, q39, ↓reduceIte, if_true, if_false] <;> rfl, _, _, _, _, _, _, _, O2, by rw [eF]; omega, b2, by omega, b4, by omega⟩
    · refine o_aload_n X4 f5_42 rfl rfl ?_
      refine o_getO X4 4 f5_43 (hw _ (List.mem_of_getElem? (i := 26) rfl)) O2 rfl rfl ?_
      intro T5 X5
      refine o_aload_n X5 f5_46 rfl rfl ?_
      refine o_getO X5 5 f5_47 (hw _ (List.mem_of_getElem? (i := 28) rfl)) O2 rfl rfl ?_
      intro T6 X6
      refine o_lsub X6 f5_50 ?_
      refine o_ldc2 X6 f5_51 (hw _ (List.mem_of_getElem? (i := 16) rfl)) ?_
      refine o_lcmp X6 f5_54 ?_
      refine o_lif_lt_t X6 f5_55 (own_d1 _ _ m hm b1 b2 b3) ?_
      refine o_aload_n X6 f5_60 rfl rfl ?_
      refine o_dup X6 f5_61 rfl ?_
      refine o_getO X6 6 f5_62 (hw _ (List.mem_of_getElem? (i := 30) rfl)) O2 rfl rfl ?_
      intro T7 X7
      refine o_lconst 1 X7 f5_65 rfl ?_
      refine o_ladd X7 f5_66 ?_
      refine o_putO X7 6 f5_67 (hw _ (List.mem_of_getElem? (i := 30) rfl)) O2 (own_ld Z a0 hw) rfl (Or.inl (hw _ (List.mem_of_getElem? (i := 31) rfl))) (hw _ (List.mem_of_getElem? (i := 2) rfl)) (ty := .long) (by decide) rfl rfl ha (vs' := [_, _, _, _, _, _, _, _, _]) rfl ?_
      intro T8 h8 X8 W8 O8
      refine o_aload_n X8 f5_70 rfl rfl ?_
      refine o_getO X8 6 f5_71 (hw _ (List.mem_of_getElem? (i := 30) rfl)) O8 rfl rfl ?_
      intro T9 X9
      refine o_aload_n X9 f5_74 rfl rfl ?_
      refine o_getO X9 7 f5_75 (hw _ (List.mem_of_getElem? (i := 32) rfl)) O8 rfl rfl ?_
      intro T10 X10
      refine o_lsub X10 f5_78 ?_
      refine o_ldc2 X10 f5_79 (hw _ (List.mem_of_getElem? (i := 16) rfl)) ?_
      refine o_lcmp X10 f5_82 ?_
      refine o_lif_gt_f X10 f5_83 (own_d3 _ m hm b4 b5) ?_
      refine o_iconst 1 X10 f5_86 rfl ?_
      refine o_goto X10 f5_87 ?_
      refine o_istore_n X10 f5_91 (Ls' := #[_, _, _]) rfl ?_
      refine o_iload_n X10 f5_92 rfl ?_
      refine o_if_ne_t X10 f5_93 (by decide) ?_
      refine o_iload_n X10 f5_136 rfl ?_
      refine o_if_ne_t X10 f5_137 (by decide) ?_
      refine o_iload_n X10 f5_162 rfl ?_
      refine o_retZ X10 f5_163 (by decide) (by decide) ?_
      exact ⟨by simp only [own_k, q39, ↓reduceIte, if_true, if_false] <;> rfl, _, _, _, _, _, _, _, O8, by rw [eF]; omega, b2, by omega, by rw [eG]; omega, by rw [eG]; omega⟩
  · refine o_aload_n X3 f5_18 rfl rfl ?_
    refine o_iload_n X3 f5_19 rfl ?_
    refine o_putO X3 1 f5_20 (hw _ (List.mem_of_getElem? (i := 14) rfl)) O2 (own_ld Z a0 hw) rfl (Or.inl (hw _ (List.mem_of_getElem? (i := 15) rfl))) (hw _ (List.mem_of_getElem? (i := 2) rfl)) (ty := .int) (by decide) rfl rfl ha (vs' := [_, _, _, _, _, _, _, _, _]) rfl ?_
    intro T11 h11 X11 W11 O11
    refine o_aload_n X11 f5_23 rfl rfl ?_
    refine o_aload_n X11 f5_24 rfl rfl ?_
    refine o_getO X11 4 f5_25 (hw _ (List.mem_of_getElem? (i := 26) rfl)) O11 rfl rfl ?_
    intro T12 X12
    refine o_putO X12 5 f5_28 (hw _ (List.mem_of_getElem? (i := 28) rfl)) O11 (own_ld Z a0 hw) rfl (Or.inl (hw _ (List.mem_of_getElem? (i := 29) rfl))) (hw _ (List.mem_of_getElem? (i := 2) rfl)) (ty := .long) (by decide) rfl rfl ha (vs' := [_, _, _, _, _, _, _, _, _]) rfl ?_
    intro T13 h13 X13 W13 O13
    refine o_iload_n X13 f5_31 rfl ?_
    refine o_aload_n X13 f5_32 rfl rfl ?_
    refine o_getO X13 3 f5_33 (hw _ (List.mem_of_getElem? (i := 24) rfl)) O13 rfl rfl ?_
    intro T14 X14
    refine o_bipush 8 X14 f5_36 rfl ?_
    refine o_iadd X14 f5_38 ?_
    refine o_icmp_lt X14 f5_39 (fun q39 => ?_) (fun q39 => ?_)
    · refine o_iconst 0 X14 f5_58 rfl ?_
      refine o_retZ X14 f5_59 (by decide) (by decide) ?_
      exact ⟨by simp only [own_k, q39, ↓reduceIte, if_true, if_false] <;> rfl, _, _, _, _, _, _, _, O13, by rw [eF]; omega, by rw [eF]; omega, by rw [eF]; omega, b4, by omega⟩
    · refine o_aload_n X14 f5_42 rfl rfl ?_
      refine o_getO X14 4 f5_43 (hw _ (List.mem_of_getElem? (i := 26) rfl)) O13 rfl rfl ?_
      intro T15 X15
      refine o_aload_n X15 f5_46 rfl rfl ?_
      refine o_getO X15 5 f5_47 (hw _ (List.mem_of_getElem? (i := 28) rfl)) O13 rfl rfl ?_
      intro T16 X16
      refine o_lsub X16 f5_50 ?_
      refine o_ldc2 X16 f5_51 (hw _ (List.mem_of_getElem? (i := 16) rfl)) ?_
      refine o_lcmp X16 f5_54 ?_
      refine o_lif_lt_t X16 f5_55 (own_d2 _) ?_
      refine o_aload_n X16 f5_60 rfl rfl ?_
      refine o_dup X16 f5_61 rfl ?_
      refine o_getO X16 6 f5_62 (hw _ (List.mem_of_getElem? (i := 30) rfl)) O13 rfl rfl ?_
      intro T17 X17
      refine o_lconst 1 X17 f5_65 rfl ?_
      refine o_ladd X17 f5_66 ?_
      refine o_putO X17 6 f5_67 (hw _ (List.mem_of_getElem? (i := 30) rfl)) O13 (own_ld Z a0 hw) rfl (Or.inl (hw _ (List.mem_of_getElem? (i := 31) rfl))) (hw _ (List.mem_of_getElem? (i := 2) rfl)) (ty := .long) (by decide) rfl rfl ha (vs' := [_, _, _, _, _, _, _, _, _]) rfl ?_
      intro T18 h18 X18 W18 O18
      refine o_aload_n X18 f5_70 rfl rfl ?_
      refine o_getO X18 6 f5_71 (hw _ (List.mem_of_getElem? (i := 30) rfl)) O18 rfl rfl ?_
      intro T19 X19
      refine o_aload_n X19 f5_74 rfl rfl ?_
      refine o_getO X19 7 f5_75 (hw _ (List.mem_of_getElem? (i := 32) rfl)) O18 rfl rfl ?_
      intro T20 X20
      refine o_lsub X20 f5_78 ?_
      refine o_ldc2 X20 f5_79 (hw _ (List.mem_of_getElem? (i := 16) rfl)) ?_
      refine o_lcmp X20 f5_82 ?_
      refine o_lif_gt_f X20 f5_83 (own_d3 _ m hm b4 b5) ?_
      refine o_iconst 1 X20 f5_86 rfl ?_
      refine o_goto X20 f5_87 ?_
      refine o_istore_n X20 f5_91 (Ls' := #[_, _, _]) rfl ?_
      refine o_iload_n X20 f5_92 rfl ?_
      refine o_if_ne_t X20 f5_93 (by decide) ?_
      refine o_iload_n X20 f5_136 rfl ?_
      refine o_if_ne_t X20 f5_137 (by decide) ?_
      refine o_iload_n X20 f5_162 rfl ?_
      refine o_retZ X20 f5_163 (by decide) (by decide) ?_
      exact ⟨by simp only [own_k, q39, ↓reduceIte, if_true, if_false] <;> rfl, _, _, _, _, _, _, _, O18, by rw [eF]; omega, by rw [eF]; omega, by rw [eF]; omega, by rw [eG]; omega, by rw [eG]; omega⟩
def own_pick (n base near : Int32) : Int32 := if near = 0 then n else base + n % 16
theorem own_ex {Z : State} {h : Heap} {a : Addr} {sn : Int32} {m : Nat} (I : own_Inv Z h a sn m) : Exa Z h a own_C := by obtain ⟨_, _, _, _, _, _, _, O, -⟩ := I; exact O.1
theorem f0_0 : Isn code 0 (.iload 5) 2 2 := ⟨at_0, rfl⟩
theorem f0_2 : Isn code 2 (.iconst 1) 1 3 := ⟨at_2, rfl⟩
theorem f0_3 : Isn code 3 (.iand) 1 4 := ⟨at_3, rfl⟩
theorem f0_4 : Brn code 4 (.ifCond .eq 7) 7 7 11 := ⟨at_4, rfl, by decide, by decide⟩
theorem f0_7 : Isn code 7 (.iconst 1) 1 8 := ⟨at_7, rfl⟩
theorem f0_8 : Brn code 8 (.goto 4) 4 11 12 := ⟨at_8, rfl, by decide, by decide⟩
theorem f0_11 : Isn code 11 (.iconst 0) 1 12 := ⟨at_11, rfl⟩
theorem f0_12 : Isn code 12 (.istore 6) 2 14 := ⟨at_12, rfl⟩
theorem f0_14 : Isn code 14 (.iload 5) 2 16 := ⟨at_14, rfl⟩
theorem f0_16 : Isn code 16 (.iconst 2) 1 17 := ⟨at_16, rfl⟩
theorem f0_17 : Isn code 17 (.iand) 1 18 := ⟨at_17, rfl⟩
theorem f0_18 : Brn code 18 (.ifCond .eq 7) 7 21 25 := ⟨at_18, rfl, by decide, by decide⟩
theorem f0_21 : Isn code 21 (.iconst 1) 1 22 := ⟨at_21, rfl⟩
theorem f0_22 : Brn code 22 (.goto 4) 4 25 26 := ⟨at_22, rfl, by decide, by decide⟩
theorem f0_25 : Isn code 25 (.iconst 0) 1 26 := ⟨at_25, rfl⟩
theorem f0_26 : Isn code 26 (.istore 7) 2 28 := ⟨at_26, rfl⟩
theorem f0_28 : Isn code 28 (.iload 5) 2 30 := ⟨at_28, rfl⟩
theorem f0_30 : Isn code 30 (.iconst 4) 1 31 := ⟨at_30, rfl⟩
theorem f0_31 : Isn code 31 (.iand) 1 32 := ⟨at_31, rfl⟩
theorem f0_32 : Brn code 32 (.ifCond .eq 7) 7 35 39 := ⟨at_32, rfl, by decide, by decide⟩
theorem f0_35 : Isn code 35 (.iconst 1) 1 36 := ⟨at_35, rfl⟩
theorem f0_36 : Brn code 36 (.goto 4) 4 39 40 := ⟨at_36, rfl, by decide, by decide⟩
theorem f0_39 : Isn code 39 (.iconst 0) 1 40 := ⟨at_39, rfl⟩
theorem f0_40 : Isn code 40 (.istore 8) 2 42 := ⟨at_40, rfl⟩
theorem f0_42 : Isn code 42 (.iload_n 0) 1 43 := ⟨at_42, rfl⟩
theorem f0_43 : Isn code 43 (.ldc 7) 2 45 := ⟨at_43, rfl⟩
theorem f0_45 : Isn code 45 (.iand) 1 46 := ⟨at_45, rfl⟩
theorem f0_46 : Isn code 46 (.istore 9) 2 48 := ⟨at_46, rfl⟩
theorem f0_48 : Isn code 48 (.iload 5) 2 50 := ⟨at_48, rfl⟩
theorem f0_50 : Isn code 50 (.iconst 3) 1 51 := ⟨at_50, rfl⟩
theorem f0_51 : Isn code 51 (.iushr) 1 52 := ⟨at_51, rfl⟩
theorem f0_52 : Isn code 52 (.ldc 7) 2 54 := ⟨at_52, rfl⟩
theorem f0_54 : Isn code 54 (.iand) 1 55 := ⟨at_54, rfl⟩
theorem f0_55 : Isn code 55 (.istore 10) 2 57 := ⟨at_55, rfl⟩
theorem f0_57 : Isn code 57 (.new 8) 3 60 := ⟨at_57, rfl⟩
theorem f0_60 : Isn code 60 (.dup) 1 61 := ⟨at_60, rfl⟩
theorem f0_61 : Isn code 61 (.invokespecial 10) 3 64 := ⟨at_61, rfl⟩
theorem f0_64 : Isn code 64 (.astore 11) 2 66 := ⟨at_64, rfl⟩
theorem f0_66 : Isn code 66 (.iconst 0) 1 67 := ⟨at_66, rfl⟩
theorem f0_67 : Isn code 67 (.istore 12) 2 69 := ⟨at_67, rfl⟩
theorem f0_69 : Isn code 69 (.iload 6) 2 71 := ⟨at_69, rfl⟩
theorem f0_71 : Brn code 71 (.ifCond .eq 14) 14 74 85 := ⟨at_71, rfl, by decide, by decide⟩
theorem f0_74 : Isn code 74 (.aload 11) 2 76 := ⟨at_74, rfl⟩
theorem f0_76 : Isn code 76 (.iload 9) 2 78 := ⟨at_76, rfl⟩
theorem f0_78 : Isn code 78 (.invokevirtual 11) 3 81 := ⟨at_78, rfl⟩
theorem f0_81 : Isn code 81 (.iload 9) 2 83 := ⟨at_81, rfl⟩
theorem f0_83 : Isn code 83 (.istore 12) 2 85 := ⟨at_83, rfl⟩
theorem f0_85 : Isn code 85 (.iload_n 1) 1 86 := ⟨at_85, rfl⟩
theorem f0_86 : Isn code 86 (.iload 12) 2 88 := ⟨at_86, rfl⟩
theorem f0_88 : Isn code 88 (.iload 7) 2 90 := ⟨at_88, rfl⟩
theorem f0_90 : Isn code 90 (.invokestatic 15) 3 93 := ⟨at_90, rfl⟩
theorem f0_93 : Isn code 93 (.istore 13) 2 95 := ⟨at_93, rfl⟩
theorem f0_95 : Isn code 95 (.aload 11) 2 97 := ⟨at_95, rfl⟩
theorem f0_97 : Isn code 97 (.iload 13) 2 99 := ⟨at_97, rfl⟩
theorem f0_99 : Isn code 99 (.invokevirtual 21) 3 102 := ⟨at_99, rfl⟩
theorem f0_102 : Isn code 102 (.iload 13) 2 104 := ⟨at_102, rfl⟩
theorem f0_104 : Isn code 104 (.iload 12) 2 106 := ⟨at_104, rfl⟩
theorem f0_106 : Isn code 106 (.bipush 8) 2 108 := ⟨at_106, rfl⟩
theorem f0_108 : Isn code 108 (.iadd) 1 109 := ⟨at_108, rfl⟩
theorem f0_109 : Brn code 109 (.if_icmp .lt 7) 7 112 116 := ⟨at_109, rfl, by decide, by decide⟩
theorem f0_112 : Isn code 112 (.iconst 1) 1 113 := ⟨at_112, rfl⟩
theorem f0_113 : Brn code 113 (.goto 4) 4 116 117 := ⟨at_113, rfl, by decide, by decide⟩
theorem f0_116 : Isn code 116 (.iconst 0) 1 117 := ⟨at_116, rfl⟩
theorem f0_117 : Brn code 117 (.if_icmp .ne 7) 7 120 124 := ⟨at_117, rfl, by decide, by decide⟩
theorem f0_120 : Isn code 120 (.iconst 1) 1 121 := ⟨at_120, rfl⟩
theorem f0_121 : Brn code 121 (.goto 4) 4 124 125 := ⟨at_121, rfl, by decide, by decide⟩
theorem f0_124 : Isn code 124 (.iconst 0) 1 125 := ⟨at_124, rfl⟩
theorem f0_125 : Isn code 125 (.istore 14) 2 127 := ⟨at_125, rfl⟩
theorem f0_127 : Isn code 127 (.iload_n 2) 1 128 := ⟨at_127, rfl⟩
theorem f0_128 : Isn code 128 (.iload 12) 2 130 := ⟨at_128, rfl⟩
theorem f0_130 : Isn code 130 (.iload 7) 2 132 := ⟨at_130, rfl⟩
theorem f0_132 : Isn code 132 (.invokestatic 15) 3 135 := ⟨at_132, rfl⟩
theorem f0_135 : Isn code 135 (.istore 15) 2 137 := ⟨at_135, rfl⟩
theorem f0_137 : Isn code 137 (.aload 11) 2 139 := ⟨at_137, rfl⟩
theorem f0_139 : Isn code 139 (.iload 15) 2 141 := ⟨at_139, rfl⟩
theorem f0_141 : Isn code 141 (.invokevirtual 21) 3 144 := ⟨at_141, rfl⟩
theorem f0_144 : Isn code 144 (.iload 15) 2 146 := ⟨at_144, rfl⟩
theorem f0_146 : Isn code 146 (.iload 12) 2 148 := ⟨at_146, rfl⟩
theorem f0_148 : Isn code 148 (.bipush 8) 2 150 := ⟨at_148, rfl⟩
theorem f0_150 : Isn code 150 (.iadd) 1 151 := ⟨at_150, rfl⟩
theorem f0_151 : Brn code 151 (.if_icmp .lt 7) 7 154 158 := ⟨at_151, rfl, by decide, by decide⟩
theorem f0_154 : Isn code 154 (.iconst 1) 1 155 := ⟨at_154, rfl⟩
theorem f0_155 : Brn code 155 (.goto 4) 4 158 159 := ⟨at_155, rfl, by decide, by decide⟩
theorem f0_158 : Isn code 158 (.iconst 0) 1 159 := ⟨at_158, rfl⟩
theorem f0_159 : Brn code 159 (.if_icmp .ne 7) 7 162 166 := ⟨at_159, rfl, by decide, by decide⟩
theorem f0_162 : Isn code 162 (.iconst 1) 1 163 := ⟨at_162, rfl⟩
theorem f0_163 : Brn code 163 (.goto 4) 4 166 167 := ⟨at_163, rfl, by decide, by decide⟩
theorem f0_166 : Isn code 166 (.iconst 0) 1 167 := ⟨at_166, rfl⟩
theorem f0_167 : Isn code 167 (.istore 16) 2 169 := ⟨at_167, rfl⟩
theorem f0_169 : Isn code 169 (.iload 8) 2 171 := ⟨at_169, rfl⟩
theorem f0_171 : Brn code 171 (.ifCond .eq 14) 14 174 185 := ⟨at_171, rfl, by decide, by decide⟩
theorem f0_174 : Isn code 174 (.aload 11) 2 176 := ⟨at_174, rfl⟩
theorem f0_176 : Isn code 176 (.iload 10) 2 178 := ⟨at_176, rfl⟩
theorem f0_178 : Isn code 178 (.invokevirtual 11) 3 181 := ⟨at_178, rfl⟩
theorem f0_181 : Isn code 181 (.iload 10) 2 183 := ⟨at_181, rfl⟩
theorem f0_183 : Isn code 183 (.istore 12) 2 185 := ⟨at_183, rfl⟩
theorem f0_185 : Isn code 185 (.iload_n 3) 1 186 := ⟨at_185, rfl⟩
theorem f0_186 : Isn code 186 (.iload 12) 2 188 := ⟨at_186, rfl⟩
theorem f0_188 : Isn code 188 (.iload 7) 2 190 := ⟨at_188, rfl⟩
theorem f0_190 : Isn code 190 (.invokestatic 15) 3 193 := ⟨at_190, rfl⟩
theorem f0_193 : Isn code 193 (.istore 17) 2 195 := ⟨at_193, rfl⟩
theorem f0_195 : Isn code 195 (.aload 11) 2 197 := ⟨at_195, rfl⟩
theorem f0_197 : Isn code 197 (.iload 17) 2 199 := ⟨at_197, rfl⟩
theorem f0_199 : Isn code 199 (.invokevirtual 21) 3 202 := ⟨at_199, rfl⟩
theorem f0_202 : Isn code 202 (.iload 17) 2 204 := ⟨at_202, rfl⟩
theorem f0_204 : Isn code 204 (.iload 12) 2 206 := ⟨at_204, rfl⟩
theorem f0_206 : Isn code 206 (.bipush 8) 2 208 := ⟨at_206, rfl⟩
theorem f0_208 : Isn code 208 (.iadd) 1 209 := ⟨at_208, rfl⟩
theorem f0_209 : Brn code 209 (.if_icmp .lt 7) 7 212 216 := ⟨at_209, rfl, by decide, by decide⟩
theorem f0_212 : Isn code 212 (.iconst 1) 1 213 := ⟨at_212, rfl⟩
theorem f0_213 : Brn code 213 (.goto 4) 4 216 217 := ⟨at_213, rfl, by decide, by decide⟩
theorem f0_216 : Isn code 216 (.iconst 0) 1 217 := ⟨at_216, rfl⟩
theorem f0_217 : Brn code 217 (.if_icmp .ne 7) 7 220 224 := ⟨at_217, rfl, by decide, by decide⟩
theorem f0_220 : Isn code 220 (.iconst 1) 1 221 := ⟨at_220, rfl⟩
theorem f0_221 : Brn code 221 (.goto 4) 4 224 225 := ⟨at_221, rfl, by decide, by decide⟩
theorem f0_224 : Isn code 224 (.iconst 0) 1 225 := ⟨at_224, rfl⟩
theorem f0_225 : Isn code 225 (.istore 18) 2 227 := ⟨at_225, rfl⟩
theorem f0_227 : Isn code 227 (.iload 4) 2 229 := ⟨at_227, rfl⟩
theorem f0_229 : Isn code 229 (.iload 12) 2 231 := ⟨at_229, rfl⟩
theorem f0_231 : Isn code 231 (.iload 7) 2 233 := ⟨at_231, rfl⟩
theorem f0_233 : Isn code 233 (.invokestatic 15) 3 236 := ⟨at_233, rfl⟩
theorem f0_236 : Isn code 236 (.istore 19) 2 238 := ⟨at_236, rfl⟩
theorem f0_238 : Isn code 238 (.aload 11) 2 240 := ⟨at_238, rfl⟩
theorem f0_240 : Isn code 240 (.iload 19) 2 242 := ⟨at_240, rfl⟩
theorem f0_242 : Isn code 242 (.invokevirtual 21) 3 245 := ⟨at_242, rfl⟩
theorem f0_245 : Isn code 245 (.iload 19) 2 247 := ⟨at_245, rfl⟩
theorem f0_247 : Isn code 247 (.iload 12) 2 249 := ⟨at_247, rfl⟩
theorem f0_249 : Isn code 249 (.bipush 8) 2 251 := ⟨at_249, rfl⟩
theorem f0_251 : Isn code 251 (.iadd) 1 252 := ⟨at_251, rfl⟩
theorem f0_252 : Brn code 252 (.if_icmp .lt 7) 7 255 259 := ⟨at_252, rfl, by decide, by decide⟩
theorem f0_255 : Isn code 255 (.iconst 1) 1 256 := ⟨at_255, rfl⟩
theorem f0_256 : Brn code 256 (.goto 4) 4 259 260 := ⟨at_256, rfl, by decide, by decide⟩
theorem f0_259 : Isn code 259 (.iconst 0) 1 260 := ⟨at_259, rfl⟩
theorem f0_260 : Brn code 260 (.if_icmp .ne 7) 7 263 267 := ⟨at_260, rfl, by decide, by decide⟩
theorem f0_263 : Isn code 263 (.iconst 1) 1 264 := ⟨at_263, rfl⟩
theorem f0_264 : Brn code 264 (.goto 4) 4 267 268 := ⟨at_264, rfl, by decide, by decide⟩
theorem f0_267 : Isn code 267 (.iconst 0) 1 268 := ⟨at_267, rfl⟩
theorem f0_268 : Isn code 268 (.istore 20) 2 270 := ⟨at_268, rfl⟩
theorem f0_270 : Isn code 270 (.iload 14) 2 272 := ⟨at_270, rfl⟩
theorem f0_272 : Brn code 272 (.ifCond .eq 22) 22 275 294 := ⟨at_272, rfl, by decide, by decide⟩
theorem f0_275 : Isn code 275 (.iload 16) 2 277 := ⟨at_275, rfl⟩
theorem f0_277 : Brn code 277 (.ifCond .eq 17) 17 280 294 := ⟨at_277, rfl, by decide, by decide⟩
theorem f0_280 : Isn code 280 (.iload 18) 2 282 := ⟨at_280, rfl⟩
theorem f0_282 : Brn code 282 (.ifCond .eq 12) 12 285 294 := ⟨at_282, rfl, by decide, by decide⟩
theorem f0_285 : Isn code 285 (.iload 20) 2 287 := ⟨at_285, rfl⟩
theorem f0_287 : Brn code 287 (.ifCond .eq 7) 7 290 294 := ⟨at_287, rfl, by decide, by decide⟩
theorem f0_290 : Isn code 290 (.iconst 1) 1 291 := ⟨at_290, rfl⟩
theorem f0_291 : Brn code 291 (.goto 4) 4 294 295 := ⟨at_291, rfl, by decide, by decide⟩
theorem f0_294 : Isn code 294 (.iconst 0) 1 295 := ⟨at_294, rfl⟩
theorem f0_295 : Isn code 295 (.ireturn) 1 296 := ⟨at_295, rfl⟩
theorem f4_0 : Isn method_2_code 0 (.iload_n 2) 1 1 := ⟨by decide +kernel, rfl⟩
theorem f4_1 : Brn method_2_code 1 (.ifCond .eq 12) 12 4 13 := ⟨by decide +kernel, rfl, by decide, by decide⟩
theorem f4_4 : Isn method_2_code 4 (.iload_n 1) 1 5 := ⟨by decide +kernel, rfl⟩
theorem f4_5 : Isn method_2_code 5 (.iload_n 0) 1 6 := ⟨by decide +kernel, rfl⟩
theorem f4_6 : Isn method_2_code 6 (.bipush 16) 2 8 := ⟨by decide +kernel, rfl⟩
theorem f4_8 : Isn method_2_code 8 (.irem) 1 9 := ⟨by decide +kernel, rfl⟩
theorem f4_9 : Isn method_2_code 9 (.iadd) 1 10 := ⟨by decide +kernel, rfl⟩
theorem f4_10 : Brn method_2_code 10 (.goto 4) 4 13 14 := ⟨by decide +kernel, rfl, by decide, by decide⟩
theorem f4_13 : Isn method_2_code 13 (.iload_n 0) 1 14 := ⟨by decide +kernel, rfl⟩
theorem f4_14 : Isn method_2_code 14 (.ireturn) 1 15 := ⟨by decide +kernel, rfl⟩
set_option maxRecDepth 65536 in
set_option maxHeartbeats 40000000 in
theorem rm4 (l : Launch) (Z : State) (a0 : Array Value) (hw : ∀ d ∈ tables_1, d.before a0 Z = true) (x0 : Int32) (x1 : Int32) (x2 : Int32) (h : Heap) (n0 : Nat) :
    Ctr l Z (⟨"com/example/amends/amends/core/RecallKeepsMovesOfPinLaw", "pick", "(IIZ)I"⟩ : MethodName) method_2_code 3 (some (.int)) ({ frames := 0, cells := 0, slots := 0, locals := 0 } : Room) [.int x0, .int x1, .int x2] h n0 (fun v h' => v = some (.int (own_pick x0 x1 x2)) ∧ h' = h) := by
  refine CtrW.intro (plainFor_of_name pn1) rfl #[.val (.int x0), .val (.int x1), .val (.int x2)] rfl ?_
  intro K T hnm hl X
  subst hl
  refine o_iload_n X f4_0 rfl ?_
  refine o_if_eq X f4_1 (fun q1 => ?_) (fun q1 => ?_)
  · refine o_iload_n X f4_13 rfl ?_
    refine o_retI X f4_14 (by decide) (by decide) ?_
    exact ⟨by simp only [own_pick, q1, ↓reduceIte, if_true, if_false] <;> rfl, rfl⟩
  · refine o_iload_n X f4_4 rfl ?_
    refine o_iload_n X f4_5 rfl ?_
    refine o_bipush 16 X f4_6 rfl ?_
    refine o_irem X f4_8 (by decide) ?_
    refine o_iadd X f4_9 ?_
    refine o_goto X f4_10 ?_
    refine o_retI X f4_14 (by decide) (by decide) ?_
    exact ⟨by simp only [own_pick, q1, ↓reduceIte, if_true, if_false] <;> rfl, rfl⟩
set_option maxRecDepth 65536 in
set_option maxHeartbeats 40000000 in
theorem rm0 (l : Launch) (Z : State) (a0 : Array Value) (hw : ∀ d ∈ tables_1, d.before a0 Z = true) (x0 : Int32) (x1 : Int32) (x2 : Int32) (x3 : Int32) (x4 : Int32) (x5 : Int32) (h : Heap) (n0 : Nat) (hn0 : n0 ≤ h.size) :
    CtrW l Z x code 21 (some .boolean) tables_1 room_1 16 256 [.int x0, .int x1, .int x2, .int x3, .int x4, .int x5] h n0 (fun v _ => v = some (.int 1)) := by
  refine CtrW.intro (plainFor_of_name pn1) rfl #[.val (.int x0), .val (.int x1), .val (.int x2), .val (.int x3), .val (.int x4), .val (.int x5), .unset, .unset, .unset, .unset, .unset, .unset, .unset, .unset, .unset, .unset, .unset, .unset, .unset, .unset, .unset] rfl ?_
  intro K T hnm hl X
  subst hl
  refine o_iload X f0_0 rfl ?_
  refine o_iconst 1 X f0_2 rfl ?_
  refine o_iand X f0_3 ?_
  refine o_bool_if_eq X f0_4 f0_7 f0_8 f0_11 ?_
  refine o_istore X f0_12 (Ls' := #[_, _, _, _, _, _, _, _, _, _, _, _, _, _, _, _, _, _, _, _, _]) rfl ?_
  refine o_iload X f0_14 rfl ?_
  refine o_iconst 2 X f0_16 rfl ?_
  refine o_iand X f0_17 ?_
  refine o_bool_if_eq X f0_18 f0_21 f0_22 f0_25 ?_
  refine o_istore X f0_26 (Ls' := #[_, _, _, _, _, _, _, _, _, _, _, _, _, _, _, _, _, _, _, _, _]) rfl ?_
  refine o_iload X f0_28 rfl ?_
  refine o_iconst 4 X f0_30 rfl ?_
  refine o_iand X f0_31 ?_
  refine o_bool_if_eq X f0_32 f0_35 f0_36 f0_39 ?_
  refine o_istore X f0_40 (Ls' := #[_, _, _, _, _, _, _, _, _, _, _, _, _, _, _, _, _, _, _, _, _]) rfl ?_
  refine o_iload_n X f0_42 rfl ?_
  refine o_ldc X f0_43 (hw _ (List.mem_of_getElem? (i := 0) rfl)) ?_
  refine o_iand X f0_45 ?_
  refine o_istore X f0_46 (Ls' := #[_, _, _, _, _, _, _, _, _, _, _, _, _, _, _, _, _, _, _, _, _]) rfl ?_
  refine o_iload X f0_48 rfl ?_
  refine o_iconst 3 X f0_50 rfl ?_
  refine o_iushr X f0_51 ?_
  refine o_ldc X f0_52 (hw _ (List.mem_of_getElem? (i := 0) rfl)) ?_
  refine o_iand X f0_54 ?_
  refine o_istore X f0_55 (Ls' := #[_, _, _, _, _, _, _, _, _, _, _, _, _, _, _, _, _, _, _, _, _]) rfl ?_
  refine o_new X f0_57 (hw _ (List.mem_of_getElem? (i := 1) rfl)) (hw _ (List.mem_of_getElem? (i := 2) rfl)) (hw _ (List.mem_of_getElem? (i := 3) rfl)) (by decide) ?_
  intro T1 h1 a e1 X1 E1 A1 D1
  have O1 := Obj.new (ns := own_ns) A1 D1 (own_ld Z a0 hw) [(.array (.object "com/example/amends/amends/core/Recall$Made")), .int, .long, .int, .long, .long, .long, .long, .long] (by decide) rfl
  have ha : n0 ≤ a := e1 ▸ hn0
  refine o_dup X1 f0_60 rfl ?_
  refine o_callN X1 8 f0_61 rfl (hw _ (List.mem_of_getElem? (i := 4) rfl)) (hw _ (List.mem_of_getElem? (i := 5) rfl)) (hw _ (List.mem_of_getElem? (i := 6) rfl)) (hw _ (List.mem_of_getElem? (i := 3) rfl)) (by decide) (rm1 K.l Z a0 hw a _ n0 ha O1) (lenOf pd0 rfl) rfl rfl (by first | exact Nat.zero_le _ | simp [Value.category]) (by decide) ?_
  rintro T2 h2 v2 ⟨rfl, I⟩ X2
  refine o_v0 ?_
  refine o_astore X2 f0_64 rfl (Ls' := #[_, _, _, _, _, _, _, _, _, _, _, _, _, _, _, _, _, _, _, _, _]) rfl ?_
  refine o_iconst 0 X2 f0_66 rfl ?_
  refine o_istore X2 f0_67 (Ls' := #[_, _, _, _, _, _, _, _, _, _, _, _, _, _, _, _, _, _, _, _, _]) rfl ?_
  refine o_iload X2 f0_69 rfl ?_
  refine o_if_eq X2 f0_71 (fun q71 => ?_) (fun q71 => ?_)
  · refine o_iload_n X2 f0_85 rfl ?_
    refine o_iload X2 f0_86 rfl ?_
    refine o_iload X2 f0_88 rfl ?_
    refine o_callS X2 8 f0_90 (hw _ (List.mem_of_getElem? (i := 36) rfl)) (hw _ (List.mem_of_getElem? (i := 37) rfl)) (hw _ (List.mem_of_getElem? (i := 38) rfl)) (hw _ (List.mem_of_getElem? (i := 39) rfl)) (by decide) (rm4 K.l Z a0 hw _ _ _ _ _) (lenOf pd1 rfl) rfl rfl (by first | exact Nat.zero_le _ | simp [Value.category]) (by decide) ?_
    rintro T3 h3 v3 ⟨rfl, rfl⟩ X3
    refine o_v1 ?_
    refine o_istore X3 f0_93 (Ls' := #[_, _, _, _, _, _, _, _, _, _, _, _, _, _, _, _, _, _, _, _, _]) rfl ?_
    refine o_aload X3 f0_95 rfl rfl ?_
    refine o_iload X3 f0_97 rfl ?_
    refine o_callV X3 8 f0_99 (hw _ (List.mem_of_getElem? (i := 40) rfl)) (hw _ (List.mem_of_getElem? (i := 41) rfl)) (hw _ (List.mem_of_getElem? (i := 43) rfl)) (hw _ (List.mem_of_getElem? (i := 43) rfl)) (hw _ (List.mem_of_getElem? (i := 42) rfl)) (by decide) (hw _ (List.mem_of_getElem? (i := 44) rfl)) (hw _ (List.mem_of_getElem? (i := 3) rfl)) (rm5 K.l Z a0 hw a _ _ n0 ha _ 0 (by decide) I) (own_ex I) (lenOf pd2 rfl) rfl rfl (by first | exact Nat.zero_le _ | simp [Value.category]) (by decide) ?_
    rintro T4 h4 v4 ⟨rfl, I⟩ X4
    refine o_v1 ?_
    refine o_iload X4 f0_102 rfl ?_
    refine o_iload X4 f0_104 rfl ?_
    refine o_bipush 8 X4 f0_106 rfl ?_
    refine o_iadd X4 f0_108 ?_
    refine o_bool_icmp_lt X4 f0_109 f0_112 f0_113 f0_116 ?_
    refine o_icmp_ne_f X4 f0_117 (rfl) ?_
    refine o_iconst 1 X4 f0_120 rfl ?_
    refine o_goto X4 f0_121 ?_
    refine o_istore X4 f0_125 (Ls' := #[_, _, _, _, _, _, _, _, _, _, _, _, _, _, _, _, _, _, _, _, _]) rfl ?_
    refine o_iload_n X4 f0_127 rfl ?_
    refine o_iload X4 f0_128 rfl ?_
    refine o_iload X4 f0_130 rfl ?_
    refine o_callS X4 8 f0_132 (hw _ (List.mem_of_getElem? (i := 36) rfl)) (hw _ (List.mem_of_getElem? (i := 37) rfl)) (hw _ (List.mem_of_getElem? (i := 38) rfl)) (hw _ (List.mem_of_getElem? (i := 39) rfl)) (by decide) (rm4 K.l Z a0 hw _ _ _ _ _) (lenOf pd1 rfl) rfl rfl (by first | exact Nat.zero_le _ | simp [Value.category]) (by decide) ?_
    rintro T5 h5 v5 ⟨rfl, rfl⟩ X5
    refine o_v1 ?_
    refine o_istore X5 f0_135 (Ls' := #[_, _, _, _, _, _, _, _, _, _, _, _, _, _, _, _, _, _, _, _, _]) rfl ?_
    refine o_aload X5 f0_137 rfl rfl ?_
    refine o_iload X5 f0_139 rfl ?_
    refine o_callV X5 8 f0_141 (hw _ (List.mem_of_getElem? (i := 40) rfl)) (hw _ (List.mem_of_getElem? (i := 41) rfl)) (hw _ (List.mem_of_getElem? (i := 43) rfl)) (hw _ (List.mem_of_getElem? (i := 43) rfl)) (hw _ (List.mem_of_getElem? (i := 42) rfl)) (by decide) (hw _ (List.mem_of_getElem? (i := 44) rfl)) (hw _ (List.mem_of_getElem? (i := 3) rfl)) (rm5 K.l Z a0 hw a _ _ n0 ha _ 1 (by decide) I) (own_ex I) (lenOf pd2 rfl) rfl rfl (by first | exact Nat.zero_le _ | simp [Value.category]) (by decide) ?_
    rintro T6 h6 v6 ⟨rfl, I⟩ X6
    refine o_v1 ?_
    refine o_iload X6 f0_144 rfl ?_
    refine o_iload X6 f0_146 rfl ?_
    refine o_bipush 8 X6 f0_148 rfl ?_
    refine o_iadd X6 f0_150 ?_
    refine o_bool_icmp_lt X6 f0_151 f0_154 f0_155 f0_158 ?_
    refine o_icmp_ne_f X6 f0_159 (rfl) ?_
    refine o_iconst 1 X6 f0_162 rfl ?_
    refine o_goto X6 f0_163 ?_
    refine o_istore X6 f0_167 (Ls' := #[_, _, _, _, _, _, _, _, _, _, _, _, _, _, _, _, _, _, _, _, _]) rfl ?_
    refine o_iload X6 f0_169 rfl ?_
    refine o_if_eq X6 f0_171 (fun q171 => ?_) (fun q171 => ?_)
    · refine o_iload_n X6 f0_185 rfl ?_
      refine o_iload X6 f0_186 rfl ?_
      refine o_iload X6 f0_188 rfl ?_
      refine o_callS X6 8 f0_190 (hw _ (List.mem_of_getElem? (i := 36) rfl)) (hw _ (List.mem_of_getElem? (i := 37) rfl)) (hw _ (List.mem_of_getElem? (i := 38) rfl)) (hw _ (List.mem_of_getElem? (i := 39) rfl)) (by decide) (rm4 K.l Z a0 hw _ _ _ _ _) (lenOf pd1 rfl) rfl rfl (by first | exact Nat.zero_le _ | simp [Value.category]) (by decide) ?_
      rintro T7 h7 v7 ⟨rfl, rfl⟩ X7
      refine o_v1 ?_
      refine o_istore X7 f0_193 (Ls' := #[_, _, _, _, _, _, _, _, _, _, _, _, _, _, _, _, _, _, _, _, _]) rfl ?_
      refine o_aload X7 f0_195 rfl rfl ?_
      refine o_iload X7 f0_197 rfl ?_
      refine o_callV X7 8 f0_199 (hw _ (List.mem_of_getElem? (i := 40) rfl)) (hw _ (List.mem_of_getElem? (i := 41) rfl)) (hw _ (List.mem_of_getElem? (i := 43) rfl)) (hw _ (List.mem_of_getElem? (i := 43) rfl)) (hw _ (List.mem_of_getElem? (i := 42) rfl)) (by decide) (hw _ (List.mem_of_getElem? (i := 44) rfl)) (hw _ (List.mem_of_getElem? (i := 3) rfl)) (rm5 K.l Z a0 hw a _ _ n0 ha _ 2 (by decide) I) (own_ex I) (lenOf pd2 rfl) rfl rfl (by first | exact Nat.zero_le _ | simp [Value.category]) (by decide) ?_
      rintro T8 h8 v8 ⟨rfl, I⟩ X8
      refine o_v1 ?_
      refine o_iload X8 f0_202 rfl ?_
      refine o_iload X8 f0_204 rfl ?_
      refine o_bipush 8 X8 f0_206 rfl ?_
      refine o_iadd X8 f0_208 ?_
      refine o_bool_icmp_lt X8 f0_209 f0_212 f0_213 f0_216 ?_
      refine o_icmp_ne_f X8 f0_217 (rfl) ?_
      refine o_iconst 1 X8 f0_220 rfl ?_
      refine o_goto X8 f0_221 ?_
      refine o_istore X8 f0_225 (Ls' := #[_, _, _, _, _, _, _, _, _, _, _, _, _, _, _, _, _, _, _, _, _]) rfl ?_
      refine o_iload X8 f0_227 rfl ?_
      refine o_iload X8 f0_229 rfl ?_
      refine o_iload X8 f0_231 rfl ?_
      refine o_callS X8 8 f0_233 (hw _ (List.mem_of_getElem? (i := 36) rfl)) (hw _ (List.mem_of_getElem? (i := 37) rfl)) (hw _ (List.mem_of_getElem? (i := 38) rfl)) (hw _ (List.mem_of_getElem? (i := 39) rfl)) (by decide) (rm4 K.l Z a0 hw _ _ _ _ _) (lenOf pd1 rfl) rfl rfl (by first | exact Nat.zero_le _ | simp [Value.category]) (by decide) ?_
      rintro T9 h9 v9 ⟨rfl, rfl⟩ X9
      refine o_v1 ?_
      refine o_istore X9 f0_236 (Ls' := #[_, _, _, _, _, _, _, _, _, _, _, _, _, _, _, _, _, _, _, _, _]) rfl ?_
      refine o_aload X9 f0_238 rfl rfl ?_
      refine o_iload X9 f0_240 rfl ?_
      refine o_callV X9 8 f0_242 (hw _ (List.mem_of_getElem? (i := 40) rfl)) (hw _ (List.mem_of_getElem? (i := 41) rfl)) (hw _ (List.mem_of_getElem? (i := 43) rfl)) (hw _ (List.mem_of_getElem? (i := 43) rfl)) (hw _ (List.mem_of_getElem? (i := 42) rfl)) (by decide) (hw _ (List.mem_of_getElem? (i := 44) rfl)) (hw _ (List.mem_of_getElem? (i := 3) rfl)) (rm5 K.l Z a0 hw a _ _ n0 ha _ 3 (by decide) I) (own_ex I) (lenOf pd2 rfl) rfl rfl (by first | exact Nat.zero_le _ | simp [Value.category]) (by decide) ?_
      rintro T10 h10 v10 ⟨rfl, I⟩ X10
      refine o_v1 ?_
      refine o_iload X10 f0_245 rfl ?_
      refine o_iload X10 f0_247 rfl ?_
      refine o_bipush 8 X10 f0_249 rfl ?_
      refine o_iadd X10 f0_251 ?_
      refine o_bool_icmp_lt X10 f0_252 f0_255 f0_256 f0_259 ?_
      refine o_icmp_ne_f X10 f0_260 (rfl) ?_
      refine o_iconst 1 X10 f0_263 rfl ?_
      refine o_goto X10 f0_264 ?_
      refine o_istore X10 f0_268 (Ls' := #[_, _, _, _, _, _, _, _, _, _, _, _, _, _, _, _, _, _, _, _, _]) rfl ?_
      refine o_iload X10 f0_270 rfl ?_
      refine o_if_eq_f X10 f0_272 (by decide) ?_
      refine o_iload X10 f0_275 rfl ?_
      refine o_if_eq_f X10 f0_277 (by decide) ?_
      refine o_iload X10 f0_280 rfl ?_
      refine o_if_eq_f X10 f0_282 (by decide) ?_
      refine o_iload X10 f0_285 rfl ?_
      refine o_if_eq_f X10 f0_287 (by decide) ?_
      refine o_iconst 1 X10 f0_290 rfl ?_
      refine o_goto X10 f0_291 ?_
      refine o_retZ X10 f0_295 (by decide) (by decide) ?_
      rfl
    · refine o_aload X6 f0_174 rfl rfl ?_
      refine o_iload X6 f0_176 rfl ?_
      refine o_callV X6 8 f0_178 (hw _ (List.mem_of_getElem? (i := 19) rfl)) (hw _ (List.mem_of_getElem? (i := 20) rfl)) (hw _ (List.mem_of_getElem? (i := 22) rfl)) (hw _ (List.mem_of_getElem? (i := 22) rfl)) (hw _ (List.mem_of_getElem? (i := 21) rfl)) (by decide) (hw _ (List.mem_of_getElem? (i := 23) rfl)) (hw _ (List.mem_of_getElem? (i := 3) rfl)) (rm3 K.l Z a0 hw a _ _ n0 ha _ _ I) (own_ex I) (lenOf pd3 rfl) rfl rfl (by first | exact Nat.zero_le _ | simp [Value.category]) (by decide) ?_
      rintro T11 h11 v11 ⟨rfl, I⟩ X11
      refine o_v0 ?_
      refine o_iload X11 f0_181 rfl ?_
      refine o_istore X11 f0_183 (Ls' := #[_, _, _, _, _, _, _, _, _, _, _, _, _, _, _, _, _, _, _, _, _]) rfl ?_
      refine o_iload_n X11 f0_185 rfl ?_
      refine o_iload X11 f0_186 rfl ?_
      refine o_iload X11 f0_188 rfl ?_
      refine o_callS X11 8 f0_190 (hw _ (List.mem_of_getElem? (i := 36) rfl)) (hw _ (List.mem_of_getElem? (i := 37) rfl)) (hw _ (List.mem_of_getElem? (i := 38) rfl)) (hw _ (List.mem_of_getElem? (i := 39) rfl)) (by decide) (rm4 K.l Z a0 hw _ _ _ _ _) (lenOf pd1 rfl) rfl rfl (by first | exact Nat.zero_le _ | simp [Value.category]) (by decide) ?_
      rintro T12 h12 v12 ⟨rfl, rfl⟩ X12
      refine o_v1 ?_
      refine o_istore X12 f0_193 (Ls' := #[_, _, _, _, _, _, _, _, _, _, _, _, _, _, _, _, _, _, _, _, _]) rfl ?_
      refine o_aload X12 f0_195 rfl rfl ?_
      refine o_iload X12 f0_197 rfl ?_
      refine o_callV X12 8 f0_199 (hw _ (List.mem_of_getElem? (i := 40) rfl)) (hw _ (List.mem_of_getElem? (i := 41) rfl)) (hw _ (List.mem_of_getElem? (i := 43) rfl)) (hw _ (List.mem_of_getElem? (i := 43) rfl)) (hw _ (List.mem_of_getElem? (i := 42) rfl)) (by decide) (hw _ (List.mem_of_getElem? (i := 44) rfl)) (hw _ (List.mem_of_getElem? (i := 3) rfl)) (rm5 K.l Z a0 hw a _ _ n0 ha _ 0 (by decide) I) (own_ex I) (lenOf pd2 rfl) rfl rfl (by first | exact Nat.zero_le _ | simp [Value.category]) (by decide) ?_
      rintro T13 h13 v13 ⟨rfl, I⟩ X13
      refine o_v1 ?_
      refine o_iload X13 f0_202 rfl ?_
      refine o_iload X13 f0_204 rfl ?_
      refine o_bipush 8 X13 f0_206 rfl ?_
      refine o_iadd X13 f0_208 ?_
      refine o_bool_icmp_lt X13 f0_209 f0_212 f0_213 f0_216 ?_
      refine o_icmp_ne_f X13 f0_217 (rfl) ?_
      refine o_iconst 1 X13 f0_220 rfl ?_
      refine o_goto X13 f0_221 ?_
      refine o_istore X13 f0_225 (Ls' := #[_, _, _, _, _, _, _, _, _, _, _, _, _, _, _, _, _, _, _, _, _]) rfl ?_
      refine o_iload X13 f0_227 rfl ?_
      refine o_iload X13 f0_229 rfl ?_
      refine o_iload X13 f0_231 rfl ?_
      refine o_callS X13 8 f0_233 (hw _ (List.mem_of_getElem? (i := 36) rfl)) (hw _ (List.mem_of_getElem? (i := 37) rfl)) (hw _ (List.mem_of_getElem? (i := 38) rfl)) (hw _ (List.mem_of_getElem? (i := 39) rfl)) (by decide) (rm4 K.l Z a0 hw _ _ _ _ _) (lenOf pd1 rfl) rfl rfl (by first | exact Nat.zero_le _ | simp [Value.category]) (by decide) ?_
      rintro T14 h14 v14 ⟨rfl, rfl⟩ X14
      refine o_v1 ?_
      refine o_istore X14 f0_236 (Ls' := #[_, _, _, _, _, _, _, _, _, _, _, _, _, _, _, _, _, _, _, _, _]) rfl ?_
      refine o_aload X14 f0_238 rfl rfl ?_
      refine o_iload X14 f0_240 rfl ?_
      refine o_callV X14 8 f0_242 (hw _ (List.mem_of_getElem? (i := 40) rfl)) (hw _ (List.mem_of_getElem? (i := 41) rfl)) (hw _ (List.mem_of_getElem? (i := 43) rfl)) (hw _ (List.mem_of_getElem? (i := 43) rfl)) (hw _ (List.mem_of_getElem? (i := 42) rfl)) (by decide) (hw _ (List.mem_of_getElem? (i := 44) rfl)) (hw _ (List.mem_of_getElem? (i := 3) rfl)) (rm5 K.l Z a0 hw a _ _ n0 ha _ 1 (by decide) I) (own_ex I) (lenOf pd2 rfl) rfl rfl (by first | exact Nat.zero_le _ | simp [Value.category]) (by decide) ?_
      rintro T15 h15 v15 ⟨rfl, I⟩ X15
      refine o_v1 ?_
      refine o_iload X15 f0_245 rfl ?_
      refine o_iload X15 f0_247 rfl ?_
      refine o_bipush 8 X15 f0_249 rfl ?_
      refine o_iadd X15 f0_251 ?_
      refine o_bool_icmp_lt X15 f0_252 f0_255 f0_256 f0_259 ?_
      refine o_icmp_ne_f X15 f0_260 (rfl) ?_
      refine o_iconst 1 X15 f0_263 rfl ?_
      refine o_goto X15 f0_264 ?_
      refine o_istore X15 f0_268 (Ls' := #[_, _, _, _, _, _, _, _, _, _, _, _, _, _, _, _, _, _, _, _, _]) rfl ?_
      refine o_iload X15 f0_270 rfl ?_
      refine o_if_eq_f X15 f0_272 (by decide) ?_
      refine o_iload X15 f0_275 rfl ?_
      refine o_if_eq_f X15 f0_277 (by decide) ?_
      refine o_iload X15 f0_280 rfl ?_
      refine o_if_eq_f X15 f0_282 (by decide) ?_
      refine o_iload X15 f0_285 rfl ?_
      refine o_if_eq_f X15 f0_287 (by decide) ?_
      refine o_iconst 1 X15 f0_290 rfl ?_
      refine o_goto X15 f0_291 ?_
      refine o_retZ X15 f0_295 (by decide) (by decide) ?_
      rfl
  · refine o_aload X2 f0_74 rfl rfl ?_
    refine o_iload X2 f0_76 rfl ?_
    refine o_callV X2 8 f0_78 (hw _ (List.mem_of_getElem? (i := 19) rfl)) (hw _ (List.mem_of_getElem? (i := 20) rfl)) (hw _ (List.mem_of_getElem? (i := 22) rfl)) (hw _ (List.mem_of_getElem? (i := 22) rfl)) (hw _ (List.mem_of_getElem? (i := 21) rfl)) (by decide) (hw _ (List.mem_of_getElem? (i := 23) rfl)) (hw _ (List.mem_of_getElem? (i := 3) rfl)) (rm3 K.l Z a0 hw a _ _ n0 ha _ _ I) (own_ex I) (lenOf pd3 rfl) rfl rfl (by first | exact Nat.zero_le _ | simp [Value.category]) (by decide) ?_
    rintro T16 h16 v16 ⟨rfl, I⟩ X16
    refine o_v0 ?_
    refine o_iload X16 f0_81 rfl ?_
    refine o_istore X16 f0_83 (Ls' := #[_, _, _, _, _, _, _, _, _, _, _, _, _, _, _, _, _, _, _, _, _]) rfl ?_
    refine o_iload_n X16 f0_85 rfl ?_
    refine o_iload X16 f0_86 rfl ?_
    refine o_iload X16 f0_88 rfl ?_
    refine o_callS X16 8 f0_90 (hw _ (List.mem_of_getElem? (i := 36) rfl)) (hw _ (List.mem_of_getElem? (i := 37) rfl)) (hw _ (List.mem_of_getElem? (i := 38) rfl)) (hw _ (List.mem_of_getElem? (i := 39) rfl)) (by decide) (rm4 K.l Z a0 hw _ _ _ _ _) (lenOf pd1 rfl) rfl rfl (by first | exact Nat.zero_le _ | simp [Value.category]) (by decide) ?_
    rintro T17 h17 v17 ⟨rfl, rfl⟩ X17
    refine o_v1 ?_
    refine o_istore X17 f0_93 (Ls' := #[_, _, _, _, _, _, _, _, _, _, _, _, _, _, _, _, _, _, _, _, _]) rfl ?_
    refine o_aload X17 f0_95 rfl rfl ?_
    refine o_iload X17 f0_97 rfl ?_
    refine o_callV X17 8 f0_99 (hw _ (List.mem_of_getElem? (i := 40) rfl)) (hw _ (List.mem_of_getElem? (i := 41) rfl)) (hw _ (List.mem_of_getElem? (i := 43) rfl)) (hw _ (List.mem_of_getElem? (i := 43) rfl)) (hw _ (List.mem_of_getElem? (i := 42) rfl)) (by decide) (hw _ (List.mem_of_getElem? (i := 44) rfl)) (hw _ (List.mem_of_getElem? (i := 3) rfl)) (rm5 K.l Z a0 hw a _ _ n0 ha _ 0 (by decide) I) (own_ex I) (lenOf pd2 rfl) rfl rfl (by first | exact Nat.zero_le _ | simp [Value.category]) (by decide) ?_
    rintro T18 h18 v18 ⟨rfl, I⟩ X18
    refine o_v1 ?_
    refine o_iload X18 f0_102 rfl ?_
    refine o_iload X18 f0_104 rfl ?_
    refine o_bipush 8 X18 f0_106 rfl ?_
    refine o_iadd X18 f0_108 ?_
    refine o_bool_icmp_lt X18 f0_109 f0_112 f0_113 f0_116 ?_
    refine o_icmp_ne_f X18 f0_117 (rfl) ?_
    refine o_iconst 1 X18 f0_120 rfl ?_
    refine o_goto X18 f0_121 ?_
    refine o_istore X18 f0_125 (Ls' := #[_, _, _, _, _, _, _, _, _, _, _, _, _, _, _, _, _, _, _, _, _]) rfl ?_
    refine o_iload_n X18 f0_127 rfl ?_
    refine o_iload X18 f0_128 rfl ?_
    refine o_iload X18 f0_130 rfl ?_
    refine o_callS X18 8 f0_132 (hw _ (List.mem_of_getElem? (i := 36) rfl)) (hw _ (List.mem_of_getElem? (i := 37) rfl)) (hw _ (List.mem_of_getElem? (i := 38) rfl)) (hw _ (List.mem_of_getElem? (i := 39) rfl)) (by decide) (rm4 K.l Z a0 hw _ _ _ _ _) (lenOf pd1 rfl) rfl rfl (by first | exact Nat.zero_le _ | simp [Value.category]) (by decide) ?_
    rintro T19 h19 v19 ⟨rfl, rfl⟩ X19
    refine o_v1 ?_
    refine o_istore X19 f0_135 (Ls' := #[_, _, _, _, _, _, _, _, _, _, _, _, _, _, _, _, _, _, _, _, _]) rfl ?_
    refine o_aload X19 f0_137 rfl rfl ?_
    refine o_iload X19 f0_139 rfl ?_
    refine o_callV X19 8 f0_141 (hw _ (List.mem_of_getElem? (i := 40) rfl)) (hw _ (List.mem_of_getElem? (i := 41) rfl)) (hw _ (List.mem_of_getElem? (i := 43) rfl)) (hw _ (List.mem_of_getElem? (i := 43) rfl)) (hw _ (List.mem_of_getElem? (i := 42) rfl)) (by decide) (hw _ (List.mem_of_getElem? (i := 44) rfl)) (hw _ (List.mem_of_getElem? (i := 3) rfl)) (rm5 K.l Z a0 hw a _ _ n0 ha _ 1 (by decide) I) (own_ex I) (lenOf pd2 rfl) rfl rfl (by first | exact Nat.zero_le _ | simp [Value.category]) (by decide) ?_
    rintro T20 h20 v20 ⟨rfl, I⟩ X20
    refine o_v1 ?_
    refine o_iload X20 f0_144 rfl ?_
    refine o_iload X20 f0_146 rfl ?_
    refine o_bipush 8 X20 f0_148 rfl ?_
    refine o_iadd X20 f0_150 ?_
    refine o_bool_icmp_lt X20 f0_151 f0_154 f0_155 f0_158 ?_
    refine o_icmp_ne_f X20 f0_159 (rfl) ?_
    refine o_iconst 1 X20 f0_162 rfl ?_
    refine o_goto X20 f0_163 ?_
    refine o_istore X20 f0_167 (Ls' := #[_, _, _, _, _, _, _, _, _, _, _, _, _, _, _, _, _, _, _, _, _]) rfl ?_
    refine o_iload X20 f0_169 rfl ?_
    refine o_if_eq X20 f0_171 (fun q171 => ?_) (fun q171 => ?_)
    · refine o_iload_n X20 f0_185 rfl ?_
      refine o_iload X20 f0_186 rfl ?_
      refine o_iload X20 f0_188 rfl ?_
      refine o_callS X20 8 f0_190 (hw _ (List.mem_of_getElem? (i := 36) rfl)) (hw _ (List.mem_of_getElem? (i := 37) rfl)) (hw _ (List.mem_of_getElem? (i := 38) rfl)) (hw _ (List.mem_of_getElem? (i := 39) rfl)) (by decide) (rm4 K.l Z a0 hw _ _ _ _ _) (lenOf pd1 rfl) rfl rfl (by first | exact Nat.zero_le _ | simp [Value.category]) (by decide) ?_
      rintro T21 h21 v21 ⟨rfl, rfl⟩ X21
      refine o_v1 ?_
      refine o_istore X21 f0_193 (Ls' := #[_, _, _, _, _, _, _, _, _, _, _, _, _, _, _, _, _, _, _, _, _]) rfl ?_
      refine o_aload X21 f0_195 rfl rfl ?_
      refine o_iload X21 f0_197 rfl ?_
      refine o_callV X21 8 f0_199 (hw _ (List.mem_of_getElem? (i := 40) rfl)) (hw _ (List.mem_of_getElem? (i := 41) rfl)) (hw _ (List.mem_of_getElem? (i := 43) rfl)) (hw _ (List.mem_of_getElem? (i := 43) rfl)) (hw _ (List.mem_of_getElem? (i := 42) rfl)) (by decide) (hw _ (List.mem_of_getElem? (i := 44) rfl)) (hw _ (List.mem_of_getElem? (i := 3) rfl)) (rm5 K.l Z a0 hw a _ _ n0 ha _ 2 (by decide) I) (own_ex I) (lenOf pd2 rfl) rfl rfl (by first | exact Nat.zero_le _ | simp [Value.category]) (by decide) ?_
      rintro T22 h22 v22 ⟨rfl, I⟩ X22
      refine o_v1 ?_
      refine o_iload X22 f0_202 rfl ?_
      refine o_iload X22 f0_204 rfl ?_
      refine o_bipush 8 X22 f0_206 rfl ?_
      refine o_iadd X22 f0_208 ?_
      refine o_bool_icmp_lt X22 f0_209 f0_212 f0_213 f0_216 ?_
      refine o_icmp_ne_f X22 f0_217 (rfl) ?_
      refine o_iconst 1 X22 f0_220 rfl ?_
      refine o_goto X22 f0_221 ?_
      refine o_istore X22 f0_225 (Ls' := #[_, _, _, _, _, _, _, _, _, _, _, _, _, _, _, _, _, _, _, _, _]) rfl ?_
      refine o_iload X22 f0_227 rfl ?_
      refine o_iload X22 f0_229 rfl ?_
      refine o_iload X22 f0_231 rfl ?_
      refine o_callS X22 8 f0_233 (hw _ (List.mem_of_getElem? (i := 36) rfl)) (hw _ (List.mem_of_getElem? (i := 37) rfl)) (hw _ (List.mem_of_getElem? (i := 38) rfl)) (hw _ (List.mem_of_getElem? (i := 39) rfl)) (by decide) (rm4 K.l Z a0 hw _ _ _ _ _) (lenOf pd1 rfl) rfl rfl (by first | exact Nat.zero_le _ | simp [Value.category]) (by decide) ?_
      rintro T23 h23 v23 ⟨rfl, rfl⟩ X23
      refine o_v1 ?_
      refine o_istore X23 f0_236 (Ls' := #[_, _, _, _, _, _, _, _, _, _, _, _, _, _, _, _, _, _, _, _, _]) rfl ?_
      refine o_aload X23 f0_238 rfl rfl ?_
      refine o_iload X23 f0_240 rfl ?_
      refine o_callV X23 8 f0_242 (hw _ (List.mem_of_getElem? (i := 40) rfl)) (hw _ (List.mem_of_getElem? (i := 41) rfl)) (hw _ (List.mem_of_getElem? (i := 43) rfl)) (hw _ (List.mem_of_getElem? (i := 43) rfl)) (hw _ (List.mem_of_getElem? (i := 42) rfl)) (by decide) (hw _ (List.mem_of_getElem? (i := 44) rfl)) (hw _ (List.mem_of_getElem? (i := 3) rfl)) (rm5 K.l Z a0 hw a _ _ n0 ha _ 3 (by decide) I) (own_ex I) (lenOf pd2 rfl) rfl rfl (by first | exact Nat.zero_le _ | simp [Value.category]) (by decide) ?_
      rintro T24 h24 v24 ⟨rfl, I⟩ X24
      refine o_v1 ?_
      refine o_iload X24 f0_245 rfl ?_
      refine o_iload X24 f0_247 rfl ?_
      refine o_bipush 8 X24 f0_249 rfl ?_
      refine o_iadd X24 f0_251 ?_
      refine o_bool_icmp_lt X24 f0_252 f0_255 f0_256 f0_259 ?_
      refine o_icmp_ne_f X24 f0_260 (rfl) ?_
      refine o_iconst 1 X24 f0_263 rfl ?_
      refine o_goto X24 f0_264 ?_
      refine o_istore X24 f0_268 (Ls' := #[_, _, _, _, _, _, _, _, _, _, _, _, _, _, _, _, _, _, _, _, _]) rfl ?_
      refine o_iload X24 f0_270 rfl ?_
      refine o_if_eq_f X24 f0_272 (by decide) ?_
      refine o_iload X24 f0_275 rfl ?_
      refine o_if_eq_f X24 f0_277 (by decide) ?_
      refine o_iload X24 f0_280 rfl ?_
      refine o_if_eq_f X24 f0_282 (by decide) ?_
      refine o_iload X24 f0_285 rfl ?_
      refine o_if_eq_f X24 f0_287 (by decide) ?_
      refine o_iconst 1 X24 f0_290 rfl ?_
      refine o_goto X24 f0_291 ?_
      refine o_retZ X24 f0_295 (by decide) (by decide) ?_
      rfl
    · refine o_aload X20 f0_174 rfl rfl ?_
      refine o_iload X20 f0_176 rfl ?_
      refine o_callV X20 8 f0_178 (hw _ (List.mem_of_getElem? (i := 19) rfl)) (hw _ (List.mem_of_getElem? (i := 20) rfl)) (hw _ (List.mem_of_getElem? (i := 22) rfl)) (hw _ (List.mem_of_getElem? (i := 22) rfl)) (hw _ (List.mem_of_getElem? (i := 21) rfl)) (by decide) (hw _ (List.mem_of_getElem? (i := 23) rfl)) (hw _ (List.mem_of_getElem? (i := 3) rfl)) (rm3 K.l Z a0 hw a _ _ n0 ha _ _ I) (own_ex I) (lenOf pd3 rfl) rfl rfl (by first | exact Nat.zero_le _ | simp [Value.category]) (by decide) ?_
      rintro T25 h25 v25 ⟨rfl, I⟩ X25
      refine o_v0 ?_
      refine o_iload X25 f0_181 rfl ?_
      refine o_istore X25 f0_183 (Ls' := #[_, _, _, _, _, _, _, _, _, _, _, _, _, _, _, _, _, _, _, _, _]) rfl ?_
      refine o_iload_n X25 f0_185 rfl ?_
      refine o_iload X25 f0_186 rfl ?_
      refine o_iload X25 f0_188 rfl ?_
      refine o_callS X25 8 f0_190 (hw _ (List.mem_of_getElem? (i := 36) rfl)) (hw _ (List.mem_of_getElem? (i := 37) rfl)) (hw _ (List.mem_of_getElem? (i := 38) rfl)) (hw _ (List.mem_of_getElem? (i := 39) rfl)) (by decide) (rm4 K.l Z a0 hw _ _ _ _ _) (lenOf pd1 rfl) rfl rfl (by first | exact Nat.zero_le _ | simp [Value.category]) (by decide) ?_
      rintro T26 h26 v26 ⟨rfl, rfl⟩ X26
      refine o_v1 ?_
      refine o_istore X26 f0_193 (Ls' := #[_, _, _, _, _, _, _, _, _, _, _, _, _, _, _, _, _, _, _, _, _]) rfl ?_
      refine o_aload X26 f0_195 rfl rfl ?_
      refine o_iload X26 f0_197 rfl ?_
      refine o_callV X26 8 f0_199 (hw _ (List.mem_of_getElem? (i := 40) rfl)) (hw _ (List.mem_of_getElem? (i := 41) rfl)) (hw _ (List.mem_of_getElem? (i := 43) rfl)) (hw _ (List.mem_of_getElem? (i := 43) rfl)) (hw _ (List.mem_of_getElem? (i := 42) rfl)) (by decide) (hw _ (List.mem_of_getElem? (i := 44) rfl)) (hw _ (List.mem_of_getElem? (i := 3) rfl)) (rm5 K.l Z a0 hw a _ _ n0 ha _ 0 (by decide) I) (own_ex I) (lenOf pd2 rfl) rfl rfl (by first | exact Nat.zero_le _ | simp [Value.category]) (by decide) ?_
      rintro T27 h27 v27 ⟨rfl, I⟩ X27
      refine o_v1 ?_
      refine o_iload X27 f0_202 rfl ?_
      refine o_iload X27 f0_204 rfl ?_
      refine o_bipush 8 X27 f0_206 rfl ?_
      refine o_iadd X27 f0_208 ?_
      refine o_bool_icmp_lt X27 f0_209 f0_212 f0_213 f0_216 ?_
      refine o_icmp_ne_f X27 f0_217 (rfl) ?_
      refine o_iconst 1 X27 f0_220 rfl ?_
      refine o_goto X27 f0_221 ?_
      refine o_istore X27 f0_225 (Ls' := #[_, _, _, _, _, _, _, _, _, _, _, _, _, _, _, _, _, _, _, _, _]) rfl ?_
      refine o_iload X27 f0_227 rfl ?_
      refine o_iload X27 f0_229 rfl ?_
      refine o_iload X27 f0_231 rfl ?_
      refine o_callS X27 8 f0_233 (hw _ (List.mem_of_getElem? (i := 36) rfl)) (hw _ (List.mem_of_getElem? (i := 37) rfl)) (hw _ (List.mem_of_getElem? (i := 38) rfl)) (hw _ (List.mem_of_getElem? (i := 39) rfl)) (by decide) (rm4 K.l Z a0 hw _ _ _ _ _) (lenOf pd1 rfl) rfl rfl (by first | exact Nat.zero_le _ | simp [Value.category]) (by decide) ?_
      rintro T28 h28 v28 ⟨rfl, rfl⟩ X28
      refine o_v1 ?_
      refine o_istore X28 f0_236 (Ls' := #[_, _, _, _, _, _, _, _, _, _, _, _, _, _, _, _, _, _, _, _, _]) rfl ?_
      refine o_aload X28 f0_238 rfl rfl ?_
      refine o_iload X28 f0_240 rfl ?_
      refine o_callV X28 8 f0_242 (hw _ (List.mem_of_getElem? (i := 40) rfl)) (hw _ (List.mem_of_getElem? (i := 41) rfl)) (hw _ (List.mem_of_getElem? (i := 43) rfl)) (hw _ (List.mem_of_getElem? (i := 43) rfl)) (hw _ (List.mem_of_getElem? (i := 42) rfl)) (by decide) (hw _ (List.mem_of_getElem? (i := 44) rfl)) (hw _ (List.mem_of_getElem? (i := 3) rfl)) (rm5 K.l Z a0 hw a _ _ n0 ha _ 1 (by decide) I) (own_ex I) (lenOf pd2 rfl) rfl rfl (by first | exact Nat.zero_le _ | simp [Value.category]) (by decide) ?_
      rintro T29 h29 v29 ⟨rfl, I⟩ X29
      refine o_v1 ?_
      refine o_iload X29 f0_245 rfl ?_
      refine o_iload X29 f0_247 rfl ?_
      refine o_bipush 8 X29 f0_249 rfl ?_
      refine o_iadd X29 f0_251 ?_
      refine o_bool_icmp_lt X29 f0_252 f0_255 f0_256 f0_259 ?_
      refine o_icmp_ne_f X29 f0_260 (rfl) ?_
      refine o_iconst 1 X29 f0_263 rfl ?_
      refine o_goto X29 f0_264 ?_
      refine o_istore X29 f0_268 (Ls' := #[_, _, _, _, _, _, _, _, _, _, _, _, _, _, _, _, _, _, _, _, _]) rfl ?_
      refine o_iload X29 f0_270 rfl ?_
      refine o_if_eq_f X29 f0_272 (by decide) ?_
      refine o_iload X29 f0_275 rfl ?_
      refine o_if_eq_f X29 f0_277 (by decide) ?_
      refine o_iload X29 f0_280 rfl ?_
      refine o_if_eq_f X29 f0_282 (by decide) ?_
      refine o_iload X29 f0_285 rfl ?_
      refine o_if_eq_f X29 f0_287 (by decide) ?_
      refine o_iconst 1 X29 f0_290 rfl ?_
      refine o_goto X29 f0_291 ?_
      refine o_retZ X29 f0_295 (by decide) (by decide) ?_
      rfl
set_option maxRecDepth 65536 in
set_option maxHeartbeats 40000000 in
theorem comes_1 {Post : Tables → Env → Array Value → State → Outcome → State → Prop} (hpost : ∀ tb e args s v u, (limb_1_1.after args s (.returned v) u = true ∧ limb_1_2.after args s (.returned v) u = true ∧ True) → FrameEnd s (.returned v) u (Jvm.fieldLocs frame_1_writes args s ++ Jvm.arrayLocs frame_1_arrays args s ++ Jvm.staticLocs frame_1_statics s) 16 256 → Post tb e args s (.returned v) u) :
    ArmFor flags0 classFile x code maxLocals ret World_1 tables_1 room_1 Calls_1 rest_1 Pre_1 Post := by
  intro l hfl _ _ p e ha hc hk s m args below hf hA hF happ hP
  obtain ⟨hcalls, hrest, hpre⟩ := hP
  obtain ⟨-, -, -, hnamed, -, -, -, hat⟩ := (Spec.applies_iff hf).mp happ
  obtain ⟨hg, hn⟩ := and_e (Cond.before_iff.mp (show (Jvm.Cond.and given_1 narrow_1).before args s = true from hpre))
  obtain ⟨g0, r0⟩ := and_e hg
  obtain ⟨p0, r1⟩ := and_e r0
  obtain ⟨p1, r2⟩ := and_e r1
  obtain ⟨p2, r3⟩ := and_e r2
  obtain ⟨p3, r4⟩ := and_e r3
  obtain ⟨p4, r5⟩ := and_e r4
  obtain ⟨w0, w1, w2, w3, w4, w5, rfl⟩ : ∃ w0 w1 w2 w3 w4 w5 : Value, args = #[w0, w1, w2, w3, w4, w5] := by
    have hs : args.size = 6 := by simpa [Cond.value, given_1] using g0
    obtain ⟨L⟩ := args
    match L, hs with
    | [w0, w1, w2, w3, w4, w5], _ => exact ⟨w0, w1, w2, w3, w4, w5, rfl⟩
  have hw := fun d (hd : d ∈ tables_1) => atoms_spec (ws := Jvm.Cond.code x code maxLocals ret :: tables_1) hat d (List.mem_cons_of_mem _ hd)
  obtain ⟨i0, e0⟩ := is_v p0
  obtain rfl : w0 = (.int i0) := Option.some.inj e0
  obtain ⟨i1, e1⟩ := is_v p1
  obtain rfl : w1 = (.int i1) := Option.some.inj e1
  obtain ⟨i2, e2⟩ := is_v p2
  obtain rfl : w2 = (.int i2) := Option.some.inj e2
  obtain ⟨i3, e3⟩ := is_v p3
  obtain rfl : w3 = (.int i3) := Option.some.inj e3
  obtain ⟨i4, e4⟩ := is_v p4
  obtain rfl : w4 = (.int i4) := Option.some.inj e4
  obtain ⟨i5, e5⟩ := is_v r5
  obtain rfl : w5 = (.int i5) := Option.some.inj e5
  obtain ⟨n, o, h1, h2, h3, _, L, rfl, ⟨rfl, N⟩, hq⟩ := rm0 l s _ hw i0 i1 i2 i3 i4 i5 s.heap s.heap.size (Nat.le_refl _) p e ha hc hk s m _ below hf ((Spec.applies_iff_loose hf).mp happ).1 ⟨rfl, State.Warmed39.refl s, rfl⟩ trivial
  refine ⟨n, _, h1, h2, h3, hpost _ _ _ _ _ _ ⟨Cond.after_iff.mpr rfl, Cond.after_iff.mpr (eq_i res_at (Term.int_eval (1)) rfl), trivial⟩ ⟨hq.1, hq.2.1, (hq.2.2.sift fun y hy => Or.inr (N y hy)).mono (by decide) (by decide)⟩⟩
theorem main_1_1 : Claimed_1_1 := comes_1 fun _ _ _ _ _ _ h hF => ⟨h.1, hF⟩
theorem main_1_2 : Claimed_1_2 := comes_1 fun _ _ _ _ _ _ h hF => ⟨h.2.1, hF⟩
end Jvm.Pilot.@@N@@
namespace Jvm.Pilot.@@N@@
open Jvm Jvm.ClassFile Sem Op Lib Jvm.Free Jvm.Stand Jvm.Pilot.@@N@@.Jvm.D
/-! MADE BY PROGRAM (witnessworld.py) out of the Statement's table words and the real class files: 11 classes; the members and pool entries that the words name. The judged class is class 1, her method 2. -/
namespace start1
open Jvm.ClassFile
def u (s : String) : CpInfo := .utf8 (stringToUtf16 s)
/-- a pool by its gaps: so many unusable entries, then the entry; so many at the end -/
def gap : Nat → List CpInfo → List CpInfo
  | 0, r => r
  | n + 1, r => .unusable :: gap n r
def poolList (es : List (Nat × CpInfo)) (last : Nat) : List CpInfo := es.foldr (fun e r => gap e.1 (e.2 :: r)) (gap last [])
def pool (es : List (Nat × CpInfo)) (last : Nat) : Array CpInfo := ⟨poolList es last⟩
def fileOf (pool : Array CpInfo) (this : Nat) (attrs : Array Attribute := #[]) (ms : Array MethodInfo := #[]) (fl : Nat := 33) (sup : Nat := 0) (ifs : Array Nat := #[]) (fds : Array FieldInfo := #[]) : ClassFile where
  minorVersion := 0
  majorVersion := 65
  constantPool := pool
  accessFlags := fl
  thisClass := this
  superClass := sup
  interfaces := ifs
  fields := fds
  methods := ms
  attributes := attrs
def plain (name : String) (sup : Option ClassId) : Class where
  name := name
  kind := .ordinary
  loader := none
  accessFlags := 33
  super := sup
  interfaces := #[]
  cf := none
  fields := #[]
  methods := #[]
  instanceTypes := #[]
  staticTypes := #[]
  resolved := #[]
  callSites := []
  init := .initialized
  statics := none
  mirror := none

def pool0 : Array CpInfo := pool [(5, u "<init>"), (0, u "()V"), (1, .class_ 10), (1, u "java/lang/Object")] 113

def k0c0 : Code := { maxStack := 0, maxLocals := 1, code := object_method_1_code, exceptionTable := #[], attributes := #[] }
def k0m0 : Method := { name := "<init>", desc := "()V", sig := { parameters := [], returnType := none }, accessFlags := 1, code := some k0c0 }
/-- java/lang/Object -/
def k0 : Class := { plain "java/lang/Object" none with
  accessFlags := 33
  interfaces := #[]
  cf := some (fileOf pool0 8 #[] #[{ accessFlags := 1, nameIndex := 5, descriptorIndex := 6, attributes := #[] }] 33 0 #[] #[])
  fields := #[]
  methods := #[k0m0]
  instanceTypes := #[]
  staticTypes := #[]
  resolved := Array.replicate 124 none
  statics := none }

def pool1 : Array CpInfo := pool [(2, .class_ 4), (0, .nameAndType 5 6), (0, u "java/lang/Object"), (0, u "<init>"), (0, u "()V"), (0, .integer 1073741823), (0, .class_ 9), (0, u "com/example/amends/amends/core/Recall"), (0, .methodref 8 3), (0, .methodref 8 12), (0, .nameAndType 13 14), (0, u "startFrom"), (0, u "(I)V"), (0, .methodref 16 17), (0, .class_ 18), (0, .nameAndType 19 20), (0, u "com/example/amends/amends/core/RecallKeepsMovesOfPinLaw"), (0, u "pick"), (0, u "(IIZ)I"), (0, .methodref 8 22), (0, .nameAndType 23 24), (0, u "keepsMovesOf"), (0, u "(I)Z"), (3, u "law"), (0, u "(IIIIII)Z")] 2

def k1m0 : Method := { name := "<init>", desc := "()V", sig := { parameters := [], returnType := none }, accessFlags := 2, code := none }
def k1c1 : Code := { maxStack := 3, maxLocals := 3, code := method_2_code, exceptionTable := #[], attributes := #[] }
def k1m1 : Method := { name := "pick", desc := "(IIZ)I", sig := { parameters := [.int, .int, .boolean], returnType := some .int }, accessFlags := 10, code := some k1c1 }
def k1c2 : Code := { maxStack := 4, maxLocals := 21, code := code, exceptionTable := #[], attributes := #[] }
def k1m2 : Method := { name := "law", desc := "(IIIIII)Z", sig := { parameters := [.int, .int, .int, .int, .int, .int], returnType := some .boolean }, accessFlags := 9, code := some k1c2 }
/-- com/example/amends/amends/core/RecallKeepsMovesOfPinLaw -/
def k1 : Class := { plain "com/example/amends/amends/core/RecallKeepsMovesOfPinLaw" (some 0) with
  accessFlags := 49
  interfaces := #[]
  cf := some (fileOf pool1 16 #[] #[{ accessFlags := 2, nameIndex := 5, descriptorIndex := 6, attributes := #[] }, { accessFlags := 10, nameIndex := 19, descriptorIndex := 20, attributes := #[] }, { accessFlags := 9, nameIndex := 28, descriptorIndex := 29, attributes := #[] }] 49 2 #[] #[])
  fields := #[]
  methods := #[k1m0, k1m1, k1m2]
  instanceTypes := #[]
  staticTypes := #[]
  resolved := Array.replicate 32 none
  statics := none }

def pool2 : Array CpInfo := pool [(1, .class_ 2), (0, u "com/example/amends/amends/core/Recall"), (0, .methodref 4 5), (0, .class_ 6), (0, .nameAndType 7 8), (0, u "java/lang/Object"), (0, u "<init>"), (0, u "()V"), (0, .class_ 10), (0, u "com/example/amends/amends/core/Recall$Made"), (0, .fieldref 1 12), (0, .nameAndType 13 14), (0, u "kept"), (0, u "[Lcom/example/amends/amends/core/Recall$Made;"), (0, .fieldref 1 16), (0, .nameAndType 17 18), (0, u "deepest"), (0, u "I"), (0, .long 64), (1, .fieldref 1 22), (0, .nameAndType 23 24), (0, u "rest"), (0, u "J"), (32, .fieldref 1 58), (0, .nameAndType 59 24), (0, u "grown"), (0, .fieldref 1 61), (0, .nameAndType 62 24), (0, u "takenOverAt"), (7, .class_ 71), (0, u "com/example/amends/amends/core/Recall$Recording"), (16, u "firsts"), (0, u "Ljava/util/Map;"), (0, .fieldref 1 91), (0, .nameAndType 92 18), (0, u "seedNesting"), (0, .fieldref 1 94), (0, .nameAndType 95 24), (0, u "followed"), (0, .fieldref 1 97), (0, .nameAndType 98 24), (0, u "deepestAt"), (0, .fieldref 1 100), (0, .nameAndType 101 24), (0, u "restUntil"), (0, .long 2), (19, u "next"), (0, u "DEEP"), (2, u "KEPT"), (1, u "ROUND"), (0, u "FEW"), (6, u "startFrom"), (0, u "(I)V"), (0, u "keepsMovesOf"), (0, u "(I)Z"), (5, .class_ 146), (0, u "com/example/amends/amends/core/Recall$Move"), (0, .class_ 148), (0, u "com/example/amends/amends/core/Recall$Kind"), (0, .class_ 150), (0, u "com/example/amends/amends/core/Recall$Entering")] 7

def k2c0 : Code := { maxStack := 3, maxLocals := 1, code := prog_77_method_1_code, exceptionTable := #[], attributes := #[] }
def k2m0 : Method := { name := "<init>", desc := "()V", sig := { parameters := [], returnType := none }, accessFlags := 0, code := some k2c0 }
def k2c1 : Code := { maxStack := 3, maxLocals := 2, code := prog_77_method_5_code, exceptionTable := #[], attributes := #[] }
def k2m1 : Method := { name := "startFrom", desc := "(I)V", sig := { parameters := [.int], returnType := none }, accessFlags := 0, code := some k2c1 }
def k2c2 : Code := { maxStack := 5, maxLocals := 3, code := prog_77_method_6_code, exceptionTable := #[], attributes := #[] }
def k2m2 : Method := { name := "keepsMovesOf", desc := "(I)Z", sig := { parameters := [.int], returnType := some .boolean }, accessFlags := 0, code := some k2c2 }
/-- com/example/amends/amends/core/Recall -/
def k2 : Class := { plain "com/example/amends/amends/core/Recall" (some 0) with
  accessFlags := 48
  interfaces := #[]
  cf := some (fileOf pool2 1 #[.nestMembers #[70, 145, 147, 149, 9]] #[{ accessFlags := 0, nameIndex := 7, descriptorIndex := 8, attributes := #[] }, { accessFlags := 0, nameIndex := 136, descriptorIndex := 137, attributes := #[] }, { accessFlags := 0, nameIndex := 138, descriptorIndex := 139, attributes := #[] }] 48 4 #[] #[{ accessFlags := 26, nameIndex := 123, descriptorIndex := 18, attributes := #[] }, { accessFlags := 26, nameIndex := 126, descriptorIndex := 18, attributes := #[] }, { accessFlags := 26, nameIndex := 128, descriptorIndex := 18, attributes := #[] }, { accessFlags := 26, nameIndex := 129, descriptorIndex := 18, attributes := #[] }, { accessFlags := 18, nameIndex := 13, descriptorIndex := 14, attributes := #[] }, { accessFlags := 2, nameIndex := 122, descriptorIndex := 18, attributes := #[] }, { accessFlags := 2, nameIndex := 88, descriptorIndex := 89, attributes := #[] }, { accessFlags := 2, nameIndex := 92, descriptorIndex := 18, attributes := #[] }, { accessFlags := 2, nameIndex := 17, descriptorIndex := 18, attributes := #[] }, { accessFlags := 2, nameIndex := 95, descriptorIndex := 24, attributes := #[] }, { accessFlags := 2, nameIndex := 98, descriptorIndex := 24, attributes := #[] }, { accessFlags := 2, nameIndex := 59, descriptorIndex := 24, attributes := #[] }, { accessFlags := 2, nameIndex := 62, descriptorIndex := 24, attributes := #[] }, { accessFlags := 2, nameIndex := 101, descriptorIndex := 24, attributes := #[] }, { accessFlags := 2, nameIndex := 23, descriptorIndex := 24, attributes := #[] }])
  fields := #[{ name := "DEEP", type := .int, accessFlags := 26, slot := 0, constantValue := 0 }, { name := "KEPT", type := .int, accessFlags := 26, slot := 1, constantValue := 0 }, { name := "ROUND", type := .int, accessFlags := 26, slot := 2, constantValue := 0 }, { name := "FEW", type := .int, accessFlags := 26, slot := 3, constantValue := 0 }, { name := "kept", type := (.array (.object "com/example/amends/amends/core/Recall$Made")), accessFlags := 18, slot := 0, constantValue := 0 }, { name := "next", type := .int, accessFlags := 2, slot := 1, constantValue := 0 }, { name := "firsts", type := (.object "java/util/Map"), accessFlags := 2, slot := 2, constantValue := 0 }, { name := "seedNesting", type := .int, accessFlags := 2, slot := 3, constantValue := 0 }, { name := "deepest", type := .int, accessFlags := 2, slot := 4, constantValue := 0 }, { name := "followed", type := .long, accessFlags := 2, slot := 5, constantValue := 0 }, { name := "deepestAt", type := .long, accessFlags := 2, slot := 6, constantValue := 0 }, { name := "grown", type := .long, accessFlags := 2, slot := 7, constantValue := 0 }, { name := "takenOverAt", type := .long, accessFlags := 2, slot := 8, constantValue := 0 }, { name := "restUntil", type := .long, accessFlags := 2, slot := 9, constantValue := 0 }, { name := "rest", type := .long, accessFlags := 2, slot := 10, constantValue := 0 }]
  methods := #[k2m0, k2m1, k2m2]
  instanceTypes := #[(.array (.object "com/example/amends/amends/core/Recall$Made")), .int, (.object "java/util/Map"), .int, .int, .long, .long, .long, .long, .long, .long]
  staticTypes := #[.int, .int, .int, .int]
  resolved := Array.replicate 158 none
  statics := none }

def pool3 : Array CpInfo := pool [(2, .class_ 4), (1, u "java/lang/Object"), (6, .class_ 13), (1, u "com/example/amends/amends/core/Recall$Made"), (0, u "asked"), (0, u "Ljava/util/Set;"), (5, u "moves"), (0, u "Ljava/util/List;"), (2, u "state"), (0, u "Lcom/example/amends/amends/core/State;"), (2, u "store"), (0, u "Lcom/example/amends/amends/core/Store;"), (37, u "untold"), (0, u "Z"), (25, .class_ 96), (0, u "com/example/amends/amends/core/Recall")] 7

/-- com/example/amends/amends/core/Recall$Made -/
def k3 : Class := { plain "com/example/amends/amends/core/Recall$Made" (some 0) with
  accessFlags := 48
  interfaces := #[]
  cf := some (fileOf pool3 11 #[.nestHost 95] #[] 48 2 #[] #[{ accessFlags := 18, nameIndex := 25, descriptorIndex := 26, attributes := #[] }, { accessFlags := 18, nameIndex := 29, descriptorIndex := 30, attributes := #[] }, { accessFlags := 18, nameIndex := 14, descriptorIndex := 15, attributes := #[] }, { accessFlags := 2, nameIndex := 68, descriptorIndex := 69, attributes := #[] }, { accessFlags := 18, nameIndex := 21, descriptorIndex := 22, attributes := #[] }])
  fields := #[{ name := "state", type := (.object "com/example/amends/amends/core/State"), accessFlags := 18, slot := 0, constantValue := 0 }, { name := "store", type := (.object "com/example/amends/amends/core/Store"), accessFlags := 18, slot := 1, constantValue := 0 }, { name := "asked", type := (.object "java/util/Set"), accessFlags := 18, slot := 2, constantValue := 0 }, { name := "untold", type := .boolean, accessFlags := 2, slot := 3, constantValue := 0 }, { name := "moves", type := (.object "java/util/List"), accessFlags := 18, slot := 4, constantValue := 0 }]
  methods := #[]
  instanceTypes := #[(.object "com/example/amends/amends/core/State"), (.object "com/example/amends/amends/core/Store"), (.object "java/util/Set"), .boolean, (.object "java/util/List")]
  staticTypes := #[]
  resolved := Array.replicate 104 none
  statics := none }

def pool4 : Array CpInfo := pool [(1, u "java/lang/Cloneable"), (0, .class_ 1), (0, u "java/lang/Object"), (0, .class_ 3)] 3

/-- java/lang/Cloneable -/
def k4 : Class := { plain "java/lang/Cloneable" (some 0) with
  accessFlags := 1537
  interfaces := #[]
  cf := some (fileOf pool4 2 #[] #[] 1537 4 #[] #[])
  fields := #[]
  methods := #[]
  instanceTypes := #[]
  staticTypes := #[]
  resolved := Array.replicate 8 none
  statics := none }

def pool5 : Array CpInfo := pool [(1, u "java/io/Serializable"), (0, .class_ 1), (0, u "java/lang/Object"), (0, .class_ 3)] 3

/-- java/io/Serializable -/
def k5 : Class := { plain "java/io/Serializable" (some 0) with
  accessFlags := 1537
  interfaces := #[]
  cf := some (fileOf pool5 2 #[] #[] 1537 4 #[] #[])
  fields := #[]
  methods := #[]
  instanceTypes := #[]
  staticTypes := #[]
  resolved := Array.replicate 8 none
  statics := none }

/-- the primitive byte -/
def k6 : Class := { plain "byte" none with kind := .primitive 'B', accessFlags := 0x411 }
/-- [B -/
def k7 : Class := { plain "[B" (some 0) with kind := .array 6 .byte, interfaces := #[4, 5], accessFlags := 1041 }

/-- the primitive int -/
def k8 : Class := { plain "int" none with kind := .primitive 'I', accessFlags := 0x411 }
/-- [I -/
def k9 : Class := { plain "[I" (some 0) with kind := .array 8 .int, interfaces := #[4, 5], accessFlags := 1041 }

/-- [Lcom/example/amends/amends/core/Recall$Made; -/
def k10 : Class := { plain "[Lcom/example/amends/amends/core/Recall$Made;" (some 0) with kind := .array 3 (.object "com/example/amends/amends/core/Recall$Made"), interfaces := #[4, 5], accessFlags := 1041 }

def heap : Heap := #[]
def classes : Array Class := #[k0, k1, k2, k3, k4, k5, k6, k7, k8, k9, k10]
def interned : List (Array UInt16 × Addr) := []
def slotsUsed : Nat := 0
def theMethod : MethodId := ⟨1, 2⟩
def args0 : Array Value := #[.int 5, .int 5, .int 5, .int 5, .int 5, .int 5]
def aboutOver (below : List Frame) : State where
  vm := { classes := classes, interned := interned.toArray }
  heap := heap
  slotsUsed := slotsUsed
  threads := #[{ frames := .invoking theMethod args0 :: below }]
def below0 : List Frame := [.native { method := ⟨0, 0⟩, args := #[] }]
def about1 : State := aboutOver below0
def p0 : Program := .bare "" "" ""
def e0 : Env := launch0.env 0 0 0
theorem w_frames : about1.frames = Frame.invoking theMethod args0 :: below0 := rfl
set_option maxRecDepth 65536 in
theorem w_args : argsFit about1.vm theMethod args0 = true := by decide +kernel
set_option maxRecDepth 65536 in
theorem w_heap : heapFits about1 = true := by decide +kernel
set_option maxRecDepth 65536 in
theorem w_runnable : about1.curStatus? = some .runnable := by decide +kernel
set_option maxRecDepth 65536 in
theorem w_alone : about1.alone = true := by decide +kernel
set_option maxRecDepth 65536 in
theorem w_named : about1.methodNamed? x = some theMethod := by decide +kernel
set_option maxRecDepth 65536 in
theorem w_hears : about1.hears theMethod below0 = true := by decide +kernel
set_option maxRecDepth 65536 in
theorem w_ripe : about1.ripe theMethod args0 below0 = true := by decide +kernel
theorem w_running : about1.status = .running := rfl
set_option maxRecDepth 65536 in
theorem w_room : about1.hasRoom e0.platform room_1 = true :=
  launch0.hasRoom_least _ room_1 (by decide +kernel) (by decide +kernel) (by decide +kernel) (by decide +kernel) (by decide +kernel) (by decide +kernel)
theorem allAtoms_all (ts : List Jvm.Cond) (a : Array Jvm.Value) (st : Jvm.State) : (allAtoms ts).before a st = ts.all (fun c => c.before a st) := by
  induction ts with
  | nil => rfl
  | cons c t ih =>
    show (Jvm.Cond.and c (allAtoms t)).before a st = _
    rw [Jvm.Cond.before_and, ih, List.all_cons]
def words1 : List Jvm.Cond := Jvm.Cond.code x code maxLocals ret :: tables_1
/-- a 'code' word, met by the world's own term for the bytes: nothing is compared byte by byte -/
theorem code_word {y : MethodName} {bytes : ByteArray} {mx : Nat} {rt : Option FieldType} {a : Array Value} {s : State} {m : MethodId} {meth : Method} {c : Code} (h1 : s.methodNamed? y = some m) (h2 : s.vm.method? m = some meth) (h3 : meth.code = some c) (h4 : c.code = bytes)
    (h5 : (c.maxLocals == mx && c.exceptionTable.isEmpty && decide (c.maxStack ≤ mostOperands) && decide (meth.sig.returnType = rt) && !meth.locks && decide (parseMethodDescriptor y.desc = some meth.sig)) = true) : (Jvm.Cond.code y bytes mx rt).before a s = true := by
  simp only [Bool.and_eq_true, beq_iff_eq, Bool.not_eq_true', decide_eq_true_eq] at h5
  obtain ⟨⟨⟨⟨⟨g1, g2⟩, g3⟩, g4⟩, g5⟩, g6⟩ := h5
  simp [Cond.before, Cond.holds, Cond.value, h1, h2, h3, h4, g1, g2, g3, g4, g5, g6]
def isCode : Jvm.Cond → Bool
  | .code _ _ _ _ => true
  | _ => false
theorem all_split {L : List Jvm.Cond} {P : Jvm.Cond → Bool} (h1 : L.all (fun c => isCode c || P c) = true) (h2 : ∀ c ∈ L.filter isCode, P c = true) : L.all P = true := by
  refine List.all_eq_true.mpr fun c hc => ?_
  have h := List.all_eq_true.mp h1 c hc
  rcases Bool.eq_false_or_eq_true (isCode c) with hi | hi
  · exact h2 c (List.mem_filter.mpr ⟨hc, hi⟩)
  · simpa [hi] using h
set_option maxRecDepth 65536 in
theorem w_c0 : (Jvm.Cond.code x code maxLocals ret).before args0 about1 = true := code_word (m := ⟨1, 2⟩) (meth := k1m2) (c := k1c2) (by decide +kernel) rfl rfl rfl (by decide +kernel)
set_option maxRecDepth 65536 in
theorem w_c1 : (Jvm.Cond.code ({ cls := "com/example/amends/amends/core/Recall", name := "<init>", desc := "()V" } : Jvm.MethodName) prog_77_method_1_code (1 : Nat) (Option.none : Option Jvm.ClassFile.FieldType)).before args0 about1 = true := code_word (m := ⟨2, 0⟩) (meth := k2m0) (c := k2c0) (by decide +kernel) rfl rfl rfl (by decide +kernel)
set_option maxRecDepth 65536 in
theorem w_c2 : (Jvm.Cond.code ({ cls := "java/lang/Object", name := "<init>", desc := "()V" } : Jvm.MethodName) object_method_1_code (1 : Nat) (Option.none : Option Jvm.ClassFile.FieldType)).before args0 about1 = true := code_word (m := ⟨0, 0⟩) (meth := k0m0) (c := k0c0) (by decide +kernel) rfl rfl rfl (by decide +kernel)
set_option maxRecDepth 65536 in
theorem w_c3 : (Jvm.Cond.code ({ cls := "com/example/amends/amends/core/Recall", name := "startFrom", desc := "(I)V" } : Jvm.MethodName) prog_77_method_5_code (2 : Nat) (Option.none : Option Jvm.ClassFile.FieldType)).before args0 about1 = true := code_word (m := ⟨2, 1⟩) (meth := k2m1) (c := k2c1) (by decide +kernel) rfl rfl rfl (by decide +kernel)
set_option maxRecDepth 65536 in
theorem w_c4 : (Jvm.Cond.code ({ cls := "com/example/amends/amends/core/RecallKeepsMovesOfPinLaw", name := "pick", desc := "(IIZ)I" } : Jvm.MethodName) method_2_code (3 : Nat) (Option.some Jvm.ClassFile.FieldType.int)).before args0 about1 = true := code_word (m := ⟨1, 1⟩) (meth := k1m1) (c := k1c1) (by decide +kernel) rfl rfl rfl (by decide +kernel)
set_option maxRecDepth 65536 in
theorem w_c5 : (Jvm.Cond.code ({ cls := "com/example/amends/amends/core/Recall", name := "keepsMovesOf", desc := "(I)Z" } : Jvm.MethodName) prog_77_method_6_code (3 : Nat) (Option.some Jvm.ClassFile.FieldType.boolean)).before args0 about1 = true := code_word (m := ⟨2, 2⟩) (meth := k2m2) (c := k2c2) (by decide +kernel) rfl rfl rfl (by decide +kernel)
def codes1 : List Jvm.Cond := [Jvm.Cond.code x code maxLocals ret, Jvm.Cond.code ({ cls := "com/example/amends/amends/core/Recall", name := "<init>", desc := "()V" } : Jvm.MethodName) prog_77_method_1_code (1 : Nat) (Option.none : Option Jvm.ClassFile.FieldType), Jvm.Cond.code ({ cls := "java/lang/Object", name := "<init>", desc := "()V" } : Jvm.MethodName) object_method_1_code (1 : Nat) (Option.none : Option Jvm.ClassFile.FieldType), Jvm.Cond.code ({ cls := "com/example/amends/amends/core/Recall", name := "startFrom", desc := "(I)V" } : Jvm.MethodName) prog_77_method_5_code (2 : Nat) (Option.none : Option Jvm.ClassFile.FieldType), Jvm.Cond.code ({ cls := "com/example/amends/amends/core/RecallKeepsMovesOfPinLaw", name := "pick", desc := "(IIZ)I" } : Jvm.MethodName) method_2_code (3 : Nat) (Option.some Jvm.ClassFile.FieldType.int), Jvm.Cond.code ({ cls := "com/example/amends/amends/core/Recall", name := "keepsMovesOf", desc := "(I)Z" } : Jvm.MethodName) prog_77_method_6_code (3 : Nat) (Option.some Jvm.ClassFile.FieldType.boolean)]
set_option maxRecDepth 65536 in
theorem codes_eq : words1.filter isCode = codes1 := rfl
theorem w_codes : ∀ c ∈ words1.filter isCode, c.before args0 about1 = true := by
  rw [codes_eq]
  intro c hc
  simp only [codes1, List.mem_cons, List.not_mem_nil, or_false] at hc
  rcases hc with rfl | rfl | rfl | rfl | rfl | rfl
  · exact w_c0
  · exact w_c1
  · exact w_c2
  · exact w_c3
  · exact w_c4
  · exact w_c5
set_option maxRecDepth 65536 in
theorem w_t1 : (words1.take 24).all (fun c => isCode c || c.before args0 about1) = true := by decide +kernel
set_option maxRecDepth 65536 in
theorem w_t2 : (words1.drop 24).all (fun c => isCode c || c.before args0 about1) = true := by decide +kernel
theorem w_tables : (allAtoms (Jvm.Cond.code x code maxLocals ret :: tables_1)).before args0 about1 = true := by
  rw [allAtoms_all]
  show words1.all (fun c => c.before args0 about1) = true
  refine all_split ?_ w_codes
  rw [← List.take_append_drop 24 words1, List.all_append, w_t1, w_t2]
  rfl
set_option maxRecDepth 65536 in
theorem w_case : (Jvm.Cond.and given_1 narrow_1).before args0 about1 = true := by decide +kernel
theorem w_applies : (headSpec (Jvm.Cond.code x code maxLocals ret :: tables_1) room_1).applies x e0.platform about1 = true :=
  (Spec.applies_iff w_frames).mpr ⟨w_running, w_runnable, w_alone, w_named, w_hears, w_ripe, w_room, w_tables⟩
theorem atStart : AtStart classFile x code maxLocals ret World_1 tables_1 room_1 Calls_1 rest_1 Pre_1 launch0 p0 e0 about1 theMethod args0 below0 :=
  ⟨lists_1, trivial, launch0.admits_env _ _ _, launch0.least_env, fairChoices_fair.cas, fairChoices_fair.clock, w_frames, w_args, w_heap, w_applies, trivial, trivial, w_case⟩
end start1
theorem witness_1 : WitnessClaimed_1 := ⟨start1.p0, start1.e0, start1.about1, start1.theMethod, start1.args0, start1.below0, start1.atStart⟩
end Jvm.Pilot.@@N@@
