import PyProof.Rows.All
import Wide.All
import OpenK.AllK
import Wide.FinOn
import OpenK.KOwn
import PyProof.ExcStrCall
import PyProof.ExcStrAll.Exception
import KE.KCallOwn
import KE.KxPercentT
import KE.KBytesCut
import KE.KIntText
import KE.BytesMake
import PyProof.StrCalls6
import PyProof.FString5
import PyProof.StrBlock
import KE.KBytesAny
import PyProof.SliceStr2
import PyProof.StrBlockL
import PyProof.Rows.StrNews2
import KE.KParD
import PyProof.DictItems
import PyProof.Rows.SortWalk
import PyProof.Rows.SeqMore2
import PyProof.Rows.SeqItemCall
import PyProof.RulesDel
import PyProof.Rows.StrCase
import PyProof.Rows.SumAny
import KE.KxMul
import KE.KSliceW
import Lean
import PySem.Challenge.RW_yh0021_01
set_option Elab.async false
set_option maxRecDepth 100000
set_option linter.unusedVariables false
set_option maxHeartbeats 8000000
local macro_rules | `(tactic| wtm_at "OM") => `(tactic| first | exact Nat.le_refl _ | exact Nat.le_add_left _ _ | exact Nat.add_le_add_left (by decide) _ | lia | omega)
namespace Mine
theorem ar1 {n s : Nat} (h : s < n) : n - s + 1 = Nat.succ (n - (s + 1) + 1) := by rw [Nat.sub_add_eq, Nat.sub_add_cancel (Nat.sub_pos_of_lt h)]
theorem ar2 {p q : Nat} (h : p + 1 ≤ q) : 9 + 9 * (q - (p + 1) + 1) ≤ 9 * (q - p + 1) := by
  rw [show q - p + 1 = q - (p + 1) + 1 + 1 from ar1 h, Nat.mul_succ 9 (q - (p + 1) + 1), Nat.add_comm 9]; exact Nat.le_refl _
theorem ar3 {p q : Nat} (h : p + 2 ≤ q) : 9 + 9 * (q - (p + 2) + 1) ≤ 9 * (q - p + 1) :=
  Nat.le_trans (ar2 (p := p + 1) h) (Nat.mul_le_mul_left 9 (Nat.succ_le_succ (Nat.sub_le_sub_left (Nat.le_succ p) q)))
theorem ar4 {q s n : Nat} (h : q ≤ n) : 9 * (q - (s + 1) + 1) ≤ 9 * (n + 1) := Nat.mul_le_mul_left 9 (Nat.succ_le_succ (Nat.le_trans (Nat.sub_le _ _) h))
theorem ar5 {q s n : Nat} (h : q < n) : 2 + 9 * (q - (s + 1) + 1) + 4 ≤ 9 * (n + 4) :=
  Nat.le_trans (Nat.add_le_add_right (Nat.add_le_add_left (ar4 (s := s) (Nat.le_of_lt h)) 2) 4) (by lia)
theorem ar6 {q s n X : Nat} (h : q ≤ n) : 2 + 9 * (q - (s + 1) + 1) + 2 + X ≤ X + 9 * (n + 4) := by
  rw [Nat.add_comm X]
  exact Nat.add_le_add_right (Nat.le_trans (Nat.add_le_add_right (Nat.add_le_add_left (ar4 (s := s) h) 2) 2) (by lia)) X
theorem ar7 {n c : Nat} (h : c < n) : n - 1 - c < n := Nat.lt_of_le_of_lt (Nat.sub_le _ _) (Nat.sub_lt (Nat.zero_lt_of_lt h) Nat.one_pos)
theorem ar8 {n i : Nat} (h : i < n) : n - 1 - (n - 1 - i) = i := Nat.sub_sub_self (Nat.le_sub_one_of_lt h)
theorem ar9 {a : Int} {n c : Nat} : (-a + (n : Int) + a - 1 - (c : Int)).toNat = n - 1 - c := by
  rw [Int.add_comm (-a), Int.neg_add_cancel_right, Int.sub_sub, Nat.sub_sub]; exact Int.toNat_sub n (1 + c)
theorem ar10 {n : Nat} {b : Int} (h0 : 1 ≤ b) : ((n : Int) + b).natAbs = n + b.toNat := by
  have h : 0 ≤ b := Int.le_trans (by decide) h0
  obtain ⟨m, rfl⟩ := Int.eq_ofNat_of_zero_le h; rfl
theorem ar11 {n j : Nat} : (-(n : Int) - (1 + (j : Int))).natAbs = n + (1 + (j : Int)).toNat := by
  show (-(n : Int) + -(1 + (j : Int))).natAbs = _
  rw [← Int.neg_add, Int.natAbs_neg]; rfl
theorem ar12 {n s : Nat} (h : n < s) : s - n = s - (n + 1) + 1 := by rw [Nat.sub_add_eq, Nat.sub_add_cancel (Nat.sub_pos_of_lt h)]
theorem ar13 {m : Nat} (h : m ≠ 0) : m / 16 < m := Nat.div_lt_self (Nat.pos_of_ne_zero h) (by decide)
theorem ar16 {n j : Nat} (h : j < n) : n - (j + 1) < n - j := Nat.sub_succ_lt_self n j h
theorem ar15 {m : Nat} (h : m < 65536) : m / 16 / 16 / 16 / 16 = 0 := by
  rw [Nat.div_div_eq_div_mul, Nat.div_div_eq_div_mul, Nat.div_div_eq_div_mul]; exact Nat.div_eq_of_lt h
end Mine
namespace Mine
open PySem PySem.W PySem.Calls PyProof.Rows PySem.Spec
inductive D where
  | none
  | bool (b : Bool)
  | int (i : Int)
  | str (x : Str)
  | bytes (b : Array UInt8)
  | tup (ds : List D)
  | lst (ds : List D)
  | ref (a : Addr)
  | bi (id : String)
  | ty (n : String)
  | rng (a b : Int)
  | hdr (l : Addr) (es : List (Str × Str))
noncomputable def PTup (h : Heap) (a : Addr) (items : Array Value) : Prop := ∃ n, h.get? a = some { cls := .type "tuple", data := .seq items n }
theorem PTup.isTup {h : Heap} {a : Addr} {items : Array Value} (x : PTup h a items) : IsTup h a items := let ⟨n, e⟩ := x; ⟨_, e, rfl, n, rfl⟩
noncomputable def hdD (p : Str × Str) : D := .tup [.str p.1, .str p.2]
noncomputable def HdrAt (h : Heap) (x dd l : Addr) : Prop := h.get? x = some (instObj 248 dd) ∧ ∃ hs tk n, h.get? dd = some (dictOf [⟨hs, .str "_headers" tk, .ref l⟩] n)
mutual
inductive Rd (M : Addr → Prop) (h : Heap) : Value → D → Prop
  | none : Rd M h Value.none D.none
  | bool (b : Bool) : Rd M h (Value.bool b) (D.bool b)
  | int (i : Int) (t : Tok) : Rd M h (Value.int i t) (D.int i)
  | str (x : Str) (t : Tok) : Rd M h (Value.str x t) (D.str x)
  | bytes (b : Array UInt8) (t : Tok) : Rd M h (Value.bytes b t) (D.bytes b)
  | tup {a : Addr} {vs : List Value} {ds : List D} : ¬ M a → PTup h a vs.toArray → RdL M h vs ds → Rd M h (Value.ref a) (D.tup ds)
  | lst {a : Addr} {vs : List Value} {ds : List D} : ¬ M a → h.PlainList a vs.toArray → RdL M h vs ds → Rd M h (Value.ref a) (D.lst ds)
  | ref (a : Addr) : Rd M h (Value.ref a) (D.ref a)
  | bi (id : String) : Rd M h (Value.builtin id) (D.bi id)
  | ty (n : String) : Rd M h (Value.type n) (D.ty n)
  | rng {x : Addr} {a b : Int} {t u v : Tok} : ¬ M x → IsRange h x a b 1 t u v → Rd M h (Value.ref x) (D.rng a b)
  | hdr {x dd l : Addr} {es : List (Str × Str)} {vs : List Value} : ¬ M x → ¬ M dd → ¬ M l → HdrAt h x dd l → h.PlainList l vs.toArray → RdL M h vs (es.map hdD) → Rd M h (Value.ref x) (D.hdr l es)
inductive RdL (M : Addr → Prop) (h : Heap) : List Value → List D → Prop
  | nil : RdL M h [] []
  | cons {v : Value} {vs : List Value} {d : D} {ds : List D} : Rd M h v d → RdL M h vs ds → RdL M h (v :: vs) (d :: ds)
end
section
variable {M : Addr → Prop} {h : Heap}
theorem Rd.noneE {motive : (v : Value) → Rd M h v .none → Prop} (none : motive .none .none) : ∀ {v : Value} (x : Rd M h v .none), motive v x := by
  intro v x; cases x; exact none
theorem Rd.boolE {b : Bool} {motive : (v : Value) → Rd M h v (.bool b) → Prop} (bool : ∀ (_u : Unit), motive (.bool b) (.bool b)) : ∀ {v : Value} (x : Rd M h v (.bool b)), motive v x := by
  intro v x; cases x; exact bool ()
theorem Rd.intE {i : Int} {motive : (v : Value) → Rd M h v (.int i) → Prop} (int : ∀ (_u : Unit) (t : Tok), motive (.int i t) (.int i t)) : ∀ {v : Value} (x : Rd M h v (.int i)), motive v x := by
  intro v x; cases x with | int _ t => exact int () t
theorem Rd.strE {i : Str} {motive : (v : Value) → Rd M h v (.str i) → Prop} (str : ∀ (_u : Unit) (t : Tok), motive (.str i t) (.str i t)) : ∀ {v : Value} (x : Rd M h v (.str i)), motive v x := by
  intro v x; cases x with | str _ t => exact str () t
theorem Rd.bytesE {b : Array UInt8} {motive : (v : Value) → Rd M h v (.bytes b) → Prop} (bytes : ∀ (_u : Unit) (t : Tok), motive (.bytes b t) (.bytes b t)) : ∀ {v : Value} (x : Rd M h v (.bytes b)), motive v x := by
  intro v x; cases x with | bytes _ t => exact bytes () t
theorem Rd.refE {a : Addr} {motive : (v : Value) → Rd M h v (.ref a) → Prop} (ref : ∀ (_u : Unit), motive (.ref a) (.ref a)) : ∀ {v : Value} (x : Rd M h v (.ref a)), motive v x := by
  intro v x; cases x; exact ref ()
theorem Rd.tyE {a : String} {motive : (v : Value) → Rd M h v (.ty a) → Prop} (ty : ∀ (_u : Unit), motive (.type a) (.ty a)) : ∀ {v : Value} (x : Rd M h v (.ty a)), motive v x := by
  intro v x; cases x; exact ty ()
theorem Rd.tupE {ds : List D} {motive : (v : Value) → Rd M h v (.tup ds) → Prop} (tup : ∀ {a : Addr} {vs : List Value} {_u : Unit} (n : ¬ M a) (ht : PTup h a vs.toArray) (hr : RdL M h vs ds), motive (.ref a) (.tup n ht hr)) : ∀ {v : Value} (x : Rd M h v (.tup ds)), motive v x := by
  intro v x; cases x with | tup n a b => exact tup (_u := ()) n a b
theorem Rd.lstE {ds : List D} {motive : (v : Value) → Rd M h v (.lst ds) → Prop} (lst : ∀ {a : Addr} {vs : List Value} {_u : Unit} (n : ¬ M a) (hl : h.PlainList a vs.toArray) (hr : RdL M h vs ds), motive (.ref a) (.lst n hl hr)) : ∀ {v : Value} (x : Rd M h v (.lst ds)), motive v x := by
  intro v x; cases x with | lst n a b => exact lst (_u := ()) n a b
theorem Rd.rngE {a b : Int} {motive : (v : Value) → Rd M h v (.rng a b) → Prop} (rng : ∀ {x : Addr} {_u _u' : Unit} {t u v : Tok} (n : ¬ M x) (hr : IsRange h x a b 1 t u v), motive (.ref x) (.rng n hr)) : ∀ {v : Value} (x : Rd M h v (.rng a b)), motive v x := by
  intro v x; cases x with | rng n a => exact rng (_u := ()) (_u' := ()) n a
theorem Rd.hdrE {l : Addr} {es : List (Str × Str)} {motive : (v : Value) → Rd M h v (.hdr l es) → Prop} (hdr : ∀ {x dd : Addr} {_u _u' : Unit} {vs : List Value} (n1 : ¬ M x) (n2 : ¬ M dd) (n3 : ¬ M l) (I : HdrAt h x dd l) (hl : h.PlainList l vs.toArray) (hr : RdL M h vs (es.map hdD)), motive (.ref x) (.hdr n1 n2 n3 I hl hr)) : ∀ {v : Value} (x : Rd M h v (.hdr l es)), motive v x := by
  intro v x; cases x with | hdr n1 n2 n3 I hl hr => exact hdr (_u := ()) (_u' := ()) n1 n2 n3 I hl hr
theorem Rd.boolE0 {b : Bool} {motive : (v : Value) → Rd M h v (.bool b) → Prop} (bool : motive (.bool b) (.bool b)) : ∀ {v : Value} (x : Rd M h v (.bool b)), motive v x := Rd.boolE fun _ => bool
theorem Rd.intE0 {i : Int} {motive : (v : Value) → Rd M h v (.int i) → Prop} (int : ∀ (t : Tok), motive (.int i t) (.int i t)) : ∀ {v : Value} (x : Rd M h v (.int i)), motive v x := Rd.intE fun _ => int
theorem Rd.strE0 {i : Str} {motive : (v : Value) → Rd M h v (.str i) → Prop} (str : ∀ (t : Tok), motive (.str i t) (.str i t)) : ∀ {v : Value} (x : Rd M h v (.str i)), motive v x := Rd.strE fun _ => str
theorem Rd.bytesE0 {b : Array UInt8} {motive : (v : Value) → Rd M h v (.bytes b) → Prop} (bytes : ∀ (t : Tok), motive (.bytes b t) (.bytes b t)) : ∀ {v : Value} (x : Rd M h v (.bytes b)), motive v x := Rd.bytesE fun _ => bytes
theorem Rd.refE0 {a : Addr} {motive : (v : Value) → Rd M h v (.ref a) → Prop} (ref : motive (.ref a) (.ref a)) : ∀ {v : Value} (x : Rd M h v (.ref a)), motive v x := Rd.refE fun _ => ref
theorem Rd.tyE0 {a : String} {motive : (v : Value) → Rd M h v (.ty a) → Prop} (ty : motive (.type a) (.ty a)) : ∀ {v : Value} (x : Rd M h v (.ty a)), motive v x := Rd.tyE fun _ => ty
theorem RdL.nilE {motive : (vs : List Value) → RdL M h vs [] → Prop} (nil : motive [] .nil) : ∀ {vs : List Value} (x : RdL M h vs []), motive vs x := by
  intro v x; cases x; exact nil
theorem RdL.consE {d : D} {ds : List D} {motive : (vs : List Value) → RdL M h vs (d :: ds) → Prop} (cons : ∀ {v : Value} {vs : List Value} {_u _u' : Unit} (a : Rd M h v d) (r : RdL M h vs ds), motive (v :: vs) (.cons a r)) : ∀ {vs : List Value} (x : RdL M h vs (d :: ds)), motive vs x := by
  intro v x; cases x with | cons a r => exact cons (_u := ()) (_u' := ()) a r
theorem rdl1 {vs : List Value} {a : D} (r : RdL M h vs [a]) : ∃ v, vs = [v] ∧ Rd M h v a := by
  cases r with | cons x r => cases r; exact ⟨_, rfl, x⟩
theorem rdl2 {vs : List Value} {a b : D} (r : RdL M h vs [a, b]) : ∃ u v, vs = [u, v] ∧ Rd M h u a ∧ Rd M h v b := by
  cases r with | cons x r => obtain ⟨v, rfl, y⟩ := rdl1 r; exact ⟨_, _, rfl, x, y⟩
theorem rdl3 {vs : List Value} {a b c : D} (r : RdL M h vs [a, b, c]) : ∃ t u v, vs = [t, u, v] ∧ Rd M h t a ∧ Rd M h u b ∧ Rd M h v c := by
  cases r with | cons x r => obtain ⟨u, v, rfl, y, z⟩ := rdl2 r; exact ⟨_, _, _, rfl, x, y, z⟩
theorem rdl0 {vs : List Value} (r : RdL M h vs []) : vs = [] := by cases r; rfl
end
noncomputable def Keep (h h' : Heap) : Prop := ∀ b o, h.get? b = some o → h'.get? b = some o
noncomputable def Ext (M : Addr → Prop) (h h' : Heap) : Prop := ∀ b o, ¬ M b → h.get? b = some o → h'.get? b = some o
theorem Keep.refl (h : Heap) : Keep h h := fun _ _ e => e
theorem Keep.trans {a b c : Heap} (x : Keep a b) (y : Keep b c) : Keep a c := fun _ _ e => y _ _ (x _ _ e)
theorem Keep.ext {M : Addr → Prop} {h h' : Heap} (x : Keep h h') : Ext M h h' := fun b o _ e => x b o e
theorem Ext.refl {M : Addr → Prop} (h : Heap) : Ext M h h := fun _ _ _ e => e
theorem Ext.trans {M : Addr → Prop} {a b c : Heap} (x : Ext M a b) (y : Ext M b c) : Ext M a c := fun _ _ n e => y _ _ n (x _ _ n e)
theorem Ext.mono {M N : Addr → Prop} {a b : Heap} (x : Ext M a b) (i : ∀ c, M c → N c) : Ext N a b := fun c o n e => x c o (fun m => n (i c m)) e
theorem Ext.sameBut {a : Addr} {M : Addr → Prop} {h h' : Heap} (hs : Heap.SameBut a h h') (m : M a) : Ext M h h' := fun b o n e => hs.extBut b o (fun q => n (q ▸ m)) e
theorem PTup.at {h h' : Heap} {a : Addr} {vs : Array Value} (x : PTup h a vs) (k : ∀ o, h.get? a = some o → h'.get? a = some o) : PTup h' a vs :=
  let ⟨n, e⟩ := x; ⟨n, k _ e⟩
noncomputable def Solid (o : Obj) : Prop := (∃ xs q, o.data = .seq xs q) ∨ o.cls = .type "range" ∨ o.data = .plain ∨ ∃ es n, o.data = .dict es n
noncomputable def Ovr (M N : Addr → Prop) (h h' : Heap) : Prop := ∀ a o, ¬ M a → Solid o → h.get? a = some o → h'.get? a = some o ∧ ¬ N a
theorem Rd.gen {M N : Addr → Prop} {h h' : Heap} (k : Ovr M N h h') {v : Value} {d : D} (r : Rd M h v d) : Rd N h' v d :=
  Rd.rec (motive_1 := fun v d _ => Rd N h' v d) (motive_2 := fun vs ds _ => RdL N h' vs ds) .none (fun b => .bool b) (fun i t => .int i t) (fun x t => .str x t) (fun b t => .bytes b t)
    (fun m x _ r => let ⟨n, e⟩ := x; have q := k _ _ m (.inl ⟨_, _, rfl⟩) e; .tup q.2 ⟨n, q.1⟩ r) (fun m x _ r => let ⟨n, e⟩ := x; have q := k _ _ m (.inl ⟨_, _, rfl⟩) e; .lst q.2 ⟨n, q.1⟩ r)
    (fun a => .ref a) (fun i => .bi i) (fun i => .ty i) (fun m x => have q := k _ _ m (.inr (.inl rfl)) x; .rng q.2 q.1)
    (fun m1 m2 m3 I x _ r => let ⟨a, hs, tk, n, b⟩ := I; let ⟨n3, c⟩ := x; have q1 := k _ _ m1 (.inr (.inr (.inl rfl))) a; have q2 := k _ _ m2 (.inr (.inr (.inr ⟨_, _, rfl⟩))) b; have q3 := k _ _ m3 (.inl ⟨_, _, rfl⟩) c
      .hdr q1.2 q2.2 q3.2 ⟨q1.1, hs, tk, n, q2.1⟩ ⟨n3, q3.1⟩ r) .nil (fun _ _ x r => .cons x r) r
theorem RdL.gen {M N : Addr → Prop} {h h' : Heap} (k : Ovr M N h h') : ∀ {vs : List Value} {ds : List D}, RdL M h vs ds → RdL N h' vs ds
  | _, _, .nil => .nil
  | _, _, .cons x r => .cons (Rd.gen k x) (RdL.gen k r)
theorem Rd.ext {M : Addr → Prop} {h h' : Heap} (k : Ext M h h') {v : Value} {d : D} : Rd M h v d → Rd M h' v d := Rd.gen fun a o n _ e => ⟨k a o n e, n⟩
theorem RdL.ext {M : Addr → Prop} {h h' : Heap} (k : Ext M h h') {vs : List Value} {ds : List D} : RdL M h vs ds → RdL M h' vs ds := RdL.gen fun a o n _ e => ⟨k a o n e, n⟩
theorem Rd.keep {M : Addr → Prop} {h h' : Heap} {v : Value} {d : D} (x : Rd M h v d) (k : Keep h h') : Rd M h' v d := x.ext k.ext
theorem RdL.keep {M : Addr → Prop} {h h' : Heap} {v : List Value} {d : List D} (x : RdL M h v d) (k : Keep h h') : RdL M h' v d := x.ext k.ext
theorem Rd.swap {M N : Addr → Prop} {h : Heap} (k : ∀ a, (h.get? a).isSome = true → ¬ M a → ¬ N a) {v : Value} {d : D} : Rd M h v d → Rd N h v d := Rd.gen fun a o n _ e => ⟨e, k a (by rw [e]; rfl) n⟩
theorem RdL.swap {M N : Addr → Prop} {h : Heap} (k : ∀ a, (h.get? a).isSome = true → ¬ M a → ¬ N a) {vs : List Value} {ds : List D} : RdL M h vs ds → RdL N h vs ds := RdL.gen fun a o n _ e => ⟨e, k a (by rw [e]; rfl) n⟩
theorem RdL.length {M : Addr → Prop} {h : Heap} : ∀ {vs : List Value} {ds : List D}, RdL M h vs ds → vs.length = ds.length
  | _, _, .nil => rfl
  | _, _, .cons _ r => congrArg Nat.succ (RdL.length r)
theorem RdL.append {M : Addr → Prop} {h : Heap} : ∀ {vs ws : List Value} {ds es : List D}, RdL M h vs ds → RdL M h ws es → RdL M h (vs ++ ws) (ds ++ es)
  | _, _, _, _, .nil, y => y
  | _, _, _, _, .cons x r, y => .cons x (RdL.append r y)
theorem RdL.get {M : Addr → Prop} {h : Heap} : ∀ {vs : List Value} {ds : List D} {i : Nat} {d : D}, RdL M h vs ds → ds[i]? = some d → ∃ v, vs[i]? = some v ∧ Rd M h v d
  | _, _, 0, _, .cons x _, e => ⟨_, rfl, by cases e; exact x⟩
  | _, _, i + 1, _, .cons _ r, e => RdL.get (i := i) r e
theorem RdL.drop {M : Addr → Prop} {h : Heap} : ∀ {vs : List Value} {ds : List D} (n : Nat), RdL M h vs ds → RdL M h (vs.drop n) (ds.drop n)
  | _, _, 0, x => x
  | _, _, _ + 1, .nil => .nil
  | _, _, n + 1, .cons _ r => RdL.drop n r
theorem RdL.take {M : Addr → Prop} {h : Heap} : ∀ {vs : List Value} {ds : List D} (n : Nat), RdL M h vs ds → RdL M h (vs.take n) (ds.take n)
  | _, _, 0, _ => .nil
  | _, _, _ + 1, .nil => .nil
  | _, _, n + 1, .cons x r => .cons x (RdL.take n r)
noncomputable def NoE : Value → Shared → Prop := fun _ _ => False
structure Room (k : Nat) (A : Around) : Prop where
  handled : A.handled = none
  depth : A.depth + 4 * k + 4 ≤ 1000
  units : A.units + 100 * k + 200 ≤ 9900
theorem Room.mono {j k : Nat} {A : Around} (r : Room k A) (h : j ≤ k) : Room j A := ⟨r.handled, by have := r.depth; lia, by have := r.units; lia⟩
theorem Room.lim {k : Nat} {A : Around} (r : Room k A) : A.depth < recursionLimit := by have := r.depth; show A.depth < 1000; lia
theorem Room.deeper {k : Nat} {A : Around} (r : Room (k + 1) A) (env : Env) : Room k (A.deeper env) :=
  ⟨r.handled, by have := r.depth; show A.depth + 1 + _ + _ ≤ _; lia, by have := r.units; show A.units + 3 + _ + _ ≤ _; lia⟩
structure Kp (s s' : Shared) : Prop where
  same : ∃ h t, s' = { s with heap := h, toks := t }
  heap : Keep s.heap s'.heap
theorem Kp.refl (s : Shared) : Kp s s := ⟨⟨s.heap, s.toks, rfl⟩, fun _ _ e => e⟩
theorem Kp.trans {a b c : Shared} (x : Kp a b) (y : Kp b c) : Kp a c := by
  obtain ⟨⟨h, t, rfl⟩, k⟩ := x
  obtain ⟨⟨h', t', rfl⟩, k'⟩ := y
  exact ⟨⟨h', t', rfl⟩, k.trans k'⟩
theorem Kp.tok (s : Shared) (t : Nat) : Kp s { s with toks := t } := ⟨⟨s.heap, t, rfl⟩, fun _ _ e => e⟩
theorem Kp.both (s : Shared) (h : Heap) (t : Nat) (k : Keep s.heap h) : Kp s { s with heap := h, toks := t } := ⟨⟨h, t, rfl⟩, k⟩
theorem Kp.hp (s : Shared) (h : Heap) (k : Keep s.heap h) : Kp s { s with heap := h } := ⟨⟨h, s.toks, rfl⟩, k⟩
section
variable {prog : Program} {w : World} {K : Frag}
structure Sc (K : Frag) (M : Addr → Prop) (h : Heap) : Prop where
  inn : K.In h
  bns : ∃ mb, h.Ns builtinsNs mb ∧ ∀ x : Str, x ≠ "__name__" → mb x = bootBuiltins x
  lim : h.NoLimit
  dig : ∃ mc, h.Ns cStatics mc ∧ mc "sys.int_max_str_digits" = none
  alive : ∀ a, M a → (h.get? a).isSome = true
  offK : ∀ a, M a → K.lookup a = none
  offB : ¬ M builtinsNs
  offS : ¬ M cStatics
theorem ns_ext {M : Addr → Prop} {h h' : Heap} {a : Addr} {m : Str → Option Value} (x : h.Ns a m) (k : Ext M h h') (n : ¬ M a) : h'.Ns a m :=
  let ⟨o, es, ep, e, r⟩ := x; ⟨o, es, ep, k _ _ n e, r⟩
theorem Sc.ext {M : Addr → Prop} {h h' : Heap} (S : Sc K M h) (k : Ext M h h') (al : ∀ a, M a → (h'.get? a).isSome = true) : Sc K M h' where
  inn a o e := k _ _ (fun m => by rw [S.offK a m] at e; cases e) (S.inn a o e)
  bns := let ⟨mb, x, y⟩ := S.bns; ⟨mb, ns_ext x k S.offB, y⟩
  lim := let ⟨mc, x, y⟩ := S.lim; ⟨mc, ns_ext x k S.offS, y⟩
  dig := let ⟨mc, x, y⟩ := S.dig; ⟨mc, ns_ext x k S.offS, y⟩
  alive := al
  offK := S.offK
  offB := S.offB
  offS := S.offS
theorem Sc.keep {M : Addr → Prop} {h h' : Heap} (S : Sc K M h) (k : Keep h h') : Sc K M h' :=
  S.ext k.ext fun a m => by
    have := S.alive a m
    cases e : h.get? a with
    | none => rw [e] at this; cases this
    | some o => rw [k _ _ e]; rfl
theorem Sc.dead {M : Addr → Prop} {h : Heap} (S : Sc K M h) {a : Addr} (e : h.get? a = none) : ¬ M a := fun m => by
  have := S.alive a m
  rw [e] at this; cases this
theorem get_size (h : Heap) : h.get? h.objs.size = none := by
  cases e : h.get? h.objs.size with
  | none => rfl
  | some o => exact absurd (Heap.lt_size e) (Nat.lt_irrefl _)
theorem Sc.size {M : Addr → Prop} {h : Heap} (S : Sc K M h) : ¬ M h.objs.size := S.dead (get_size h)
theorem Sc.sub {M N : Addr → Prop} {h : Heap} (S : Sc K M h) (i : ∀ a, N a → M a) : Sc K N h :=
  ⟨S.inn, S.bns, S.lim, S.dig, fun a m => S.alive a (i a m), fun a m => S.offK a (i a m), fun m => S.offB (i _ m), fun m => S.offS (i _ m)⟩
structure PE (prog : Program) (w : World) (M : Addr → Prop) (h : Heap) (k : Nat) (t : Sem Value) (d : D) : Prop where
  of ::
  go : ∀ A s, Room k A → Keep h s.heap → wpAny (model prog w) A t (fun v s' => Kp s s' ∧ Rd M s'.heap v d) NoE s
structure PB (prog : Program) (w : World) (h : Heap) (k : Nat) (t : Sem Bool) (b : Bool) : Prop where
  of ::
  go : ∀ A s, Room k A → Keep h s.heap → wpAny (model prog w) A t (fun v s' => Kp s s' ∧ v = b) NoE s
structure PL (prog : Program) (w : World) (M : Addr → Prop) (h : Heap) (k : Nat) (t : Sem (List Value)) (ds : List D) : Prop where
  of ::
  go : ∀ A s, Room k A → Keep h s.heap → wpAny (model prog w) A t (fun v s' => Kp s s' ∧ RdL M s'.heap v ds) NoE s
noncomputable def Vars (prog : Program) (w : World) (M : Addr → Prop) (h : Heap) (env : Env) (vm : List (Str × D)) : Prop :=
  ∀ x d, vm.lookup x = some d → ∃ v, Looks (model prog w) h (loadName env x) v ∧ Rd M h v d
structure EnvOk (env : Env) : Prop where
  kind : env.scope.kind = .function
  globals : env.globals = mainGlobals
  builtins : env.builtins = builtinsNs
theorem PE.use {M : Addr → Prop} {h : Heap} {k : Nat} {t : Sem Value} {d : D} {A : Around} {s : Shared} {Q : Value → Shared → Prop} {E : Value → Shared → Prop}
    (p : PE prog w M h k t d) (r : Room k A) (kp : Keep h s.heap) (hq : ∀ v s', Kp s s' → Rd M s'.heap v d → Q v s') : wpAny (model prog w) A t Q E s :=
  wpAny_mono (p.go A s r kp) (fun v s' q => hq v s' q.1 q.2) fun _ _ f => f.elim
theorem PB.use {h : Heap} {k : Nat} {t : Sem Bool} {b : Bool} {A : Around} {s : Shared} {Q : Bool → Shared → Prop} {E : Value → Shared → Prop}
    (p : PB prog w h k t b) (r : Room k A) (kp : Keep h s.heap) (hq : ∀ s', Kp s s' → Q b s') : wpAny (model prog w) A t Q E s :=
  wpAny_mono (p.go A s r kp) (fun v s' q => by obtain ⟨a, rfl⟩ := q; exact hq s' a) fun _ _ f => f.elim
theorem PL.use {M : Addr → Prop} {h : Heap} {k : Nat} {t : Sem (List Value)} {d : List D} {A : Around} {s : Shared} {Q : List Value → Shared → Prop} {E : Value → Shared → Prop}
    (p : PL prog w M h k t d) (r : Room k A) (kp : Keep h s.heap) (hq : ∀ v s', Kp s s' → RdL M s'.heap v d → Q v s') : wpAny (model prog w) A t Q E s :=
  wpAny_mono (p.go A s r kp) (fun v s' q => hq v s' q.1 q.2) fun _ _ f => f.elim
variable {M : Addr → Prop} {h : Heap} {k : Nat} {env : Env} {vm : List (Str × D)}
theorem PE.name {x : Str} {p : Pos} {d : D} (V : Vars prog w M h env vm) (e : vm.lookup x = some d) (hd : (x == ("__debug__" : Str)) = false) : PE prog w M h k (eval (.Name x p) env) d := by
  refine .of ?_
  intro A s r kp
  obtain ⟨v, l, q⟩ := V x d e
  exact wpAny_Name (l A _ _ s kp ⟨Kp.refl s, q.keep kp⟩) hd
theorem PE.none' {n p} : PE prog w M h k (eval (.Constant .none n p) env) .none := .of fun _ s _ _ => wpAny_pure ⟨Kp.refl s, .none⟩
theorem PE.true' {b n p} : PE prog w M h k (eval (.Constant (.bool b) n p) env) (.bool b) := .of fun _ s _ _ => wpAny_pure ⟨Kp.refl s, .bool b⟩
theorem PE.lit_int {i n p} : PE prog w M h k (eval (.Constant (.int i) n p) env) (.int i) := .of fun _ s _ _ => wpAny_mkInt ⟨Kp.tok s _, .int i _⟩
theorem PE.lit_str {x n p} : PE prog w M h k (eval (.Constant (.str x) n p) env) (.str x) := .of fun _ s _ _ => wpAny_mkText ⟨Kp.tok s _, .str x _⟩
theorem PE.lit_bytes {x : List UInt8} {n p} : PE prog w M h k (eval (.Constant (.bytes x) n p) env) (.bytes x.toArray) := .of fun _ s _ _ => by
  show wpAny _ _ (mkTextBytes x.toArray) _ _ s
  exact fun _ _ _ => ⟨Kp.tok s _, .bytes _ _⟩
theorem PE.binop {l r : Expr} {op : Operator} {p : Pos} {a b d : D} (ha : PE prog w M h k (eval l env) a) (hb : PE prog w M h k (eval r env) b)
    (ho : ∀ A s u v, Room k A → Keep h s.heap → Rd M s.heap u a → Rd M s.heap v b → wpAny (model prog w) A (binaryOp op u v) (fun v s' => Kp s s' ∧ Rd M s'.heap v d) NoE s) :
    PE prog w M h k (eval (.BinOp l op r p) env) d := by
  refine .of ?_
  intro A s rm kp
  refine wpAny_BinOp (ha.use rm kp fun u s1 k1 r1 => hb.use rm (kp.trans k1.heap) fun v s2 k2 r2 => ?_)
  exact wpAny_mono (ho A s2 u v rm ((kp.trans k1.heap).trans k2.heap) (r1.keep k2.heap) r2) (fun v s' q => ⟨(k1.trans k2).trans q.1, q.2⟩) fun _ _ f => f
theorem PE.cmp {l r : Expr} {op : CmpOp} {p : Pos} {a b d : D} (ha : PE prog w M h k (eval l env) a) (hb : PE prog w M h k (eval r env) b)
    (ho : ∀ A s u v, Room k A → Keep h s.heap → Rd M s.heap u a → Rd M s.heap v b → wpAny (model prog w) A (compareOp op u v) (fun v s' => Kp s s' ∧ Rd M s'.heap v d) NoE s)
    (hm : behindInMarks op r = false) :
    PE prog w M h k (eval (.Compare l [op] [r] p) env) d := by
  refine .of ?_
  intro A s rm kp
  refine wpAny_Compare1 (ha.use rm kp fun u s1 k1 r1 => hb.use rm (kp.trans k1.heap) fun v s2 k2 r2 => ?_) hm
  exact wpAny_mono (ho A s2 u v rm ((kp.trans k1.heap).trans k2.heap) (r1.keep k2.heap) r2) (fun v s' q => ⟨(k1.trans k2).trans q.1, q.2⟩) fun _ _ f => f
end
end Mine
namespace Mine
open PySem PySem.W PySem.Calls PyProof.Rows PySem.Spec
section
variable {prog : Program} {w : World} {K : Frag} {M : Addr → Prop} {h : Heap} {k : Nat} {env : Env} {vm : List (Str × D)}
noncomputable abbrev Gv (prog : Program) (w : World) (M : Addr → Prop) (A : Around) (t : Sem Value) (d : D) (s : Shared) : Prop :=
  wpAny (model prog w) A t (fun v s' => Kp s s' ∧ Rd M s'.heap v d) NoE s
theorem any_release {M : Model} {A : Around} {E : Value → Shared → Prop} {s : Shared} {vs ks : List Value} {Q : Unit → Shared → Prop} (q : Q () s) : wpAny M A (release vs ks) Q E s := fun Γ p _ => by rw [Sem.wp_release]; exact q
theorem any_operate {M : Model} {A : Around} {E : Value → Shared → Prop} {s : Shared} {vs : List Value} {t : Sem Value} {Q : Value → Shared → Prop} (q : wpAny M A t Q E s) : wpAny M A (operate vs t) Q E s := fun Γ p hΓ => by rw [Sem.wp_operate]; exact q Γ p hΓ
structure Op1 (prog : Program) (w : World) (M : Addr → Prop) (h : Heap) (k : Nat) (f : Value → Sem Value) (a d : D) : Prop where
  of ::
  go : ∀ A s u, Room k A → Keep h s.heap → Rd M s.heap u a → Gv prog w M A (f u) d s
structure Op2 (prog : Program) (w : World) (M : Addr → Prop) (h : Heap) (k : Nat) (f : Value → Value → Sem Value) (a b d : D) : Prop where
  of ::
  go : ∀ A s u v, Room k A → Keep h s.heap → Rd M s.heap u a → Rd M s.heap v b → Gv prog w M A (f u v) d s
theorem Gv.step {A : Around} {t : Sem Value} {d : D} {s s₀ : Shared} (k : Kp s₀ s) (g : Gv prog w M A t d s) :
    wpAny (model prog w) A t (fun v s' => Kp s₀ s' ∧ Rd M s'.heap v d) NoE s := wpAny_mono g (fun _ _ q => ⟨k.trans q.1, q.2⟩) fun _ _ f => f
theorem PE.op2 {l r : Expr} {op : Operator} {p : Pos} {a b d : D} (ha : PE prog w M h k (eval l env) a) (hb : PE prog w M h k (eval r env) b)
    (ho : Op2 prog w M h k (binaryOp op) a b d) : PE prog w M h k (eval (.BinOp l op r p) env) d := PE.binop ha hb ho.go
theorem PE.cmp2 {l r : Expr} {op : CmpOp} {p : Pos} {a b d : D} (ha : PE prog w M h k (eval l env) a) (hb : PE prog w M h k (eval r env) b)
    (ho : Op2 prog w M h k (compareOp op) a b d) (hm : behindInMarks op r = false := by rfl) : PE prog w M h k (eval (.Compare l [op] [r] p) env) d := PE.cmp ha hb ho.go hm
theorem PE.unop {x : Expr} {op : UnaryOp} {p : Pos} {a d : D} (ha : PE prog w M h k (eval x env) a) (ho : Op1 prog w M h k (unaryOp op) a d) :
    PE prog w M h k (eval (.UnaryOp op x p) env) d := by
  refine .of ?_
  intro A s rm kp
  rw [arm_eval_UnaryOp]
  refine wpAny_bind (ha.use rm kp fun u s1 k1 r1 => wpAny_bind (wpAny_standAt (wpAny_holding ?_)))
  exact Gv.step k1 (ho.go A s1 u rm (kp.trans k1.heap) r1)
theorem PE.ite {t b o : Expr} {p : Pos} {c : Bool} {d : D} (ht : PB prog w h k (isTrue t env (eval t env)) c)
    (hb : c = true → PE prog w M h k (eval b env) d) (ho : c = false → PE prog w M h k (eval o env) d) : PE prog w M h k (eval (.IfExp t b o p) env) d := by
  refine .of ?_
  intro A s rm kp
  rw [arm_eval_IfExp]
  refine wpAny_bind (ht.use rm kp fun s1 k1 => ?_)
  cases c with
  | true => exact Gv.step k1 ((hb rfl).go A s1 rm (kp.trans k1.heap))
  | false => exact Gv.step k1 ((ho rfl).go A s1 rm (kp.trans k1.heap))
theorem PB.cmp {l r : Expr} {op : CmpOp} {p : Pos} {a b : D} {c : Bool} {wh : Sem Value} (ha : PE prog w M h k (eval l env) a) (hb : PE prog w M h k (eval r env) b)
    (ho : Op2 prog w M h k (compareOp op) a b (.bool c)) (hm : behindInMarks op r = false := by rfl) : PB prog w h k (isTrue (.Compare l [op] [r] p) env wh) c := by
  refine .of ?_
  intro A s rm kp
  refine wpAny_isTrue_Compare1 (ha.use rm kp fun u s1 k1 r1 => hb.use rm (kp.trans k1.heap) fun v s2 k2 r2 => ?_) hm
  refine wpAny_mono (ho.go A s2 u v rm ((kp.trans k1.heap).trans k2.heap) (r1.keep k2.heap) r2) (fun x s3 q => ?_) fun _ _ f => f
  obtain ⟨k3, r3⟩ := q
  cases r3 using Rd.boolE0
  exact wpAny_truthy_bool ⟨(k1.trans k2).trans k3, rfl⟩
theorem PB.and2 {x y : Expr} {p : Pos} {wh : Sem Value} {c d : Bool} (hx : PB prog w h k (isTrue x env (eval x env)) c) (hy : c = true → PB prog w h k (isTrue y env (eval y env)) d) :
    PB prog w h k (isTrue (.BoolOp .And [x, y] p) env wh) (c && d) := by
  refine .of ?_
  intro A s rm kp
  refine isTrue_and (hx.use rm kp fun s1 k1 => ?_)
  cases c with
  | false => exact ⟨k1, rfl⟩
  | true =>
    refine isTrue_and ((hy rfl).use rm (kp.trans k1.heap) fun s2 k2 => ?_)
    cases d with
    | false => exact ⟨k1.trans k2, rfl⟩
    | true => exact isTrue_and_nil ⟨k1.trans k2, rfl⟩
theorem PB.or2 {x y : Expr} {p : Pos} {wh : Sem Value} {c d : Bool} (hx : PB prog w h k (isTrue x env (eval x env)) c) (hy : c = false → PB prog w h k (isTrue y env (eval y env)) d) :
    PB prog w h k (isTrue (.BoolOp .Or [x, y] p) env wh) (c || d) := by
  refine .of ?_
  intro A s rm kp
  rw [arm_isTrue_BoolOp, arm_allTrue_cons]
  refine wpAny_bind (hx.use rm kp fun s1 k1 => ?_)
  cases c with
  | true => exact wpAny_pure ⟨k1, rfl⟩
  | false =>
    show wpAny _ _ (allTrue .Or [y] env) _ _ _
    rw [arm_allTrue_cons]
    refine wpAny_bind ((hy rfl).use rm (kp.trans k1.heap) fun s2 k2 => ?_)
    cases d with
    | true => exact wpAny_pure ⟨k1.trans k2, rfl⟩
    | false => exact wpAny_pure ⟨k1.trans k2, rfl⟩
structure OpT (prog : Program) (w : World) (M : Addr → Prop) (h : Heap) (k : Nat) (a : D) (c : Bool) : Prop where
  of ::
  go : ∀ A s u, Room k A → Keep h s.heap → Rd M s.heap u a → wpAny (model prog w) A (truthy u) (fun b s' => Kp s s' ∧ b = c) NoE s
theorem PB.val {e : Expr} {a : D} {c : Bool} (he : PE prog w M h k (eval e env) a) (ht : OpT prog w M h k a c)
    (hd : isTrue e env (eval e env) = (do let v ← eval e env; standAt e.pos; holding [v] (truthy v)) := by rfl) : PB prog w h k (isTrue e env (eval e env)) c := by
  refine .of ?_
  intro A s rm kp
  refine isTrue_plain (he.use rm kp fun v s1 k1 r1 => ?_) hd
  exact wpAny_mono (ht.go A s1 v rm (kp.trans k1.heap) r1) (fun _ _ q => ⟨k1.trans q.1, q.2⟩) fun _ _ f => f
theorem OpT.bool {c : Bool} : OpT prog w M h k (.bool c) c := .of fun A s u _ _ r => by cases r using Rd.boolE0; exact wpAny_truthy_bool ⟨Kp.refl _, rfl⟩
theorem OpT.int {i : Int} : OpT prog w M h k (.int i) (i != 0) := .of fun A s u _ _ r => by cases r using Rd.intE0; exact P.truthy_int ⟨Kp.refl _, rfl⟩
theorem OpT.none : OpT prog w M h k .none false := .of fun A s u _ _ r => by cases r using Rd.noneE; exact truthy_none ⟨Kp.refl _, rfl⟩
structure PCh (prog : Program) (w : World) (M : Addr → Prop) (h : Heap) (k : Nat) (env : Env) (a : D) (ops : List CmpOp) (rs : List Expr) (c : Bool) : Prop where
  of ::
  go : ∀ A s u p, Room k A → Keep h s.heap → Rd M s.heap u a → wpAny (model prog w) A (testChain p u ops (evalEach rs env)) (fun b s' => Kp s s' ∧ b = c) NoE s
theorem PCh.one {r : Expr} {op : CmpOp} {a b : D} {c : Bool} (hb : PE prog w M h k (eval r env) b) (ho : Op2 prog w M h k (compareOp op) a b (.bool c)) : PCh prog w M h k env a [op] [r] c := by
  refine .of ?_
  intro A s u p rm kp ru
  show wpAny _ _ (testChain p u [op] [eval r env]) _ _ _
  unfold testChain
  refine wpAny_bind (wpAny_holding (hb.use rm kp fun v s1 k1 r1 => wpAny_bind (wpAny_standAt (wpAny_bind ?_))))
  refine any_operate (wpAny_mono (ho.go A s1 u v rm (kp.trans k1.heap) (ru.keep k1.heap) r1) (fun x s2 z => ?_) fun _ _ f => f)
  obtain ⟨k2, r2⟩ := z
  cases r2 using Rd.boolE0
  exact wpAny_holding (wpAny_truthy_bool ⟨k1.trans k2, rfl⟩)
theorem PCh.cons {r r' : Expr} {rs : List Expr} {op op' : CmpOp} {ops : List CmpOp} {a b : D} {c d : Bool} (hb : PE prog w M h k (eval r env) b) (ho : Op2 prog w M h k (compareOp op) a b (.bool c))
    (hr : PCh prog w M h k env b (op' :: ops) (r' :: rs) d) : PCh prog w M h k env a (op :: op' :: ops) (r :: r' :: rs) (c && d) := by
  refine .of ?_
  intro A s u p rm kp ru
  show wpAny _ _ (testChain p u (op :: op' :: ops) (eval r env :: evalEach (r' :: rs) env)) _ _ _
  unfold testChain
  refine wpAny_bind (wpAny_holding (hb.use rm kp fun v s1 k1 r1 => wpAny_bind (wpAny_standAt (wpAny_bind (wpAny_holding ?_)))))
  refine wpAny_mono (ho.go A s1 u v rm (kp.trans k1.heap) (ru.keep k1.heap) r1) (fun x s2 z => ?_) fun _ _ f => f
  obtain ⟨k2, r2⟩ := z
  cases r2 using Rd.boolE0
  refine wpAny_bind (any_release (wpAny_bind (wpAny_holding (wpAny_truthy_bool ?_))))
  cases c with
  | false => exact wpAny_pure ⟨k1.trans k2, rfl⟩
  | true =>
    refine wpAny_mono (hr.go A s2 v p rm ((kp.trans k1.heap).trans k2.heap) (r1.keep k2.heap)) (fun _ _ z => ⟨(k1.trans k2).trans z.1, by rw [z.2, Bool.true_and]⟩) fun _ _ f => f
theorem PB.chain {l : Expr} {ops : List CmpOp} {rs : List Expr} {p : Pos} {a : D} {c : Bool} {wh : Sem Value} (ha : PE prog w M h k (eval l env) a) (hr : PCh prog w M h k env a ops rs c)
    (hm : markedEach ops rs (evalEach rs env) = evalEach rs env) : PB prog w h k (isTrue (.Compare l ops rs p) env wh) c := by
  refine .of ?_
  intro A s rm kp
  rw [arm_isTrue_Compare, hm]
  refine wpAny_bind (ha.use rm kp fun u s1 k1 r1 => ?_)
  exact wpAny_mono (hr.go A s1 u p rm (kp.trans k1.heap) r1) (fun _ _ z => ⟨k1.trans z.1, z.2⟩) fun _ _ f => f
structure PLs (prog : Program) (w : World) (M : Addr → Prop) (h : Heap) (k : Nat) (env : Env) (es : List Expr) (ds : List D) : Prop where
  of ::
  go : ∀ p, PL prog w M h k (spliced (backTo p (starEach es env))) ds
theorem PLs.nil : PLs prog w M h k env [] [] := .of fun _ => .of fun _ s _ _ => wpAny_pure ⟨Kp.refl s, .nil⟩
theorem PLs.cons {e : Expr} {es : List Expr} {d : D} {ds : List D} (he : PE prog w M h k (eval e env) d) (hr : PLs prog w M h k env es ds)
    (hs : starEach (e :: es) env = (false, eval e env) :: starEach es env := by rfl) : PLs prog w M h k env (e :: es) (d :: ds) := by
  refine .of fun p => .of ?_
  intro A s rm kp
  rw [hs]
  show wpAny _ _ (spliced ((false, eval e env) :: backTo p (starEach es env))) _ _ _
  unfold spliced
  refine wpAny_bind (he.use rm kp fun v s1 k1 r1 => ?_)
  show wpAny _ _ (do let here ← (pure [v] : Sem (List Value)); return here ++ (← holding here (spliced (backTo p (starEach es env))))) _ _ _
  refine wpAny_bind (wpAny_pure (wpAny_bind (wpAny_holding ((hr.go p).use rm (kp.trans k1.heap) fun vs s2 k2 r2 => wpAny_pure ⟨k1.trans k2, ?_⟩))))
  exact .cons (r1.keep k2.heap) r2
theorem keep_push (h : Heap) (o : Obj) : Keep h (h.push o) := fun _ _ e => Heap.get?_push_of_some o e
theorem PE.tuple {es : List Expr} {n : Nat} {p : Pos} {ds : List D} (S : Sc K M h) (hl : PLs prog w M h k env es ds) (hz : ds.length ≤ 1000) : PE prog w M h k (eval (.Tuple es n p) env) (.tup ds) := by
  refine .of ?_
  intro A s rm kp
  refine Tuple_ ((hl.go p).use rm kp fun vs s1 k1 r1 => ?_)
  refine wpAny_newTuple ⟨k1.trans (Kp.hp _ _ (keep_push _ _)), .tup ?_ ⟨_, Heap.get?_push_size _ rfl⟩ (r1.keep (keep_push _ _))⟩ ?_
  · exact (S.keep (kp.trans k1.heap)).size
  · have := r1.length; rw [sizeLine_eq]; lia
theorem PE.list {es : List Expr} {p : Pos} {ds : List D} (S : Sc K M h) (hl : PLs prog w M h k env es ds) (hz : ds.length ≤ 1000) : PE prog w M h k (eval (.List es p) env) (.lst ds) := by
  refine .of ?_
  intro A s rm kp
  refine List_ ((hl.go p).use rm kp fun vs s1 k1 r1 => ?_)
  refine wpAny_newList ⟨k1.trans (Kp.hp _ _ (keep_push _ _)), .lst ?_ ⟨_, Heap.get?_push_size _ rfl⟩ (r1.keep (keep_push _ _))⟩ ?_
  · exact (S.keep (kp.trans k1.heap)).size
  · have := r1.length; rw [sizeLine_eq]; lia
end
end Mine
namespace Mine
open PySem PySem.W PySem.Calls PyProof.Rows PySem.Spec
section
variable {prog : Program} {w : World} {K : Frag} {M : Addr → Prop} {h : Heap} {k : Nat} {env : Env} {vm : List (Str × D)}
structure PKw (prog : Program) (w : World) (M : Addr → Prop) (h : Heap) (k : Nat) (env : Env) (es : List Keyword) (ks : List (Str × D)) : Prop where
  of ::
  go : (∀ p, ((backToKw p (keywordEach es env)).filterMap (·.1)) = ks.map (·.1) ∧ (backToKw p (keywordEach es env)).all (·.1.isSome) = true) ∧
  ∀ p, PL prog w M h k (evalAll ((backToKw p (keywordEach es env)).map (·.2))) (ks.map (·.2))
theorem PKw.nil : PKw prog w M h k env [] [] := .of ⟨fun _ => ⟨rfl, rfl⟩, fun _ => .of fun _ s _ _ => wpAny_pure ⟨Kp.refl s, .nil⟩⟩
theorem PKw.cons {n : Str} {e : Expr} {q : Pos} {es : List Keyword} {d : D} {ks : List (Str × D)} (he : PE prog w M h k (eval e env) d) (hr : PKw prog w M h k env es ks) :
    PKw prog w M h k env (⟨some n, e, q⟩ :: es) ((n, d) :: ks) := by
  refine .of ⟨fun p => ⟨?_, ?_⟩, fun p => .of fun A s rm kp => ?_⟩
  · show n :: ((backToKw p (keywordEach es env)).filterMap (·.1)) = n :: _
    rw [(hr.go.1 p).1]
  · show (true && (backToKw p (keywordEach es env)).all (·.1.isSome)) = true
    rw [(hr.go.1 p).2]; rfl
  · show wpAny _ _ (evalAll ((do let v ← eval e env; standAt p; pure v) :: (backToKw p (keywordEach es env)).map (·.2))) _ _ _
    refine wpAny_evalAll_cons (wpAny_bind (he.use rm kp fun v s1 k1 r1 => wpAny_bind (wpAny_standAt (wpAny_pure ?_))))
    exact (hr.go.2 p).use rm (kp.trans k1.heap) fun vs s2 k2 r2 => ⟨k1.trans k2, .cons (r1.keep k2.heap) r2⟩
theorem noStar_back {p : Pos} : ∀ {es : List Expr}, (starEach es env).any (·.1) = false → (backTo p (starEach es env)).any (·.1) = false := by
  intro es e
  unfold backTo
  rw [List.any_map]
  exact e
theorem any_evalArgs {f : Value} {A : Around} {E : Value → Shared → Prop} {s : Shared} {p : Pos} {es : List Expr} {kws : List Keyword} {as : List D} {ks : List (Str × D)} {Q : Args → Shared → Prop}
    (rm : Room k A) (kp : Keep h s.heap) (hst : (starEach es env).any (·.1) = false) (ha : PLs prog w M h k env es as) (hk : PKw prog w M h k env kws ks)
    (hq : ∀ vs us s', Kp s s' → RdL M s'.heap vs as → RdL M s'.heap us (ks.map (·.2)) → Q ⟨vs, (ks.map (·.1)).zip us⟩ s') :
    wpAny (model prog w) A (evalArgs f true (backTo p (starEach es env)) (backToKw p (keywordEach kws env))) Q E s := by
  unfold evalArgs
  have hnot : ∀ x, backTo p (starEach es env) ≠ [(true, x)] := fun x e => by
    have := noStar_back (p := p) hst
    rw [e] at this
    simp at this
  dsimp only
  split
  · rename_i x e
    exact absurd e (hnot _)
  refine wpAny_bind ((ha.go p).use rm kp fun vs s1 k1 r1 => wpAny_bind (wpAny_pure (wpAny_holding ?_)))
  dsimp only
  rw [if_pos (hk.go.1 p).2]
  refine wpAny_bind ((hk.go.2 p).use rm (kp.trans k1.heap) fun us s2 k2 r2 => wpAny_bind (wpAny_pure (wpAny_pure ?_)))
  rw [(hk.go.1 p).1]
  exact hq vs us s2 (k1.trans k2) (r1.keep k2.heap) r2
theorem any_callWith {f : Value} {first : List Value} {A : Around} {E : Value → Shared → Prop} {s : Shared} {p : Pos} {es : List Expr} {kws : List Keyword} {as : List D} {ks : List (Str × D)} {kpr : Keeper} {Q : Value → Shared → Prop}
    (rm : Room k A) (kp : Keep h s.heap) (hst : (starEach es env).any (·.1) = false) (ha : PLs prog w M h k env es as) (hk : PKw prog w M h k env kws ks)
    (hkeep : Looks (model prog w) h (keeperOf f) kpr)
    (hq : ∀ vs us s', Kp s s' → RdL M s'.heap vs as → RdL M s'.heap us (ks.map (·.2)) → wpAny (model prog w) A (call f (first ++ vs) ((ks.map (·.1)).zip us)) Q E s') :
    wpAny (model prog w) A (callWith p f first (backTo p (starEach es env)) (backToKw p (keywordEach kws env))) Q E s := by
  unfold callWith
  refine wpAny_bind (wpAny_holding (any_evalArgs rm kp hst ha hk fun vs us s1 k1 r1 r2 => wpAny_bind (wpAny_standAt ?_)))
  have hs : ((backTo p (starEach es env)).any (·.1) || (backToKw p (keywordEach kws env)).any (·.1.isNone)) = false := by
    rw [noStar_back hst, Bool.false_or]
    have := (hk.go.1 p).2
    rw [List.all_eq_true] at this
    rw [List.any_eq_false]
    intro x hx
    have := this x hx
    cases h' : x.1 with
    | none => rw [h'] at this; cases this
    | some _ => simp
  have tail : ∀ {t : Sem Value}, wpAny (model prog w) A t Q E s1 → wpAny (model prog w) A (t >>= fun r => holding [r] point >>= fun _ => pure r) Q E s1 :=
    fun ht => wpAny_bind (wpAny_mono ht (fun r s₂ hr => wpAny_bind (wpAny_holding (wpAny_point (wpAny_pure hr)))) fun _ _ x => x)
  have hc := hq vs us s1 k1 r1 r2
  dsimp only
  rw [hs]
  refine wpAny_bind (m := keeperOf f) (hkeep A _ _ s1 (kp.trans k1.heap) ?_)
  cases kpr with
  | frame =>
    dsimp only
    refine wpAny_ite ?_
    split
    · exact tail hc
    · exact tail (by unfold callMarked; exact Calls.wpAny_keep hc)
  | boundFrame =>
    dsimp only
    refine wpAny_ite ?_
    split
    · exact tail hc
    · exact tail (by unfold callMarked; exact Calls.wpAny_keep hc)
  | machine => exact tail hc
  | caller => exact tail (any_operate hc)
structure OpN (prog : Program) (w : World) (M : Addr → Prop) (h : Heap) (k : Nat) (f : Value) (as : List D) (ks : List (Str × D)) (d : D) : Prop where
  of ::
  go : ∀ A s vs us, Room k A → Keep h s.heap → RdL M s.heap vs as → RdL M s.heap us (ks.map (·.2)) → Gv prog w M A (call f vs ((ks.map (·.1)).zip us)) d s
theorem PE.call {x : Str} {q p : Pos} {f : Value} {es : List Expr} {kws : List Keyword} {as : List D} {ks : List (Str × D)} {kpr : Keeper} {d : D}
    (hf : Looks (model prog w) h (loadName env x) f) (hx : (x == ("__debug__" : Str)) = false) (hkeep : Looks (model prog w) h (keeperOf f) kpr)
    (ha : PLs prog w M h k env es as) (hk : PKw prog w M h k env kws ks) (ho : OpN prog w M h k f as ks d)
    (hst : (starEach es env).any (·.1) = false := by rfl) : PE prog w M h k (eval (.Call (.Name x q) es kws p) env) d := by
  refine .of ?_
  intro A s rm kp
  refine wpAny_Call_Name_kw (wpAny_Name (hf A _ _ s kp ?_) hx)
  exact any_callWith rm kp hst ha hk hkeep fun vs us s1 k1 r1 r2 => Gv.step k1 (ho.go A s1 vs us rm (kp.trans k1.heap) r1 r2)
structure OpM (prog : Program) (w : World) (M : Addr → Prop) (h : Heap) (k : Nat) (name : Str) (o : D) (as : List D) (ks : List (Str × D)) (d : D) : Prop where
  of ::
  go : ∀ A s v pl, Room k A → Keep h s.heap → Rd M s.heap v o → ∃ f first kpr,
    (∀ (Q : Value × List Value → Shared → Prop) (E : Value → Shared → Prop), (∀ t, Q (f, first) { s with toks := t }) → wpAny (model prog w) A (getMethod v name pl) Q E s) ∧
    Looks (model prog w) s.heap (keeperOf f) kpr ∧
    ∀ s' vs us, Kp s s' → RdL M s'.heap vs as → RdL M s'.heap us (ks.map (·.2)) → Gv prog w M A (PySem.call f (first ++ vs) ((ks.map (·.1)).zip us)) d s'
theorem PLs.keep {es : List Expr} {ds : List D} {h' : Heap} (p : PLs prog w M h k env es ds) (kp : Keep h h') : PLs prog w M h' k env es ds := .of fun q => .of fun A s r kp' => (p.go q).go A s r (kp.trans kp')
theorem PKw.keep {es : List Keyword} {ds : List (Str × D)} {h' : Heap} (p : PKw prog w M h k env es ds) (kp : Keep h h') : PKw prog w M h' k env es ds := .of ⟨p.go.1, fun q => .of fun A s r kp' => (p.go.2 q).go A s r (kp.trans kp')⟩
theorem PE.meth {o : Expr} {name : Str} {apos p : Pos} {es : List Expr} {kws : List Keyword} {od : D} {as : List D} {ks : List (Str × D)} {d : D}
    (ho : PE prog w M h k (eval o env) od) (ha : PLs prog w M h k env es as) (hk : PKw prog w M h k env kws ks) (hm : OpM prog w M h k name od as ks d)
    (hst : (starEach es env).any (·.1) = false := by rfl)
    (hbase : attributeBase o name env (eval o env) = eval o env := by rfl)
    (hfew : methodCallForm (es.length + kws.length) (backTo p (starEach es env)) (backToKw p (keywordEach kws env)) = true := by rfl)
    (hline : (apos.endLine == p.line) = true := by rfl) : PE prog w M h k (eval (.Call (.Attribute o name apos) es kws p) env) d := by
  refine .of ?_
  intro A s rm kp
  rw [arm_eval_Call, hbase]
  refine wpAny_bind (ho.use rm kp fun ov s1 k1 r1 => wpAny_bind (wpAny_standAt ?_))
  unfold methodCall
  rw [hfew]
  obtain ⟨f, first, kpr, hg, hkp, hc⟩ := hm.go A s1 ov (do return (← importBound o env).getD true) rm (kp.trans k1.heap) r1
  refine wpAny_bind (wpAny_holding ?_)
  show wpAny _ _ (getMethod ov name (do return (← importBound o env).getD true)) _ _ _
  refine hg _ _ fun t => ?_
  unfold methodCallPos
  rw [hline]
  refine wpAny_bind (wpAny_pure ?_)
  refine any_callWith (h := s1.heap) rm (Keep.refl _) hst (ha.keep (kp.trans k1.heap)) (hk.keep (kp.trans k1.heap)) hkp fun vs us s2 k2 q1 q2 => ?_
  have k2' : Kp s1 s2 := (Kp.tok s1 t).trans k2
  exact Gv.step (k1.trans k2') (hc s2 vs us k2' q1 q2)
theorem OpM.builtin {T : String} {name : Str} {id : String} {o d : D} {as : List D} {ks : List (Str × D)}
    (hT : ∀ (s : Shared) (v : Value), Keep h s.heap → Rd M s.heap v o → s.TypeIs v T ∧ ∀ a, v = .ref a → ∃ ob : Obj, s.heap.get? a = some ob ∧ ob.dict = Option.none)
    (hp : PlainAttrs T) (slot : Slot T name id) (ty : typeOf (.builtin id) = pure (.type "method_descriptor"))
    (hc : OpN prog w M h k (.builtin id) (o :: as) ks d) : OpM prog w M h k name o as ks d := by
  refine .of ?_
  intro A s v pl rm kp r
  obtain ⟨h1, h2⟩ := hT s v kp r
  refine ⟨.builtin id, [v], .machine, fun Q E hq => getMethod_builtin h1 hp slot ty h2 (hq s.toks), Looks.of_pure rfl, fun s' vs us k1 r1 r2 => ?_⟩
  exact hc.go A s' (v :: vs) us rm (kp.trans k1.heap) (.cons (r.keep k1.heap) r1) r2
end
end Mine
namespace Mine
open PySem PySem.W PySem.Calls PyProof.Rows PySem.Spec
structure Fm (M : Addr → Prop) (env : Env) (vm : List (Str × D)) (h : Heap) : Prop where
  kind : env.scope.kind = .function
  inL : M env.locals
  inC : ∀ x c, env.cells.lookup x = some c → M c
  loc : ∃ m, h.Ns env.locals m ∧ ∀ x d, env.kindOf x = some .local → vm.lookup x = some d → ∃ v, m x = some v ∧ Rd M h v d
  cel : ∀ x c, env.cells.lookup x = some c → ∃ ov, h.IsCell c ov ∧ ∀ d, vm.lookup x = some d → ∃ v, ov = some v ∧ Rd M h v d
  celK : ∀ x c, env.cells.lookup x = some c → env.kindOf x ≠ some .local
  apart : ∀ x y c, env.cells.lookup x = some c → env.cells.lookup y = some c → x = y
  vis : ∀ x d, vm.lookup x = some d → (env.kindOf x = some .local ∨ ((env.kindOf x = some .cell ∨ env.kindOf x = some .free) ∧ (env.cells.lookup x).isSome = true)) ∧ (x == ("__classdict__" : Str)) = false
section
variable {prog : Program} {w : World} {K : Frag} {M : Addr → Prop} {h : Heap} {k : Nat} {env : Env} {vm : List (Str × D)}
theorem Fm.vars (F : Fm M env vm h) : Vars prog w M h env vm := by
  intro x d e
  obtain ⟨hv, hx⟩ := F.vis x d e
  rcases hv with hl | ⟨hc, hs⟩
  · obtain ⟨m, hn, hm⟩ := F.loc
    obtain ⟨v, hv, r⟩ := hm x d hl e
    exact ⟨v, fun A Q E s kp q => wpAny_loadName_local F.kind hl (hn.keeps kp) hv q, r⟩
  · obtain ⟨c, hcl⟩ := Option.isSome_iff_exists.mp hs
    obtain ⟨ov, hcell, hd⟩ := F.cel x c hcl
    obtain ⟨v, rfl, r⟩ := hd d e
    refine ⟨v, fun A Q E s kp q => ?_, r⟩
    rcases hc with hc | hc
    · exact wpAny_loadName_cell F.kind hc hcl (hcell.keeps kp) q
    · exact wpAny_loadName_free F.kind hc hcl (hcell.keeps kp) q hx
theorem Fm.keep {h' : Heap} (F : Fm M env vm h) (kp : Keep h h') : Fm M env vm h' where
  kind := F.kind
  inL := F.inL
  inC := F.inC
  loc := let ⟨m, hn, hm⟩ := F.loc; ⟨m, hn.keeps kp, fun x d a b => let ⟨v, e, r⟩ := hm x d a b; ⟨v, e, r.keep kp⟩⟩
  cel x c e := let ⟨ov, hc, hd⟩ := F.cel x c e; ⟨ov, hc.keeps kp, fun d q => let ⟨v, e, r⟩ := hd d q; ⟨v, e, r.keep kp⟩⟩
  celK := F.celK
  apart := F.apart
  vis := F.vis
theorem Fm.sub {vm' : List (Str × D)} (F : Fm M env vm h) (i : ∀ x d, vm'.lookup x = some d → vm.lookup x = some d) : Fm M env vm' h where
  kind := F.kind
  inL := F.inL
  inC := F.inC
  loc := let ⟨m, hn, hm⟩ := F.loc; ⟨m, hn, fun x d a b => hm x d a (i x d b)⟩
  cel x c e := let ⟨ov, hc, hd⟩ := F.cel x c e; ⟨ov, hc, fun d q => hd d (i x d q)⟩
  celK := F.celK
  apart := F.apart
  vis x d e := F.vis x d (i x d e)
theorem Fm.other {h' : Heap} {a : Addr} (F : Fm M env vm h) (hs : Heap.SameBut a h h') (ha : M a) (hL : a ≠ env.locals) (hC : ∀ x c, env.cells.lookup x = some c → a ≠ c) : Fm M env vm h' where
  kind := F.kind
  inL := F.inL
  inC := F.inC
  loc := let ⟨m, hn, hm⟩ := F.loc; ⟨m, hn.sameBut hs (Ne.symm hL), fun x d a b => let ⟨v, e, r⟩ := hm x d a b; ⟨v, e, r.ext (Ext.sameBut hs ha)⟩⟩
  cel x c e := let ⟨ov, hc, hd⟩ := F.cel x c e; ⟨ov, hc.sameBut hs (Ne.symm (hC x c e)), fun d q => let ⟨v, e, r⟩ := hd d q; ⟨v, e, r.ext (Ext.sameBut hs ha)⟩⟩
  celK := F.celK
  apart := F.apart
  vis := F.vis
theorem Sc.but {h' : Heap} {a : Addr} (S : Sc K M h) (hs : Heap.SameBut a h h') (ha : M a) (al : (h'.get? a).isSome = true) : Sc K M h' :=
  S.ext (Ext.sameBut hs ha) fun b m => by
    by_cases e : b = a
    · subst e; exact al
    · rw [hs.2 b e]; exact S.alive b m
theorem lookup_cons_ne {x y : Str} {d e : D} {vm : List (Str × D)} (q : ((x, d) :: vm).lookup y = some e) (n : y ≠ x) : vm.lookup y = some e := by
  rw [List.lookup_cons, beq_eq_false_iff_ne.mpr n] at q; exact q
theorem lookup_cons_self' {x y : Str} {d e : D} {vm : List (Str × D)} (q : ((x, d) :: vm).lookup y = some e) (n : y = x) : e = d := by
  subst n
  rw [List.lookup_cons, beq_self_eq_true] at q
  exact (Option.some.inj q).symm
noncomputable def Sto (env : Env) (x : Str) (a : Addr) : Prop := (env.kindOf x = some .local ∧ a = env.locals) ∨ (env.kindOf x = some .cell ∧ env.cells.lookup x = some a)
theorem Fm.sto {h : Heap} (F : Fm M env vm h) {x : Str} {a : Addr} (s : Sto env x a) : M a := by
  rcases s with ⟨_, rfl⟩ | ⟨_, e⟩
  · exact F.inL
  · exact F.inC _ _ e
theorem Fm.store {A : Around} {E : Value → Shared → Prop} {s : Shared} {Q : Unit → Shared → Prop} {x : Str} {v : Value} {d : D} (F : Fm M env vm s.heap) (S : Sc K M s.heap) (r : Rd M s.heap v d)
    (hk : env.kindOf x = some .local ∨ (env.kindOf x = some .cell ∧ (env.cells.lookup x).isSome = true)) (hx : (x == ("__classdict__" : Str)) = false)
    (hq : ∀ h' tk, Fm M env ((x, d) :: vm) h' → Sc K M h' → Ext (Sto env x) s.heap h' → Q () { s with heap := h', toks := tk }) :
    wpAny (model prog w) A (storeName env x v) Q E s := by
  have hkf : env.scope.kind = .function := F.kind
  have hvis : ∀ y e, ((x, d) :: vm).lookup y = some e → (env.kindOf y = some .local ∨ ((env.kindOf y = some .cell ∨ env.kindOf y = some .free) ∧ (env.cells.lookup y).isSome = true)) ∧ (y == ("__classdict__" : Str)) = false := by
    intro y e q
    by_cases n : y = x
    · subst n
      exact ⟨hk.imp id fun z => ⟨.inl z.1, z.2⟩, hx⟩
    · exact F.vis y e (lookup_cons_ne q n)
  rcases hk with hl | ⟨hc, hs⟩
  · obtain ⟨m, hn, hm⟩ := F.loc
    refine wpAny_storeName_local hl hn (fun h' hn' hs' => ?_) (by rw [hkf]; rfl)
    have ex : Ext M s.heap h' := Ext.sameBut hs' F.inL
    refine hq h' _ ⟨F.kind, F.inL, F.inC, ⟨_, hn', fun y e a b => ?_⟩, fun y c a => ?_, F.celK, F.apart, hvis⟩ (S.but hs' F.inL (by obtain ⟨o, _, _, ho, _⟩ := hn'; rw [ho]; rfl)) (Ext.sameBut hs' (.inl ⟨hl, rfl⟩))
    · by_cases n : y = x
      · rw [if_pos n]; cases lookup_cons_self' b n; exact ⟨v, rfl, r.ext ex⟩
      · rw [if_neg n]
        obtain ⟨u, hu, ru⟩ := hm y e a (lookup_cons_ne b n)
        exact ⟨u, hu, ru.ext ex⟩
    · obtain ⟨ov, hcl, hd⟩ := F.cel y c a
      have hne : c ≠ env.locals := by
        rintro rfl
        obtain ⟨o, ho, hdd⟩ := hcl
        obtain ⟨o', _, _, ho', hd', _⟩ := hn
        rw [ho] at ho'; cases ho'; rw [hdd] at hd'; cases hd'
      refine ⟨ov, hcl.sameBut hs' hne, fun e b => ?_⟩
      by_cases n : y = x
      · exact absurd (n ▸ hl) (F.celK y c a)
      · obtain ⟨u, hu, ru⟩ := hd e (lookup_cons_ne b n)
        exact ⟨u, hu, ru.ext ex⟩
  · obtain ⟨c, hcl⟩ := Option.isSome_iff_exists.mp hs
    obtain ⟨ov, hcell, hd⟩ := F.cel x c hcl
    refine wpAny_storeName_cell hkf hc hcl hcell fun h' hc' hs' => ?_
    have ex : Ext M s.heap h' := Ext.sameBut hs' (F.inC x c hcl)
    obtain ⟨m, hn, hm⟩ := F.loc
    have hne : env.locals ≠ c := by
      rintro rfl
      obtain ⟨o, ho, hdd⟩ := hcell
      obtain ⟨o', _, _, ho', hd', _⟩ := hn
      rw [ho] at ho'; cases ho'; rw [hdd] at hd'; cases hd'
    refine hq h' s.toks ⟨F.kind, F.inL, F.inC, ⟨m, hn.sameBut hs' hne, fun y e a b => ?_⟩, fun y c' a => ?_, F.celK, F.apart, hvis⟩ (S.but hs' (F.inC x c hcl) (by obtain ⟨o, ho, _⟩ := hc'; rw [ho]; rfl)) (Ext.sameBut hs' (.inr ⟨hc, hcl⟩))
    · by_cases n : y = x
      · subst n; rw [hc] at a; cases a
      · obtain ⟨u, hu, ru⟩ := hm y e a (lookup_cons_ne b n)
        exact ⟨u, hu, ru.ext ex⟩
    · by_cases n : y = x
      · subst n
        rw [hcl] at a; cases a
        exact ⟨some v, hc', fun e b => by cases lookup_cons_self' b rfl; exact ⟨v, rfl, r.ext ex⟩⟩
      · obtain ⟨ov', hcl', hd'⟩ := F.cel y c' a
        refine ⟨ov', hcl'.sameBut hs' (fun q => n (F.apart y x c' a (q ▸ hcl))), fun e b => ?_⟩
        obtain ⟨u, hu, ru⟩ := hd' e (lookup_cons_ne b n)
        exact ⟨u, hu, ru.ext ex⟩
end
end Mine
namespace Mine
open PySem PySem.W PySem.Calls PyProof.Rows PySem.Spec
section
variable {prog : Program} {w : World} {K : Frag} {M : Addr → Prop} {h : Heap} {k : Nat} {env : Env} {vm : List (Str × D)}
noncomputable def KindOk (env : Env) (x : Str) : Prop := (env.kindOf x = some .local ∨ (env.kindOf x = some .cell ∧ (env.cells.lookup x).isSome = true)) ∧ (x == ("__classdict__" : Str)) = false
structure Asg (prog : Program) (w : World) (K : Frag) (k : Nat) (env : Env) (X : Addr → Prop) (t : Expr) (d : D) (bs : List (Str × D)) : Prop where
  of ::
  go : ∀ (M : Addr → Prop) (vm : List (Str × D)) (A : Around) (E : Value → Shared → Prop) (s : Shared) (Q : Unit → Shared → Prop) (v : Value), Room k A → Fm M env vm s.heap → Sc K M s.heap → Rd M s.heap v d →
    (∀ h' tk, Fm M env (bs ++ vm) h' → Sc K M h' → Ext X s.heap h' → Q () { s with heap := h', toks := tk }) → wpAny (model prog w) A (assign t env v) Q E s
theorem Asg.name {X : Addr → Prop} {x : Str} {p : Pos} {d : D} (hk : KindOk env x) (hX : ∀ a, Sto env x a → X a) : Asg prog w K k env X (.Name x p) d [(x, d)] := by
  refine .of ?_
  intro M vm A E s Q v rm F S r hq
  exact wpAny_assign_Name (F.store S r hk.1 hk.2 fun h' tk a b c => hq h' tk a b (c.mono hX))
theorem keep_extBut {h h' : Heap} {a : Addr} (e : Heap.ExtBut a h h') (n : h.get? a = none) : Keep h h' := fun b o q => e b o (fun z => by rw [z, n] at q; cases q) q
theorem Asg.pair {X : Addr → Prop} {x y : Str} {px py p : Pos} {n : Nat} {d e : D} (hx : KindOk env x) (hy : KindOk env y) (hX : ∀ a, Sto env x a ∨ Sto env y a → X a) :
    Asg prog w K k env X (.Tuple [.Name x px, .Name y py] n p) (.tup [d, e]) [(y, e), (x, d)] := by
  refine .of ?_
  intro M vm A E s Q v rm F S r hq
  cases r using Rd.tupE with
  | @tup a vs _ hm ht hr =>
    have hl := hr.length
    refine assign_Tuple_tuple rm.handled ht.isTup (by rw [List.size_toArray, hl]; rfl) rfl fun h₁ he => ?_
    have k1 : Keep s.heap h₁ := keep_extBut he (get_size _)
    cases hr using RdL.consE with
    | @cons v1 vs1 _ _ r1 hr1 =>
      cases hr1 using RdL.consE with
      | @cons v2 vs2 _ _ r2 hr2 =>
        cases hr2 using RdL.nilE
        show wpAny _ _ (assignInOrder [assign (.Name x px) env, assign (.Name y py) env] [v1, v2]) _ _ _
        unfold assignInOrder
        refine wpAny_bind (wpAny_holding (wpAny_assign_Name ((F.keep k1).store (S.keep k1) (r1.keep k1) hx.1 hx.2 fun h₂ t₂ F₂ S₂ e₂ => ?_)))
        unfold assignInOrder
        refine wpAny_bind (wpAny_holding (wpAny_assign_Name (F₂.store S₂ ((r2.keep k1).ext (e₂.mono fun a q => (F.keep k1).sto q)) hy.1 hy.2 fun h₃ t₃ F₃ S₃ e₃ => ?_)))
        unfold assignInOrder
        exact wpAny_pure (hq h₃ t₃ F₃ S₃ ((k1.ext.trans (e₂.mono fun a q => hX a (.inl q))).trans (e₃.mono fun a q => hX a (.inr q))))
structure It (prog : Program) (w : World) (A : Around) (M : Addr → Prop) (h₀ h : Heap) (I : Addr) (ds : List D) : Prop where
  fresh : h₀.get? I = none
  ex : ∃ fp P St T, Walks prog w A I fp [I] ds.length P St ∧ St 0 h ∧ (∀ b ∈ fp, (h.get? b).isSome = true) ∧ (∀ b ∈ fp, b ≠ I → ¬ M b ∧ (h₀.get? b).isSome = true) ∧ (∀ j v, P j v → ∃ d, ds[j]? = some d ∧ Rd M h v d) ∧
    (∀ j h', St j h' → ∃ o vs, h'.get? I = some o ∧ o.cls = .type T ∧ o.data = .fields vs) ∧ (["enumerate", "zip", "dict_itemiterator", "dict_reverseitemiterator", "odict_iterator", "itertools.zip_longest", "itertools.pairwise"] : List String).contains T = false ∧ T ≠ "range"
structure OpIter (prog : Program) (w : World) (M : Addr → Prop) (h : Heap) (k : Nat) (a : D) (ds : List D) : Prop where
  of ::
  go : ∀ A s u, Room k A → Keep h s.heap → Rd M s.heap u a → wpAny (model prog w) A (pyIter u) (fun it s' => Kp s s' ∧ ∃ I, it = .ref I ∧ It prog w A M s.heap s'.heap I ds) NoE s
theorem OpIter.list {ds : List D} (S : Sc K M h) : OpIter prog w M h k (.lst ds) ds := by
  refine .of ?_
  intro A s u rm kp r
  cases r using Rd.lstE with
  | @lst a vs _ hm hl hr =>
    refine wpAny_pyIter_list hl.isList ⟨Kp.hp _ _ (keep_push _ _), _, rfl, get_size _, [s.heap.objs.size, a], (fun i v => vs.toArray[i]? = some v), (fun i h => h.IsListIter s.heap.objs.size a i ∧ h.IsList a vs.toArray), "list_iterator", ?_⟩
    have hne : a ≠ s.heap.objs.size := by obtain ⟨n, e⟩ := hl; exact Nat.ne_of_lt (Heap.lt_size e)
    have hsz : vs.toArray.size = ds.length := by rw [List.size_toArray, hr.length]
    refine ⟨hsz ▸ Walks.list rm.handled s.heap.objs.size a hne vs.toArray, ⟨⟨_, Heap.get?_push_size _ rfl, rfl, rfl⟩, hl.isList.push _⟩, fun b hb => ?_, fun b hb hn => ?_, fun j v hj => ?_, fun j h' hst => ?_, by decide, by decide⟩
    · rcases List.mem_cons.mp hb with rfl | hb
      · rw [Heap.get?_push_size _ rfl]; rfl
      · obtain rfl := List.mem_singleton.mp hb
        obtain ⟨n, e⟩ := hl
        rw [Heap.get?_push_of_some _ e]; rfl
    · rcases List.mem_cons.mp hb with rfl | hb
      · exact absurd rfl hn
      · obtain rfl := List.mem_singleton.mp hb
        obtain ⟨n, e⟩ := hl
        exact ⟨hm, by rw [e]; rfl⟩
    · have hj' : vs[j]? = some v := by simpa using hj
      have hlt : j < ds.length := by
        rw [← hr.length]
        obtain ⟨q, _⟩ := List.getElem?_eq_some_iff.mp hj'
        exact q
      obtain ⟨v', e', r'⟩ := hr.get (i := j) (d := ds[j]) (List.getElem?_eq_getElem hlt)
      rw [hj'] at e'; cases e'
      exact ⟨_, List.getElem?_eq_getElem hlt, r'.keep (keep_push _ _)⟩
    · obtain ⟨⟨o, ho, hc, hd⟩, _⟩ := hst
      exact ⟨o, _, ho, hc, hd⟩
end
end Mine
set_option linter.unusedVariables false
namespace Mine
open PySem PySem.W PySem.Calls PyProof.Rows PySem.Spec
section
variable {prog : Program} {w : World} {K : Frag} {M : Addr → Prop} {h : Heap} {k : Nat} {env : Env} {vm : List (Str × D)}
structure PT (prog : Program) (w : World) (h : Heap) (k : Nat) (env : Env) (ifs : List Expr) (b : Bool) : Prop where
  of ::
  go : ∀ A s, Room k A → Keep h s.heap → wpAny (model prog w) A (forIn ifs true fun c r => if r = true then do let ok ← isTrue c env (eval c env); pure (ForInStep.yield ok) else pure (ForInStep.yield r))
    (fun v s' => Kp s s' ∧ v = b) NoE s
theorem PT.nil : PT prog w h k env [] true := .of fun A s _ _ => by rw [List.forIn_nil]; exact wpAny_pure ⟨Kp.refl s, rfl⟩
theorem PT.one {c : Expr} {b : Bool} (hc : PB prog w h k (isTrue c env (eval c env)) b) : PT prog w h k env [c] b := .of fun A s rm kp => by
  rw [List.forIn_cons]
  show wpAny _ _ ((do let ok ← isTrue c env (eval c env); pure (ForInStep.yield ok)) >>= _) _ _ _
  refine wpAny_bind (wpAny_bind (hc.use rm kp fun s1 k1 => wpAny_pure ?_))
  show wpAny _ _ (forIn [] b _) _ _ _
  rw [List.forIn_nil]
  exact wpAny_pure ⟨k1, rfl⟩
structure CS (K : Frag) (s₀ : Shared) (W : Addr → Prop) (env : Env) (D₀ : Addr) (out : List D) (vm : List (Str × D)) (s : Shared) : Prop where
  kp : Kp s₀ s
  sc : Sc K W s.heap
  fm : Fm W env vm s.heap
  wD : W D₀
  fresh : s₀.heap.get? D₀ = none
  acc : ∃ vs, s.heap.PlainList D₀ vs.toArray ∧ RdL W s.heap vs out ∧ out.length ≤ 100000
noncomputable def turnT (p : Pos) (tgt : Expr) (ifs : List Expr) (env : Env) (it : Value) (act : Sem PUnit) (c : Code) : Sem Fin := do
  standAt p
  match ← pyNext it with
  | none => pure (.done .next)
  | some v =>
    letOwnedTupleGo tgt it v
    assign tgt env v
    let mut ok := true
    for c in ifs do
      if ok then ok ← isTrue c env (eval c env)
    if ok then act
    again c
theorem let_owned {A : Around} {tgt : Expr} {I : Addr} {v : Value} {s : Shared} {E : Value → Shared → Prop} {Q : Unit → Shared → Prop} {T : String} {o : Obj} {vs : Array Value}
    (ho : s.heap.get? I = some o) (hc : o.cls = .type T) (hd : o.data = .fields vs)
    (hT : (["enumerate", "zip", "dict_itemiterator", "dict_reverseitemiterator", "odict_iterator", "itertools.zip_longest", "itertools.pairwise"] : List String).contains T = false) (q : Q () s) :
    wpAny (model prog w) A (letOwnedTupleGo tgt (.ref I) v) Q E s := by
  have aux : wpAny (model prog w) A (do
      let (.ref r, .ref a) := (Value.ref I, v) | return
      let o ← load r
      match o.cls, o.data with
      | .type n, .fields vs =>
        if (["enumerate", "zip", "dict_itemiterator", "dict_reverseitemiterator", "odict_iterator", "itertools.zip_longest", "itertools.pairwise"] : List String).contains n && vs[0]? == some (rawInt a) then
          rule "for.unpacks-the-owned-tuple"
          updateField r 0 .none
      | _, _ => pure () : Sem Unit) Q E s := by
    cases v with
    | ref a =>
      refine wpAny_bind (wpAny_load ho ?_)
      rw [hc, hd]
      dsimp only
      rw [hT, Bool.false_and]
      exact wpAny_pure q
    | _ => exact wpAny_pure q
  cases tgt with
  | Tuple es n p => exact aux
  | List es p => exact aux
  | _ => exact wpAny_pure q
theorem not_solid {o : Obj} {T : String} {fs : Array Value} (hc : o.cls = .type T) (hd : o.data = .fields fs) (hT : T ≠ "range") : ¬ Solid o := by
  rintro (⟨xs, q, e⟩ | e | e | ⟨es, n, e⟩)
  · rw [hd] at e; cases e
  · rw [hc] at e; cases e; exact hT rfl
  · rw [hd] at e; cases e
  · rw [hd] at e; cases e
theorem ovr_iter {W : Addr → Prop} {h h' : Heap} {I : Addr} (e : ∀ b o, b ≠ I → h.get? b = some o → h'.get? b = some o) (n : ∀ o, h.get? I = some o → ¬ Solid o) : Ovr W W h h' :=
  fun a o m q x => ⟨e a o (fun z => n o (z ▸ x) q) x, m⟩
theorem Rd.iter {W : Addr → Prop} {h h' : Heap} {I : Addr} (e : ∀ b o, b ≠ I → h.get? b = some o → h'.get? b = some o) (n : ∀ o, h.get? I = some o → ¬ Solid o) {v : Value} {d : D} : Rd W h v d → Rd W h' v d := Rd.gen (ovr_iter e n)
theorem RdL.iter {W : Addr → Prop} {h h' : Heap} {I : Addr} (e : ∀ b o, b ≠ I → h.get? b = some o → h'.get? b = some o) (n : ∀ o, h.get? I = some o → ¬ Solid o) {vs : List Value} {ds : List D} : RdL W h vs ds → RdL W h' vs ds := RdL.gen (ovr_iter e n)
theorem Fm.iter {W : Addr → Prop} {h h' : Heap} {I : Addr} {o : Obj} {fs : Array Value} (F : Fm W env vm h) (e : ∀ b o, b ≠ I → h.get? b = some o → h'.get? b = some o) (ho : h.get? I = some o) (hd : o.data = .fields fs) (hs : ¬ Solid o) : Fm W env vm h' := by
  have n : ∀ o, h.get? I = some o → ¬ Solid o := fun o' z => by rw [ho] at z; cases z; exact hs
  refine ⟨F.kind, F.inL, F.inC, ?_, fun x c a => ?_, F.celK, F.apart, F.vis⟩
  · obtain ⟨m, hn, hm⟩ := F.loc
    refine ⟨m, ?_, fun x d a b => let ⟨v, q, r⟩ := hm x d a b; ⟨v, q, Rd.iter e n r⟩⟩
    obtain ⟨o', es, ep, ho', hd', r⟩ := hn
    exact ⟨o', es, ep, e _ _ (fun z => by rw [z, ho] at ho'; cases ho'; rw [hd] at hd'; cases hd') ho', hd', r⟩
  · obtain ⟨ov, ⟨o', ho', hd'⟩, r⟩ := F.cel x c a
    exact ⟨ov, ⟨o', e _ _ (fun z => by rw [z, ho] at ho'; cases ho'; rw [hd] at hd'; cases hd') ho', hd'⟩, fun d q => let ⟨v, q, z⟩ := r d q; ⟨v, q, Rd.iter e n z⟩⟩
theorem Sc.iter {W : Addr → Prop} {h h' : Heap} {I : Addr} (S : Sc K W h) (e : ∀ b o, b ≠ I → h.get? b = some o → h'.get? b = some o) (nW : ¬ W I) (nK : K.lookup I = none) (nB : I ≠ builtinsNs) (nS : I ≠ cStatics) : Sc K W h' where
  inn a o q := e _ _ (fun z => by rw [z, nK] at q; cases q) (S.inn a o q)
  bns := let ⟨mb, ⟨o, es, ep, ho, r⟩, y⟩ := S.bns; ⟨mb, ⟨o, es, ep, e _ _ (Ne.symm nB) ho, r⟩, y⟩
  lim := let ⟨mb, ⟨o, es, ep, ho, r⟩, y⟩ := S.lim; ⟨mb, ⟨o, es, ep, e _ _ (Ne.symm nS) ho, r⟩, y⟩
  dig := let ⟨mb, ⟨o, es, ep, ho, r⟩, y⟩ := S.dig; ⟨mb, ⟨o, es, ep, e _ _ (Ne.symm nS) ho, r⟩, y⟩
  alive a m := by
    have := S.alive a m
    cases q : h.get? a with
    | none => rw [q] at this; cases this
    | some o => rw [e _ _ (fun z => nW (z ▸ m)) q]; rfl
  offK := S.offK
  offB := S.offB
  offS := S.offS
theorem Sc.newOff {W : Addr → Prop} {h : Heap} (S : Sc K W h) {I : Addr} (f : h.get? I = none) : ¬ W I ∧ K.lookup I = none ∧ I ≠ builtinsNs ∧ I ≠ cStatics := by
  refine ⟨S.dead f, ?_, ?_, ?_⟩
  · cases q : K.lookup I with
    | none => rfl
    | some o => rw [S.inn I o q] at f; cases f
  · rintro rfl
    obtain ⟨mb, ⟨o, _, _, ho, _⟩, _⟩ := S.bns
    rw [ho] at f; cases f
  · rintro rfl
    obtain ⟨mb, ⟨o, _, _, ho, _⟩, _⟩ := S.lim
    rw [ho] at f; cases f
theorem loop_turnsG {Cs : List D → Shared → Prop} {R : Result → Shared → Prop} {A : Around} {e : Expr} {i : Nat} {p : Pos} {tgt : Expr} {ifs : List Expr} {act : Sem PUnit} {it acc : Value} {I : Addr} {s₁ : Shared} {W : Addr → Prop} {ds : List D} {f : D → List D} {out : List D} {h₁ : Heap}
    (hc : (Code.compLoop e i it acc env).quiet = true)
    (hden : ∀ s Q E, wpAny (model prog w) A (turnT p tgt ifs env it act (.compLoop e i it acc env)) Q (fun _ _ => False) s → wpAny (model prog w) (A.under (.compLoop e i it acc env)) ((model prog w).den (.compLoop e i it acc env)) Q E s)
    (hit : it = .ref I) (rm : Room k A) (J : It prog w A W h₁ s₁.heap I ds) (nW : ¬ W I)
    (hstep : ∀ s h' tk oI (fs : Array Value) out, s.heap.get? I = some oI → oI.data = .fields fs → ¬ Solid oI → (∀ b o, b ≠ I → s.heap.get? b = some o → h'.get? b = some o) → Cs out s → Cs out { s with heap := h', toks := tk })
    (C₁ : Cs out s₁) (hlen : (out ++ ds.flatMap f).length ≤ 100000)
    (hbody : ∀ d v s out, d ∈ ds → Cs out s → Rd W s.heap v d → (out ++ f d).length ≤ 100000 →
      wpAny (model prog w) A (assign tgt env v) (fun _ s2 => wpAny (model prog w) A (forIn ifs true fun c r => if r = true then do let ok ← isTrue c env (eval c env); pure (ForInStep.yield ok) else pure (ForInStep.yield r))
        (fun ok s3 => if ok = true then wpAny (model prog w) A act (fun _ s4 => Cs (out ++ f d) s4 ∧ Ext W s.heap s4.heap) NoE s3 else Cs (out ++ f d) s3 ∧ Ext W s.heap s3.heap) NoE s2) NoE s)
    (done : ∀ s', Cs (out ++ ds.flatMap f) s' → (∀ b o, b ≠ I → ¬ W b → s₁.heap.get? b = some o → s'.heap.get? b = some o) → R (.ok .next) s') :
    codeAny (model prog w) A (.compLoop e i it acc env) R s₁ := by
  subst hit
  obtain ⟨fp, P, St, T, Wk, st0, falive, foff, hP, hty, hT, hT2⟩ := J.ex
  refine codeAny_loop hc (fun n s => ∃ j, n = ds.length - j ∧ j ≤ ds.length ∧ Cs (out ++ (ds.take j).flatMap f) s ∧ St j s.heap ∧ (∀ j v, P j v → ∃ d, ds[j]? = some d ∧ Rd W s.heap v d) ∧
    (∀ b o, b ≠ I → ¬ W b → s₁.heap.get? b = some o → s.heap.get? b = some o)) ?_ ds.length ⟨0, by lia, by exact Nat.le_add_left _ _, by simpa using C₁, st0, hP, fun _ _ _ _ z => z⟩
  rintro n s ⟨j, rfl, hj, C, st, hPs, hk⟩
  refine hden _ _ _ ?_
  unfold turnT
  refine wpAny_bind (wpAny_standAt (wpAny_bind ?_))
  obtain ⟨oI, fs, hoI, hcI, hdI⟩ := hty j _ st
  have nsI := not_solid hcI hdI hT2
  have stepC : ∀ h' tk, (∀ b o, b ∉ [I] → s.heap.get? b = some o → h'.get? b = some o) → ∀ out, Cs out s → Cs out { s with heap := h', toks := tk } := fun h' tk he out C =>
    hstep s h' tk oI fs out hoI hdI nsI (fun b o hb => he b o (by simpa using hb)) C
  by_cases hlt : j < ds.length
  · refine Wk.item j s _ _ hlt st fun v h' tk hv st' he => ?_
    have he' : ∀ b o, b ≠ I → s.heap.get? b = some o → h'.get? b = some o := fun b o hb => he b o (by simpa using hb)
    have C' := stepC h' tk he _ C
    have hPs' : ∀ j v, P j v → ∃ d, ds[j]? = some d ∧ Rd W h' v d := fun j v z => by
      obtain ⟨d, hd, r⟩ := hPs j v z
      exact ⟨d, hd, Rd.iter he' (fun o' z => by rw [hoI] at z; cases z; exact nsI) r⟩
    obtain ⟨d, hd, rv⟩ := hPs' j v hv
    have hmem : d ∈ ds := List.mem_of_getElem? hd
    obtain ⟨oJ, fj, hoJ, hcJ, hdJ⟩ := hty (j + 1) _ st'
    refine wpAny_bind (let_owned (s := { s with heap := h', toks := tk }) hoJ hcJ hdJ hT ?_)
    have htake : ds.take (j + 1) = ds.take j ++ [d] := by rw [List.take_add_one, hd]; rfl
    have hout : out ++ (ds.take (j + 1)).flatMap f = (out ++ (ds.take j).flatMap f) ++ f d := by
      rw [htake, List.flatMap_append, List.append_assoc]; simp
    have hle : (out ++ (ds.take (j + 1)).flatMap f).length ≤ 100000 := by
      refine Nat.le_trans ?_ hlen
      have : ds.flatMap f = (ds.take (j + 1)).flatMap f ++ (ds.drop (j + 1)).flatMap f := by rw [← List.flatMap_append, List.take_append_drop]
      rw [this]
      simp only [List.length_append]
      wtm_at "OM"
    have fin : ∀ s4, Cs ((out ++ (ds.take j).flatMap f) ++ f d) s4 → Ext W h' s4.heap →
        ∃ m, m < ds.length - j ∧ ∃ j', m = ds.length - j' ∧ j' ≤ ds.length ∧ Cs (out ++ (ds.take j').flatMap f) s4 ∧ St j' s4.heap ∧ (∀ j v, P j v → ∃ d, ds[j]? = some d ∧ Rd W s4.heap v d) ∧
          (∀ b o, b ≠ I → ¬ W b → s₁.heap.get? b = some o → s4.heap.get? b = some o) := by
      intro s4 C4 x4
      refine ⟨ds.length - (j + 1), by exact ar16 (by assumption), j + 1, rfl, by assumption, by rw [hout]; exact C4, ?_, fun j v z => ?_, fun b o hb nb q => x4 b o nb (he' b o hb (hk b o hb nb q))⟩
      · refine Wk.frame (j + 1) _ _ st' fun b hb o q => x4 b o (fun z => ?_) q
        by_cases hbI : b = I
        · exact nW (hbI ▸ z)
        · exact (foff b hb hbI).1 z
      · obtain ⟨d, a, r⟩ := hPs' j v z
        exact ⟨d, a, r.ext x4⟩
    refine wpAny_bind (wpAny_mono (hbody d v { s with heap := h', toks := tk } _ hmem C' rv (by rw [← hout]; exact hle)) (fun _ s2 h2 => ?_) fun _ _ x => x)
    refine wpAny_bind (wpAny_mono h2 (fun ok s3 h3 => ?_) fun _ _ x => x)
    cases ok with
    | true =>
      exact wpAny_bind (wpAny_mono h3 (fun _ s4 h4 => wpAny_pure ⟨rfl, fin s4 h4.1 h4.2⟩) fun _ _ x => x)
    | false => exact wpAny_pure ⟨rfl, fin s3 h3.1 h3.2⟩
  · have hjn : j = ds.length := by lia
    subst hjn
    refine Wk.done s _ _ st fun h' tk he => ?_
    refine wpAny_pure (done _ ?_ fun b o hb nb q => he b o (by simpa using hb) (hk b o hb nb q))
    rw [List.take_length] at C
    exact stepC h' tk he _ C
theorem loop_turns {R : Result → Shared → Prop} {A : Around} {e : Expr} {i : Nat} {p : Pos} {tgt : Expr} {ifs : List Expr} {act : Sem PUnit} {it acc : Value} {I D₀ : Addr} {s₀ s₁ : Shared} {W : Addr → Prop} {ds : List D} {f : D → List D} {out : List D} {h₁ : Heap}
    (hc : (Code.compLoop e i it acc env).quiet = true)
    (hden : ∀ s Q E, wpAny (model prog w) A (turnT p tgt ifs env it act (.compLoop e i it acc env)) Q (fun _ _ => False) s → wpAny (model prog w) (A.under (.compLoop e i it acc env)) ((model prog w).den (.compLoop e i it acc env)) Q E s)
    (hit : it = .ref I) (rm : Room k A) (J : It prog w A W h₁ s₁.heap I ds) (f0 : s₀.heap.get? I = none) (nW : ¬ W I) (nK : K.lookup I = none) (nB : I ≠ builtinsNs) (nS : I ≠ cStatics)
    (C₁ : CS K s₀ W env D₀ out vm s₁) (hlen : (out ++ ds.flatMap f).length ≤ 100000)
    (hbody : ∀ d v s out, d ∈ ds → CS K s₀ W env D₀ out vm s → Rd W s.heap v d → (out ++ f d).length ≤ 100000 →
      wpAny (model prog w) A (assign tgt env v) (fun _ s2 => wpAny (model prog w) A (forIn ifs true fun c r => if r = true then do let ok ← isTrue c env (eval c env); pure (ForInStep.yield ok) else pure (ForInStep.yield r))
        (fun ok s3 => if ok = true then wpAny (model prog w) A act (fun _ s4 => CS K s₀ W env D₀ (out ++ f d) vm s4 ∧ Ext W s.heap s4.heap) NoE s3 else CS K s₀ W env D₀ (out ++ f d) vm s3 ∧ Ext W s.heap s3.heap) NoE s2) NoE s)
    (done : ∀ s', CS K s₀ W env D₀ (out ++ ds.flatMap f) vm s' → (∀ b o, b ≠ I → ¬ W b → s₁.heap.get? b = some o → s'.heap.get? b = some o) → R (.ok .next) s') :
    codeAny (model prog w) A (.compLoop e i it acc env) R s₁ :=
  loop_turnsG (Cs := fun out s => CS K s₀ W env D₀ out vm s) hc hden hit rm J nW (fun s h' tk oI fs out hoI hdI nsI he' C => by
    obtain ⟨⟨⟨hx, tx, hs⟩, kk⟩, sc, fm, wD, fr, vs, hl, hr, hz⟩ := C
    refine ⟨⟨⟨h', tk, by subst hs; rfl⟩, fun b o q => he' b o (fun z => by rw [z, f0] at q; cases q) (kk b o q)⟩, sc.iter he' nW nK nB nS, fm.iter he' hoI hdI nsI, wD, fr, vs, ?_, ?_, hz⟩
    · exact hl.at fun o q => he' _ o (fun z => nW (z ▸ wD)) q
    · exact RdL.iter he' (fun o' z => by rw [hoI] at z; cases z; exact nsI) hr) C₁ hlen hbody done
end
end Mine
set_option linter.unusedVariables false
namespace Mine
open PySem PySem.W PySem.Calls PyProof.Rows PySem.Spec
section
variable {prog : Program} {w : World} {K : Frag} {M : Addr → Prop} {h : Heap} {k : Nat} {env : Env} {vm : List (Str × D)}
noncomputable def clGo (env : Env) : List (Str × NameKind) → List (Str × Addr) → List (Str × Addr)
  | [], cs => cs
  | p :: r, cs => clGo env r (if p.2 == .free then (p.1, (env.cells.lookup p.1).getD 0) :: cs else cs)
noncomputable def clOf (scope : Scope) (env : Env) : List (Str × Addr) := clGo env scope.names []
theorem closure_is {scope : Scope} (hf : ∀ y ∈ scope.names, y.2 = .free → (env.cells.lookup y.1).isSome = true) : closureFor scope env = pure (clOf scope env) := by
  unfold closureFor clOf
  have key : ∀ (l : List (Str × NameKind)) (cs : List (Str × Addr)), (∀ y ∈ l, y.2 = .free → (env.cells.lookup y.1).isSome = true) →
      (forIn l cs (fun x r => match x with
        | (name, kind) => (if (kind == NameKind.free) = true then do
            let c ← cellOf env name
            pure (ForInStep.yield ((name, c) :: r))
          else pure (ForInStep.yield r) : Sem (ForInStep (List (Str × Addr))))) : Sem (List (Str × Addr))) = pure (clGo env l cs) := by
    intro l
    induction l with
    | nil => intro cs _; rw [List.forIn_nil]; rfl
    | cons p r ih =>
      intro cs hl
      obtain ⟨n, kd⟩ := p
      rw [List.forIn_cons]
      by_cases hk : kd = .free
      · subst hk
        have hs := hl (n, .free) (.head _) rfl
        obtain ⟨c, hc⟩ := Option.isSome_iff_exists.mp hs
        have hco : cellOf env n = pure c := by unfold cellOf; rw [hc]
        dsimp only
        rw [if_pos (show (NameKind.free == NameKind.free) = true from rfl), hco]
        show (forIn r ((n, c) :: cs) _ : Sem _) = _
        rw [ih _ fun y hy => hl y (.tail _ hy)]
        show _ = pure (clGo env r (if (NameKind.free == NameKind.free) = true then (n, (env.cells.lookup n).getD 0) :: cs else cs))
        rw [show env.cells.lookup n = some c from hc]
        rfl
      · have hb : (kd == NameKind.free) = false := by simpa using hk
        dsimp only
        rw [hb, if_neg Bool.false_ne_true]
        show (forIn r cs _ : Sem _) = _
        rw [ih _ fun y hy => hl y (.tail _ hy)]
        show _ = pure (clGo env r (if (kd == NameKind.free) = true then _ else _))
        rw [hb]; rfl
  have := key scope.names [] hf
  exact congrArg (fun t : Sem (List (Str × Addr)) => t >>= fun cs => pure cs) this
theorem clGo_mem : ∀ (l : List (Str × NameKind)) (cs : List (Str × Addr)) (n : Str) (c : Addr), (n, c) ∈ clGo env l cs → (n, c) ∈ cs ∨ ((n, NameKind.free) ∈ l ∧ c = (env.cells.lookup n).getD 0)
  | [], cs, n, c, hm => .inl hm
  | p :: r, cs, n, c, hm => by
    rcases clGo_mem r _ n c hm with h1 | ⟨h1, h2⟩
    · split at h1
      · rename_i hk
        rcases List.mem_cons.mp h1 with e | e
        · have e1 : n = p.1 := congrArg Prod.fst e
          have e2 : c = (env.cells.lookup p.1).getD 0 := congrArg Prod.snd e
          have hk' : p.2 = NameKind.free := by simpa using hk
          refine .inr ⟨?_, by rw [e2, e1]⟩
          rw [e1, ← hk']; exact .head _
        · exact .inl e
      · exact .inl h1
    · exact .inr ⟨.tail _ h1, h2⟩
theorem clGo_has : ∀ (l : List (Str × NameKind)) (cs : List (Str × Addr)) (n : Str), (n, NameKind.free) ∈ l ∨ (cs.lookup n).isSome = true → ((clGo env l cs).lookup n).isSome = true
  | [], cs, n, hm => hm.elim (fun e => nomatch e) id
  | p :: r, cs, n, hm => by
    refine clGo_has r _ n ?_
    rcases hm with hm | hm
    · rcases List.mem_cons.mp hm with e | e
      · right
        have : (p.2 == NameKind.free) = true := by rw [← e]; rfl
        rw [if_pos this, List.lookup_cons, ← e, beq_self_eq_true]
        rfl
      · exact .inl e
    · right
      split
      · rw [List.lookup_cons]
        split <;> first | rfl | exact hm
      · exact hm
theorem clOf_lookup {scope : Scope} (hf : ∀ y ∈ scope.names, y.2 = .free → (env.cells.lookup y.1).isSome = true) {n : Str} {c : Addr} (e : (clOf scope env).lookup n = some c) :
    (n, NameKind.free) ∈ scope.names ∧ env.cells.lookup n = some c := by
  rcases clGo_mem _ _ n c (mem_of_lookup e) with h1 | ⟨h1, h2⟩
  · cases h1
  · refine ⟨h1, ?_⟩
    obtain ⟨c', hc⟩ := Option.isSome_iff_exists.mp (hf _ h1 rfl)
    rw [hc] at h2 ⊢
    exact congrArg some h2.symm
structure CompOk (scope : Scope) (env : Env) : Prop where
  cell : ∀ y ∈ scope.names, y.2 ≠ .cell
  kind : scope.kind = .function
  names : ∀ y ∈ scope.names, y.2 = .local → scope.names.lookup y.1 = some .local
  free : ∀ y ∈ scope.names, y.2 = .free → (env.cells.lookup y.1).isSome = true ∧ scope.names.lookup y.1 = some .free ∧ (y.1 == ("__classdict__" : Str)) = false
noncomputable abbrev cenvOf (scope : Scope) (env : Env) (C : Addr) : Env := compEnvC scope (clOf scope env) C env
theorem lookup_relabel {env : Env} : ∀ {names : List (Str × NameKind)} {x : Str} {kd : NameKind}, names.lookup x = some kd →
    (names.map fun (n, k) => if (k == NameKind.free && env.scope.kind == .function && env.kindOf n == some .cell) then (n, NameKind.cell) else (n, k)).lookup x = some (if (kd == NameKind.free && env.scope.kind == .function && env.kindOf x == some .cell) then NameKind.cell else kd)
  | [], _, _, h => by simp at h
  | (n, k) :: r, x, kd, h => by
    have ih := @lookup_relabel env r x kd
    rw [List.map_cons]
    cases hx : x == n with
    | true =>
      have hxn : x = n := by simpa using hx
      subst hxn
      rw [List.lookup_cons, beq_self_eq_true] at h
      cases h
      dsimp only
      split <;> simp [List.lookup_cons]
    | false =>
      simp only [List.lookup_cons, hx] at h
      dsimp only
      split
      · simp only [List.lookup_cons, hx]; exact ih h
      · simp only [List.lookup_cons, hx]; exact ih h
theorem relabel_local_inv {scope : Scope} {x : Str} (h : (relabel scope env).names.lookup x = some .local) : scope.names.lookup x = some .local := by
  cases q : scope.names.lookup x with
  | none =>
    exfalso
    have : ∀ l : List (Str × NameKind), l.lookup x = none → (l.map fun (n, k) => if (k == NameKind.free && env.scope.kind == .function && env.kindOf n == some .cell) then (n, NameKind.cell) else (n, k)).lookup x = none := by
      intro l
      induction l with
      | nil => intro _; rfl
      | cons p r ih =>
        intro e
        obtain ⟨n, kd⟩ := p
        rw [List.lookup_cons] at e
        split at e
        · cases e
        · rename_i hx
          rw [List.map_cons]
          dsimp only
          split <;> (rw [List.lookup_cons, hx]; exact ih e)
    rw [show (relabel scope env).names = scope.names.map fun (n, k) => if (k == NameKind.free && env.scope.kind == .function && env.kindOf n == some .cell) then (n, NameKind.cell) else (n, k) from rfl, this _ q] at h
    cases h
  | some kd =>
    have := lookup_relabel (env := env) q
    rw [show (relabel scope env).names = scope.names.map fun (n, k) => if (k == NameKind.free && env.scope.kind == .function && env.kindOf n == some .cell) then (n, NameKind.cell) else (n, k) from rfl, this] at h
    split at h
    · cases h
    · exact h
theorem relabel_free {scope : Scope} {x : Str} (h : scope.names.lookup x = some .free) : (relabel scope env).names.lookup x = some .cell ∨ (relabel scope env).names.lookup x = some .free := by
  have := lookup_relabel (env := env) h
  rw [show (relabel scope env).names = scope.names.map fun (n, k) => if (k == NameKind.free && env.scope.kind == .function && env.kindOf n == some .cell) then (n, NameKind.cell) else (n, k) from rfl, this]
  split
  · exact .inl rfl
  · exact .inr rfl
theorem Fm.comp {scope : Scope} {C : Addr} {W : Addr → Prop} {vmF : List (Str × D)} {h' : Heap} {m : Str → Option Value} (F : Fm M env vm h) (O : CompOk scope env) (hk : Keep h h') (hW : ∀ a, M a → W a) (hC : W C)
    (hcC : ∀ x c, env.cells.lookup x = some c → c ≠ C) (hn : h'.Ns C m) (hr : ∀ a, (h.get? a).isSome = true → ¬ M a → ¬ W a)
    (hvm : ∀ x d, vmF.lookup x = some d → vm.lookup x = some d ∧ scope.names.lookup x = some .free) : Fm W (cenvOf scope env C) vmF h' := by
  have hf : ∀ y ∈ scope.names, y.2 = .free → (env.cells.lookup y.1).isSome = true := fun y hy e => (O.free y hy e).1
  refine ⟨O.kind, hC, fun x c e => hW _ (F.inC x c (clOf_lookup hf e).2), ⟨m, hn, fun x d a b => ?_⟩, fun x c e => ?_, fun x c e => ?_, fun x y c a b => F.apart x y c (clOf_lookup hf a).2 (clOf_lookup hf b).2, fun x d e => ?_⟩
  · have := relabel_local_inv a
    rw [(hvm x d b).2] at this; cases this
  · obtain ⟨h1, h2⟩ := clOf_lookup hf e
    obtain ⟨ov, hc, hd⟩ := F.cel x c h2
    refine ⟨ov, hc.keeps hk, fun d q => ?_⟩
    obtain ⟨v, ev, r⟩ := hd d (hvm x d q).1
    exact ⟨v, ev, (r.swap hr).keep hk⟩
  · intro a
    have h1 := relabel_local_inv a
    have h2 := (O.free _ (clOf_lookup hf e).1 rfl).2.1
    rw [h1] at h2; cases h2
  · have hfr := (hvm x d e).2
    have hmem := mem_of_lookup hfr
    refine ⟨.inr ⟨relabel_free hfr, ?_⟩, (O.free _ hmem rfl).2.2⟩
    exact clGo_has _ _ _ (.inl hmem)
end
end Mine
set_option linter.unusedVariables false
namespace Mine
open PySem PySem.W PySem.Calls PyProof.Rows PySem.Spec
section
variable {prog : Program} {w : World} {K : Frag} {M : Addr → Prop} {h : Heap} {k : Nat} {env : Env} {vm : List (Str × D)}
noncomputable abbrev Wof (M : Addr → Prop) (C D₀ : Addr) : Addr → Prop := fun a => M a ∨ a = C ∨ a = D₀
theorem keeps_alive {h h' : Heap} {a : Addr} (k : Keep h h') (e : (h.get? a).isSome = true) : (h'.get? a).isSome = true := by
  obtain ⟨o, ho⟩ := Option.isSome_iff_exists.mp e
  rw [k _ _ ho]; rfl
theorem comp_blockX {Fin : Addr → Addr → Shared → Prop} {A : Around} {E : Value → Shared → Prop} {s s₂ : Shared} {e : Expr} {scope : Scope} {I : Addr} {ds : List D} {vmF : List (Str × D)} {RR : Value → Addr → Result → Shared → Prop}
    (rm : Room k A) (S : Sc K M s.heap) (F : Fm M env vm s.heap) (O : CompOk scope env) (kp : Kp s s₂) (J : It prog w A M s.heap s₂.heap I ds)
    (hvm : ∀ x d, vmF.lookup x = some d → vm.lookup x = some d ∧ scope.names.lookup x = some .free)
    (hstart : ∀ C D₀ (R : Result → Shared → Prop) s', s'.heap.get? I = s₂.heap.get? I → (codeAny (model prog w) A (.compLoop e 0 (.ref I) (.ref D₀) (cenvOf scope env C)) R s') → (∀ (s'' : Shared) Q E, (∀ b o, s₂.heap.get? b = some o → s''.heap.get? b = some o) → Q (.ref I) s'' → wpAny (model prog w) A (pyIter (.ref I)) Q E s'') → (∀ b o, s₂.heap.get? b = some o → s'.heap.get? b = some o) →
      codeAny (model prog w) A (.compStart e 0 (.ref I) (.ref D₀) (cenvOf scope env C)) R s')
    (hloop : ∀ C D₀ (R : Result → Shared → Prop) s₁, D₀ ≠ C → (∀ c, (s.heap.get? c).isSome = true → c ≠ C ∧ c ≠ D₀) → I ≠ C → I ≠ D₀ → CS K s (Wof M C D₀) (cenvOf scope env C) D₀ [] vmF s₁ → It prog w A (Wof M C D₀) s.heap s₁.heap I ds →
      (∀ s', Fin C D₀ s' → R (.ok .next) s') → codeAny (model prog w) A (.compLoop e 0 (.ref I) (.ref D₀) (cenvOf scope env C)) R s₁)
    (hfin : ∀ C D₀ s', D₀ ≠ C → s.heap.get? C = none → s.heap.get? D₀ = none → Fin C D₀ s' → RR (.ref D₀) C (.ok .next) s') :
    wpAny (model prog w) A (newList []) (fun acc s₃ => wpAny (model prog w) A (newFunctionEnv scope env.globals (clOf scope env) [] env.qual none .none (some env)) (fun cenv s₄ =>
      codeAny (model prog w) A (.compStart e 0 (.ref I) acc { cenv with scope := relabel scope env }) (RR acc cenv.locals) s₄) E s₃) E s₂ := by
  obtain ⟨fp, P, St, T, Wk, st0, falive, foff, hP, hty, hT, hT2⟩ := J.ex
  refine wpAny_newObj_type (wpAny_newFunctionEnv O.cell (by intro y hy; simp at hy) (fun h₁ hns₁ hsb₁ => ?_) O.kind)
  dsimp only at hns₁ hsb₁ ⊢
  generalize hH2 : s₂.heap.push { cls := .type "list", dict := none, data := .seq ([] : List Value).toArray } = H2 at hns₁ hsb₁ ⊢
  have hC : H2.objs.size = s₂.heap.objs.size + 1 := by rw [← hH2, Heap.size_push]
  have hDC : s₂.heap.objs.size ≠ H2.objs.size := by rw [hC]; exact Nat.ne_of_lt (Nat.lt_succ_self _)
  have below : ∀ b, b < s₂.heap.objs.size → b ≠ H2.objs.size ∧ b ≠ s₂.heap.objs.size := fun b hb => ⟨by rw [hC]; exact Nat.ne_of_lt (Nat.lt_succ_of_lt hb), Nat.ne_of_lt hb⟩
  have old : ∀ b o, s₂.heap.get? b = some o → h₁.get? b = some o := fun b o e => hsb₁.extBut b o (below b (Heap.lt_size e)).1 (Heap.get?_push_of_some _ (hH2 ▸ Heap.get?_push_of_some _ e))
  have hacc : h₁.PlainList s₂.heap.objs.size #[] := ⟨_, hsb₁.extBut _ _ hDC (Heap.get?_push_of_some _ (hH2 ▸ Heap.get?_push_size _ rfl))⟩
  have hlive : ∀ c, (s.heap.get? c).isSome = true → c ≠ H2.objs.size ∧ c ≠ s₂.heap.objs.size := fun c hc => by
    obtain ⟨o, ho⟩ := Option.isSome_iff_exists.mp (keeps_alive kp.heap hc)
    exact below c (Heap.lt_size ho)
  have hIlt : I < s₂.heap.objs.size := by
    obtain ⟨o, vs, ho, _⟩ := hty 0 _ st0
    exact Heap.lt_size ho
  have fresh : ∀ a, s₂.heap.objs.size ≤ a → s.heap.get? a = none := fun a ha => by
    cases e : s.heap.get? a with
    | none => rfl
    | some o' => exact absurd (Heap.lt_size (kp.heap _ _ e)) (Nat.not_lt.mpr ha)
  have hk1 : Keep s.heap h₁ := fun b o q => old b o (kp.heap b o q)
  have hsw : ∀ a, (s.heap.get? a).isSome = true → ¬ M a → ¬ Wof M H2.objs.size s₂.heap.objs.size a := fun a ha hm hw => by
    rcases hw with hw | hw | hw
    · exact hm hw
    · exact (hlive a ha).1 hw
    · exact (hlive a ha).2 hw
  have hsw2 : ∀ a, a < s₂.heap.objs.size → ¬ M a → ¬ Wof M H2.objs.size s₂.heap.objs.size a := fun a ha hm hw => by
    rcases hw with hw | hw | hw
    · exact hm hw
    · exact (below a ha).1 hw
    · exact (below a ha).2 hw
  have nsAlive : (h₁.get? H2.objs.size).isSome = true := by obtain ⟨o, _, _, ho, _⟩ := hns₁; rw [ho]; rfl
  have accAlive : (h₁.get? s₂.heap.objs.size).isSome = true := by obtain ⟨n, ho⟩ := hacc; rw [ho]; rfl
  have fr1 := fresh H2.objs.size (by rw [hC]; exact Nat.le_succ _)
  have fr2 := fresh s₂.heap.objs.size (Nat.le_refl _)
  have sc1 : Sc K (Wof M H2.objs.size s₂.heap.objs.size) h₁ := by
    have S1 := S.keep hk1
    refine ⟨S1.inn, S1.bns, S1.lim, S1.dig, fun a m => ?_, fun a m => ?_, fun m => ?_, fun m => ?_⟩
    · rcases m with m | m | m
      · exact S1.alive a m
      · rw [m]; exact nsAlive
      · rw [m]; exact accAlive
    · rcases m with m | m | m
      · exact S1.offK a m
      · rw [m]; exact (S.newOff fr1).2.1
      · rw [m]; exact (S.newOff fr2).2.1
    · rcases m with m | m | m
      · exact S1.offB m
      · exact (S.newOff fr1).2.2.1 m.symm
      · exact (S.newOff fr2).2.2.1 m.symm
    · rcases m with m | m | m
      · exact S1.offS m
      · exact (S.newOff fr1).2.2.2 m.symm
      · exact (S.newOff fr2).2.2.2 m.symm
  have fm1 : Fm (Wof M H2.objs.size s₂.heap.objs.size) (cenvOf scope env H2.objs.size) vmF h₁ :=
    F.comp O hk1 (fun a m => .inl m) (.inr (.inl rfl)) (fun x c e => (hlive c (S.alive _ (F.inC x c e))).1) hns₁ hsw hvm
  show codeAny (model prog w) A (.compStart e 0 (.ref I) (.ref s₂.heap.objs.size) (cenvOf scope env H2.objs.size)) (RR (.ref s₂.heap.objs.size) H2.objs.size) _
  obtain ⟨⟨hx, tx, hs₂⟩, _⟩ := id kp
  have cs1 : CS K s (Wof M H2.objs.size s₂.heap.objs.size) (cenvOf scope env H2.objs.size) s₂.heap.objs.size [] vmF { s₂ with heap := h₁, toks := s₂.toks + ([] : List (Str × Value)).length } :=
    ⟨⟨⟨h₁, s₂.toks, by rw [hs₂]; rfl⟩, hk1⟩, sc1, fm1, .inr (.inr rfl), fr2, [], hacc, .nil, by simp⟩
  have J1 : It prog w A (Wof M H2.objs.size s₂.heap.objs.size) s.heap h₁ I ds := by
    refine ⟨J.fresh, fp, P, St, T, Wk, Wk.frame 0 _ _ st0 fun b hb o q => old b o q, fun b hb => keeps_alive (fun b o q => old b o q) (falive b hb), fun b hb hn => ⟨?_, (foff b hb hn).2⟩, fun j v hv => ?_, hty, hT, hT2⟩
    · exact hsw b (foff b hb hn).2 (foff b hb hn).1
    · obtain ⟨d, hd, r⟩ := hP j v hv
      refine ⟨d, hd, (r.swap fun a ha hm => hsw2 a ?_ hm).keep fun b o q => old b o q⟩
      obtain ⟨o, ho⟩ := Option.isSome_iff_exists.mp ha
      exact Heap.lt_size ho
  refine hstart _ _ _ _ ?_ (hloop _ _ _ _ hDC hlive ?_ ?_ cs1 J1 fun s' C' => hfin _ _ s' hDC fr1 fr2 C') ?_ ?_
  · obtain ⟨o, vs, ho, _⟩ := hty 0 _ st0
    show h₁.get? I = _
    rw [ho]; exact old I o ho
  · exact (below I hIlt).1
  · exact (below I hIlt).2
  · intro s'' Q E hk q
    exact Wk.self 0 s'' Q E (Wk.frame 0 _ _ st0 fun b hb o z => hk b o z) q
  · exact fun b o q => old b o q
theorem comp_block {A : Around} {E : Value → Shared → Prop} {s s₂ : Shared} {e : Expr} {scope : Scope} {I : Addr} {ds : List D} {vmF : List (Str × D)} {g : D → List D} {RR : Value → Addr → Result → Shared → Prop}
    (rm : Room k A) (S : Sc K M s.heap) (F : Fm M env vm s.heap) (O : CompOk scope env) (kp : Kp s s₂) (J : It prog w A M s.heap s₂.heap I ds)
    (hvm : ∀ x d, vmF.lookup x = some d → vm.lookup x = some d ∧ scope.names.lookup x = some .free)
    (hstart : ∀ C D₀ (R : Result → Shared → Prop) s', s'.heap.get? I = s₂.heap.get? I → (codeAny (model prog w) A (.compLoop e 0 (.ref I) (.ref D₀) (cenvOf scope env C)) R s') → (∀ (s'' : Shared) Q E, (∀ b o, s₂.heap.get? b = some o → s''.heap.get? b = some o) → Q (.ref I) s'' → wpAny (model prog w) A (pyIter (.ref I)) Q E s'') → (∀ b o, s₂.heap.get? b = some o → s'.heap.get? b = some o) →
      codeAny (model prog w) A (.compStart e 0 (.ref I) (.ref D₀) (cenvOf scope env C)) R s')
    (hloop : ∀ C D₀ (R : Result → Shared → Prop) s₁, D₀ ≠ C → (∀ c, (s.heap.get? c).isSome = true → c ≠ C ∧ c ≠ D₀) → I ≠ C → I ≠ D₀ → CS K s (Wof M C D₀) (cenvOf scope env C) D₀ [] vmF s₁ → It prog w A (Wof M C D₀) s.heap s₁.heap I ds →
      (∀ s', CS K s (Wof M C D₀) (cenvOf scope env C) D₀ (ds.flatMap g) vmF s' → R (.ok .next) s') → codeAny (model prog w) A (.compLoop e 0 (.ref I) (.ref D₀) (cenvOf scope env C)) R s₁)
    (hfin : ∀ C D₀ s', D₀ ≠ C → s.heap.get? C = none → s.heap.get? D₀ = none → CS K s (Wof M C D₀) (cenvOf scope env C) D₀ (ds.flatMap g) vmF s' → RR (.ref D₀) C (.ok .next) s') :
    wpAny (model prog w) A (newList []) (fun acc s₃ => wpAny (model prog w) A (newFunctionEnv scope env.globals (clOf scope env) [] env.qual none .none (some env)) (fun cenv s₄ =>
      codeAny (model prog w) A (.compStart e 0 (.ref I) acc { cenv with scope := relabel scope env }) (RR acc cenv.locals) s₄) E s₃) E s₂ :=
  comp_blockX (Fin := fun C D₀ s' => CS K s (Wof M C D₀) (cenvOf scope env C) D₀ (ds.flatMap g) vmF s') rm S F O kp J hvm hstart hloop hfin
theorem comp_result {s s' : Shared} {C D₀ : Addr} {out : List D} {vmF : List (Str × D)} {cenv : Env} {h' : Heap} (S : Sc K M s.heap) (hDC : D₀ ≠ C) (fC : s.heap.get? C = none) (fD : s.heap.get? D₀ = none)
    (C' : CS K s (Wof M C D₀) cenv D₀ out vmF s') (hs : Heap.SameBut C s'.heap h') : Kp s { s' with heap := h' } ∧ Rd M h' (.ref D₀) (.lst out) ∧ (s'.heap.get? D₀).isSome = true ∧ s'.heap.get? D₀ = h'.get? D₀ := by
  obtain ⟨⟨⟨hx, tx, e⟩, kk⟩, sc, fm, wD, fr, vs, hl, hr, hz⟩ := C'
  refine ⟨⟨⟨h', tx, by subst e; rfl⟩, fun b o q => hs.extBut b o (fun z => by rw [z, fC] at q; cases q) (kk b o q)⟩, .lst (S.dead fD) (hl.extBut hs.extBut hDC) ?_, ?_, (hs.2 _ hDC).symm⟩
  · have := hr.ext (Ext.sameBut hs (.inr (.inl rfl)))
    exact this.swap fun a _ hm hM => hm (.inl hM)
  · obtain ⟨n, e⟩ := hl; rw [e]; rfl
theorem comp1_pipe {A : Around} {s : Shared} {Q : Value → Shared → Prop} {E : Value → Shared → Prop} {use : Option (Value → Sem Unit)} {elt tgt iter : Expr} {ifs : List Expr} {scope : Scope} {p : Pos} {src : D} {ds : List D} {vmF : List (Str × D)} {bs : D → List (Str × D)} {g : D → List D}
    (S : Sc K M h) (F : Fm M env vm h) (O : CompOk scope env) (hi : PE prog w M h k (eval iter env) src) (hit : OpIter prog w M h k src ds)
    (hvm : ∀ x d, vmF.lookup x = some d → vm.lookup x = some d ∧ scope.names.lookup x = some .free)
    (hasg : ∀ d ∈ ds, ∀ C, Asg prog w K k (cenvOf scope env C) (fun a => a = C) tgt d (bs d)) (hbs : ∀ d ∈ ds, ∀ x e, vmF.lookup x = some e → (bs d).lookup x = none)
    (hitem : ∀ d ∈ ds, ∀ W h' C, (∀ a, M a → W a) → Sc K W h' → Fm W (cenvOf scope env C) (bs d ++ vmF) h' →
      ∃ b, PT prog w h' k (cenvOf scope env C) ifs b ∧ (b = true → ∃ y, PE prog w W h' k (eval elt (cenvOf scope env C)) y ∧ g d = [y]) ∧ (b = false → g d = []))
    (hlen : (ds.flatMap g).length ≤ 100000)
    (hfold : ∀ x, foldedSetIterable iter env x = pure x)
    (rm : Room k A) (kp : Keep h s.heap)
    (hfin : ∀ s₁ C D₀ s', Kp s s₁ → D₀ ≠ C → s₁.heap.get? C = none → s₁.heap.get? D₀ = none → CS K s₁ (Wof M C D₀) (cenvOf scope env C) D₀ (ds.flatMap g) vmF s' → compPost (model prog w) A E use Q (.ref D₀) C (.ok .next) s') :
    wpAny (model prog w) A (comprehension (.ListComp elt [⟨tgt, iter, ifs, 0⟩] scope p) scope env (firstIterPos [⟨tgt, iter, ifs, 0⟩] p) (newList []) false (eval iter env) use) Q E s := by
  refine wpAny_comprehension_free (use := use) rfl hfold (closure_is fun y hy e => (O.free y hy e).1) O.kind O.names (hi.use rm kp fun xv s₁ k1 r1 => ?_)
  refine wpAny_mono (hit.go A s₁ xv rm (kp.trans k1.heap) r1) (fun it s₂ q => ?_) fun _ _ f => f.elim
  obtain ⟨k2, I, rfl, J⟩ := q
  have S1 := S.keep (kp.trans k1.heap)
  have F1 := F.keep (kp.trans k1.heap)
  refine comp_block (RR := fun acc C => compPost (model prog w) A E use Q acc C) (g := g) rm S1 F1 O k2 J hvm ?_ ?_ ?_
  · intro C D₀ R s' _ hl hself hk
    exact codeAny_compStart_list hl (hself _ _ _ hk hl)
  · intro C D₀ R s₃ hDC hlive hIC hID C3 J3 hdone
    have f0 : s₁.heap.get? I = none := J.fresh
    have nof := S1.newOff f0
    refine loop_turns (f := g) (act := (do let _ ← PySem.call (.builtin "list.append") [.ref D₀, ← eval elt (cenvOf scope env C)])) (p := iter.pos) (tgt := tgt) (ifs := ifs) (out := []) rfl ?_ rfl rm J3 f0 ?_ nof.2.1 nof.2.2.1 nof.2.2.2 C3 (by simpa using hlen) ?_ (fun s' C' _ => hdone s' (by simpa using C'))
    · intro s' Q E hw
      show wpAny _ A ((compTurn (.ListComp elt [⟨tgt, iter, ifs, 0⟩] scope p) 0 (.ref I) (.ref D₀) (cenvOf scope env C)).onRaise (fun x => do noteFrame x (cenvOf scope env C); theTreesLotGoes x)) _ _ s'
      refine wpAny_noted ?_
      rw [compTurn_list]
      exact wpAny_mono hw (fun _ _ x => x) fun _ _ f => f.elim
    · rintro (m | m | m)
      · exact nof.1 m
      · exact hIC m
      · exact hID m
    · intro d v s5 out hd C5 rv hle
      refine (hasg d hd C).go (Wof M C D₀) vmF A NoE s5 _ v rm C5.fm C5.sc rv fun h' tk F' S' e' => ?_
      obtain ⟨b, hT, hy, hn⟩ := hitem d hd (Wof M C D₀) h' C (fun a m => .inl m) S' F'
      obtain ⟨vs, hl, hr, hz⟩ := C5.acc
      have eW : Ext (Wof M C D₀) s5.heap h' := e'.mono fun a q => .inr (.inl q)
      have hkp5 : Kp s₁ { s5 with heap := h', toks := tk } := by
        obtain ⟨⟨hx, tx, e5⟩, kk⟩ := C5.kp
        refine ⟨⟨h', tk, by rw [e5]⟩, fun b o q => e' b o (fun z => ?_) (kk b o q)⟩
        exact (hlive b (by rw [q]; rfl)).1 z
      have acc5 : ∃ vs, h'.PlainList D₀ vs.toArray ∧ RdL (Wof M C D₀) h' vs out := ⟨vs, hl.at fun o q => e' _ o hDC q, hr.ext eW⟩
      have vm5 : Fm (Wof M C D₀) (cenvOf scope env C) vmF h' := F'.sub fun x e q => by rw [List.lookup_append, hbs d hd x e q]; exact q
      refine wpAny_mono (hT.go A { s5 with heap := h', toks := tk } rm (Keep.refl _)) (fun ok s6 q6 => ?_) fun _ _ f => f
      obtain ⟨k6, rfl⟩ := q6
      have C6 : CS K s₁ (Wof M C D₀) (cenvOf scope env C) D₀ out vmF s6 :=
        ⟨hkp5.trans k6, S'.keep k6.heap, vm5.keep k6.heap, C5.wD, C5.fresh, let ⟨vs, a, b⟩ := acc5; ⟨vs, a.at fun o q => k6.heap _ o q, b.keep k6.heap, hz⟩⟩
      have x6 : Ext (Wof M C D₀) s5.heap s6.heap := eW.trans k6.heap.ext
      cases ok with
      | false =>
        show CS K s₁ _ _ _ (out ++ g d) _ s6 ∧ _
        rw [hn rfl, List.append_nil]; exact ⟨C6, x6⟩
      | true =>
        obtain ⟨y, hpe, hg⟩ := hy rfl
        rw [if_pos rfl, hg]
        rw [hg] at hle
        refine wpAny_bind (hpe.use rm k6.heap fun v7 s7 k7 r7 => ?_)
        obtain ⟨vs6, hl6, hr6, hz6⟩ := C6.acc
        have hl7 : s7.heap.PlainList D₀ vs6.toArray := hl6.at fun o q => k7.heap _ o q
        refine wpAny_bind (wpAny_list_append_plain hl7 (fun h8 hl8 hs8 => wpAny_pure ⟨?_, ?_⟩) ?_)
        · have wD : Wof M C D₀ D₀ := C5.wD
          have e8 : Ext (Wof M C D₀) s7.heap h8 := Ext.sameBut hs8 wD
          obtain ⟨⟨hx, tx, e7⟩, kk⟩ := C6.kp.trans k7
          have al8 : (h8.get? D₀).isSome = true := by obtain ⟨o, ho⟩ := hl8; rw [ho]; rfl
          refine ⟨⟨⟨h8, tx, by rw [e7]⟩, fun b o q => hs8.extBut b o (fun z => by rw [z, C5.fresh] at q; cases q) (kk b o q)⟩, (C6.sc.keep k7.heap).but hs8 wD al8, (C6.fm.keep k7.heap).other hs8 wD hDC ?_, C5.wD, C5.fresh, vs6 ++ [v7], ?_, ?_, hle⟩
          · intro x c q z
            have := C6.fm.inC x c q
            obtain ⟨hf1, hf2⟩ := clOf_lookup (fun y hy e => (O.free y hy e).1) q
            exact (hlive c (S1.alive _ (F1.inC x c hf2))).2 z.symm
          · rw [show (vs6 ++ [v7]).toArray = vs6.toArray.push v7 by simp]; exact hl8
          · exact (hr6.keep k7.heap).append (.cons r7 .nil) |>.ext e8
        · exact (x6.trans k7.heap.ext).trans (Ext.sameBut hs8 C5.wD)
        · have := hr6.length
          rw [List.size_toArray, sizeLine_eq]; lia
  · intro C D₀ s' hDC fC fD C'
    exact hfin s₁ C D₀ s' k1 hDC fC fD C'
theorem PE.comp1 {elt tgt iter : Expr} {ifs : List Expr} {scope : Scope} {p : Pos} {src : D} {ds : List D} {vmF : List (Str × D)} {bs : D → List (Str × D)} {g : D → List D}
    (S : Sc K M h) (F : Fm M env vm h) (O : CompOk scope env) (hi : PE prog w M h k (eval iter env) src) (hit : OpIter prog w M h k src ds)
    (hvm : ∀ x d, vmF.lookup x = some d → vm.lookup x = some d ∧ scope.names.lookup x = some .free)
    (hasg : ∀ d ∈ ds, ∀ C, Asg prog w K k (cenvOf scope env C) (fun a => a = C) tgt d (bs d)) (hbs : ∀ d ∈ ds, ∀ x e, vmF.lookup x = some e → (bs d).lookup x = none)
    (hitem : ∀ d ∈ ds, ∀ W h' C, (∀ a, M a → W a) → Sc K W h' → Fm W (cenvOf scope env C) (bs d ++ vmF) h' →
      ∃ b, PT prog w h' k (cenvOf scope env C) ifs b ∧ (b = true → ∃ y, PE prog w W h' k (eval elt (cenvOf scope env C)) y ∧ g d = [y]) ∧ (b = false → g d = []))
    (hlen : (ds.flatMap g).length ≤ 100000)
    (hfold : ∀ x, foldedSetIterable iter env x = pure x := by intro _; rfl) :
    PE prog w M h k (eval (.ListComp elt [⟨tgt, iter, ifs, 0⟩] scope p) env) (.lst (ds.flatMap g)) := by
  refine .of ?_
  intro A s rm kp
  rw [eval_ListComp]
  refine comp1_pipe S F O hi hit hvm hasg hbs hitem hlen hfold rm kp fun s₁ C D₀ s' k1 hDC fC fD C' => ?_
  obtain ⟨m, hn, _⟩ := C'.fm.loc
  refine ⟨m, hn, fun h' hs => ?_⟩
  have := comp_result (S.keep (kp.trans k1.heap)) hDC fC fD C' hs
  exact ⟨k1.trans this.1, this.2.1⟩
end
end Mine
set_option linter.unusedVariables false
namespace Mine
open PySem PySem.W PySem.Calls PyProof.Rows PySem.Spec
section
variable {prog : Program} {w : World} {K : Frag} {M : Addr → Prop} {h : Heap} {k : Nat} {env : Env} {vm : List (Str × D)}
theorem compTurn_two0 (elt tgt iter tgt2 iter2 : Expr) (ifs ifs2 : List Expr) (scope : Scope) (pos : Pos) (it acc : Value) (env : Env) :
    compTurn (.ListComp elt [⟨tgt, iter, ifs, 0⟩, ⟨tgt2, iter2, ifs2, 0⟩] scope pos) 0 it acc env =
      turnT iter.pos tgt ifs env it (do
        let x ← eval iter2 env
        standAt iter2.pos
        let x ← foldedSetIterable iter2 env x
        let _ ← runOwn (.compStart (.ListComp elt [⟨tgt, iter, ifs, 0⟩, ⟨tgt2, iter2, ifs2, 0⟩] scope pos) 1 (← holding [x] (pyIter x)) acc env) env)
        (.compLoop (.ListComp elt [⟨tgt, iter, ifs, 0⟩, ⟨tgt2, iter2, ifs2, 0⟩] scope pos) 0 it acc env) := by
  have e : compTurn (.ListComp elt [⟨tgt, iter, ifs, 0⟩, ⟨tgt2, iter2, ifs2, 0⟩] scope pos) 0 it acc env = (do
      standAt iter.pos
      match ← pyNext it with
      | none => pure (.done .next)
      | some v =>
        letOwnedTupleGo tgt it v
        assign tgt env v
        let mut ok := true
        for c in ifs do
          if ok then ok ← isTrue c env (eval c env)
        if ok then
          let x ← eval iter2 env
          standAt iter2.pos
          let x ← foldedSetIterable iter2 env x
          let _ ← runOwn (.compStart (.ListComp elt [⟨tgt, iter, ifs, 0⟩, ⟨tgt2, iter2, ifs2, 0⟩] scope pos) 1 (← holding [x] (pyIter x)) acc env) env
          again (.compLoop (.ListComp elt [⟨tgt, iter, ifs, 0⟩, ⟨tgt2, iter2, ifs2, 0⟩] scope pos) 0 it acc env)
        else again (.compLoop (.ListComp elt [⟨tgt, iter, ifs, 0⟩, ⟨tgt2, iter2, ifs2, 0⟩] scope pos) 0 it acc env)) := by rfl
  rw [e]
  unfold turnT
  simp only [bind_assoc, pure_bind]
  all_goals (refine congrArg _ (funext fun _ => congrArg _ (funext fun r => ?_)); cases r <;> rfl)
theorem compTurn_two1 (elt tgt iter tgt2 iter2 : Expr) (ifs ifs2 : List Expr) (scope : Scope) (pos : Pos) (it acc : Value) (env : Env) :
    compTurn (.ListComp elt [⟨tgt, iter, ifs, 0⟩, ⟨tgt2, iter2, ifs2, 0⟩] scope pos) 1 it acc env =
      turnT iter2.pos tgt2 ifs2 env it (do let _ ← PySem.call (.builtin "list.append") [acc, ← eval elt env])
        (.compLoop (.ListComp elt [⟨tgt, iter, ifs, 0⟩, ⟨tgt2, iter2, ifs2, 0⟩] scope pos) 1 it acc env) := by rfl
theorem codeAny_compStart_two1 {A : Around} {R : Result → Shared → Prop} {s : Shared} {elt tgt iter tgt2 iter2 : Expr} {ifs ifs2 : List Expr} {scope : Scope} {pos : Pos} {it acc : Value} {env : Env}
    (h0 : codeAny (model prog w) A (.compLoop (.ListComp elt [⟨tgt, iter, ifs, 0⟩, ⟨tgt2, iter2, ifs2, 0⟩] scope pos) 1 it acc env) R s)
    (h : wpAny (model prog w) A (pyIter it) (fun it' s' => codeAny (model prog w) A (.compLoop (.ListComp elt [⟨tgt, iter, ifs, 0⟩, ⟨tgt2, iter2, ifs2, 0⟩] scope pos) 1 it' acc env) R s') (fun _ _ => False) s) :
    codeAny (model prog w) A (.compStart (.ListComp elt [⟨tgt, iter, ifs, 0⟩, ⟨tgt2, iter2, ifs2, 0⟩] scope pos) 1 it acc env) R s := by
  refine codeAny_of_tree ?_
  show wpAny _ _ ((compStart (.ListComp elt [⟨tgt, iter, ifs, 0⟩, ⟨tgt2, iter2, ifs2, 0⟩] scope pos) 1 it acc env).onRaise (fun x => do noteFrame x env; standAt theWindowsPlace)) _ _ s
  refine wpAny_notedAt ?_
  unfold compStart
  show wpAny _ _ (ask >>= _) _ _ s
  refine wpAny_bind (wpAny_askSetting (wpAny_ite ?_))
  split
  · first
      | exact wpAny_bind (wpAny_pure (wpAny_pure (And.intro rfl h0)))
      | exact wpAny_pure (And.intro rfl h0)
  · have h' := wpAny_mono (E' := notedBy (model prog w) A env fun x s' => R (.error x) s') h (fun _ _ x => x) fun _ _ f => f.elim
    first
      | exact wpAny_bind (wpAny_rule (wpAny_bind (wpAny_standAt (wpAny_bind (wpAny_mono h' (fun it' s' h' => wpAny_pure (And.intro rfl h')) fun _ _ x => x)))))
      | (refine wpAny_bind (wpAny_rule ?_); show wpAny _ _ (standAt iter2.pos >>= _) _ _ s; exact wpAny_bind (wpAny_standAt (wpAny_bind (wpAny_mono h' (fun it' s' h' => wpAny_pure (And.intro rfl h')) fun _ _ x => x))))
theorem emit_turn {A : Around} {scope : Scope} {elt tgt : Expr} {ifs : List Expr} {s₁ s5 : Shared} {C D₀ : Addr} {vmF bs : List (Str × D)} {d : D} {v : Value} {out gd : List D}
    (rm : Room k A) (O : CompOk scope env) (S1 : Sc K M s₁.heap) (F1 : Fm M env vm s₁.heap) (hDC : D₀ ≠ C) (hlive : ∀ c, (s₁.heap.get? c).isSome = true → c ≠ C ∧ c ≠ D₀)
    (hasg : Asg prog w K k (cenvOf scope env C) (fun a => a = C) tgt d bs) (hbs : ∀ x e, vmF.lookup x = some e → bs.lookup x = none)
    (hitem : ∀ W h', (∀ a, M a → W a) → Sc K W h' → Fm W (cenvOf scope env C) (bs ++ vmF) h' →
      ∃ b, PT prog w h' k (cenvOf scope env C) ifs b ∧ (b = true → ∃ y, PE prog w W h' k (eval elt (cenvOf scope env C)) y ∧ gd = [y]) ∧ (b = false → gd = []))
    (C5 : CS K s₁ (Wof M C D₀) (cenvOf scope env C) D₀ out vmF s5) (rv : Rd (Wof M C D₀) s5.heap v d) (hle : (out ++ gd).length ≤ 100000) :
      wpAny (model prog w) A (assign tgt (cenvOf scope env C) v) (fun _ s2 => wpAny (model prog w) A (forIn ifs true fun c r => if r = true then do let ok ← isTrue c (cenvOf scope env C) (eval c (cenvOf scope env C)); pure (ForInStep.yield ok) else pure (ForInStep.yield r))
        (fun ok s3 => if ok = true then wpAny (model prog w) A (do let _ ← PySem.call (.builtin "list.append") [.ref D₀, ← eval elt (cenvOf scope env C)]) (fun _ s4 => CS K s₁ (Wof M C D₀) (cenvOf scope env C) D₀ (out ++ gd) vmF s4 ∧ Ext (Wof M C D₀) s5.heap s4.heap) NoE s3 else CS K s₁ (Wof M C D₀) (cenvOf scope env C) D₀ (out ++ gd) vmF s3 ∧ Ext (Wof M C D₀) s5.heap s3.heap) NoE s2) NoE s5 := by
  refine hasg.go (Wof M C D₀) vmF A NoE s5 _ v rm C5.fm C5.sc rv fun h' tk F' S' e' => ?_
  obtain ⟨b, hT, hy, hn⟩ := hitem (Wof M C D₀) h' (fun a m => .inl m) S' F'
  obtain ⟨vs, hl, hr, hz⟩ := C5.acc
  have eW : Ext (Wof M C D₀) s5.heap h' := e'.mono fun a q => .inr (.inl q)
  have hkp5 : Kp s₁ { s5 with heap := h', toks := tk } := by
    obtain ⟨⟨hx, tx, e5⟩, kk⟩ := C5.kp
    refine ⟨⟨h', tk, by rw [e5]⟩, fun b o q => e' b o (fun z => ?_) (kk b o q)⟩
    exact (hlive b (by rw [q]; rfl)).1 z
  have acc5 : ∃ vs, h'.PlainList D₀ vs.toArray ∧ RdL (Wof M C D₀) h' vs out := ⟨vs, hl.at fun o q => e' _ o hDC q, hr.ext eW⟩
  have vm5 : Fm (Wof M C D₀) (cenvOf scope env C) vmF h' := F'.sub fun x e q => by rw [List.lookup_append, hbs x e q]; exact q
  refine wpAny_mono (hT.go A { s5 with heap := h', toks := tk } rm (Keep.refl _)) (fun ok s6 q6 => ?_) fun _ _ f => f
  obtain ⟨k6, rfl⟩ := q6
  have C6 : CS K s₁ (Wof M C D₀) (cenvOf scope env C) D₀ out vmF s6 :=
    ⟨hkp5.trans k6, S'.keep k6.heap, vm5.keep k6.heap, C5.wD, C5.fresh, let ⟨vs, a, b⟩ := acc5; ⟨vs, a.at fun o q => k6.heap _ o q, b.keep k6.heap, hz⟩⟩
  have x6 : Ext (Wof M C D₀) s5.heap s6.heap := eW.trans k6.heap.ext
  cases ok with
  | false =>
    show CS K s₁ _ _ _ (out ++ gd) _ s6 ∧ _
    rw [hn rfl, List.append_nil]; exact ⟨C6, x6⟩
  | true =>
    obtain ⟨y, hpe, hg⟩ := hy rfl
    rw [if_pos rfl, hg]
    rw [hg] at hle
    refine wpAny_bind (hpe.use rm k6.heap fun v7 s7 k7 r7 => ?_)
    obtain ⟨vs6, hl6, hr6, hz6⟩ := C6.acc
    have hl7 : s7.heap.PlainList D₀ vs6.toArray := hl6.at fun o q => k7.heap _ o q
    refine wpAny_bind (wpAny_list_append_plain hl7 (fun h8 hl8 hs8 => wpAny_pure ⟨?_, ?_⟩) ?_)
    · have wD : Wof M C D₀ D₀ := C5.wD
      have e8 : Ext (Wof M C D₀) s7.heap h8 := Ext.sameBut hs8 wD
      obtain ⟨⟨hx, tx, e7⟩, kk⟩ := C6.kp.trans k7
      have al8 : (h8.get? D₀).isSome = true := by obtain ⟨o, ho⟩ := hl8; rw [ho]; rfl
      refine ⟨⟨⟨h8, tx, by rw [e7]⟩, fun b o q => hs8.extBut b o (fun z => by rw [z, C5.fresh] at q; cases q) (kk b o q)⟩, (C6.sc.keep k7.heap).but hs8 wD al8, (C6.fm.keep k7.heap).other hs8 wD hDC ?_, C5.wD, C5.fresh, vs6 ++ [v7], ?_, ?_, hle⟩
      · intro x c q z
        obtain ⟨hf1, hf2⟩ := clOf_lookup (fun y hy e => (O.free y hy e).1) q
        exact (hlive c (S1.alive _ (F1.inC x c hf2))).2 z.symm
      · rw [show (vs6 ++ [v7]).toArray = vs6.toArray.push v7 by simp]; exact hl8
      · exact ((hr6.keep k7.heap).append (.cons r7 .nil)).ext e8
    · exact (x6.trans k7.heap.ext).trans (Ext.sameBut hs8 C5.wD)
    · have := hr6.length
      rw [List.size_toArray, sizeLine_eq]; lia
theorem comp2_pipe {A : Around} {s : Shared} {Q : Value → Shared → Prop} {E : Value → Shared → Prop} {use : Option (Value → Sem Unit)} {elt tgt iter tgt2 iter2 : Expr} {ifs2 : List Expr} {scope : Scope} {p : Pos} {src src2 : D} {ds ds2 : List D} {vmF : List (Str × D)} {bs bs2 : D → List (Str × D)} {g : D → D → List D}
    (S : Sc K M h) (F : Fm M env vm h) (O : CompOk scope env) (hi : PE prog w M h k (eval iter env) src) (hit : OpIter prog w M h k src ds)
    (hvm : ∀ x d, vmF.lookup x = some d → vm.lookup x = some d ∧ scope.names.lookup x = some .free)
    (hasg : ∀ d ∈ ds, ∀ C, Asg prog w K k (cenvOf scope env C) (fun a => a = C) tgt d (bs d)) (hbs : ∀ d ∈ ds, ∀ x e, vmF.lookup x = some e → (bs d).lookup x = none)
    (hasg2 : ∀ d ∈ ds2, ∀ C, Asg prog w K k (cenvOf scope env C) (fun a => a = C) tgt2 d (bs2 d)) (hbs2 : ∀ d ∈ ds, ∀ d' ∈ ds2, ∀ x e, (bs d ++ vmF).lookup x = some e → (bs2 d').lookup x = none)
    (hitem1 : ∀ d ∈ ds, ∀ W h' C, (∀ a, M a → W a) → Sc K W h' → Fm W (cenvOf scope env C) (bs d ++ vmF) h' → PE prog w W h' k (eval iter2 (cenvOf scope env C)) src2 ∧ OpIter prog w W h' k src2 ds2)
    (hitem : ∀ d ∈ ds, ∀ e ∈ ds2, ∀ W h' C, (∀ a, M a → W a) → Sc K W h' → Fm W (cenvOf scope env C) (bs2 e ++ (bs d ++ vmF)) h' →
      ∃ b, PT prog w h' k (cenvOf scope env C) ifs2 b ∧ (b = true → ∃ y, PE prog w W h' k (eval elt (cenvOf scope env C)) y ∧ g d e = [y]) ∧ (b = false → g d e = []))
    (hlen : (ds.flatMap fun d => ds2.flatMap (g d)).length ≤ 100000)
    (hfold : ∀ x, foldedSetIterable iter env x = pure x := by intro _; rfl) (hfold2 : ∀ e x, foldedSetIterable iter2 e x = pure x := by intro _ _; rfl)
    (rm : Room k A) (kp : Keep h s.heap)
    (hfin : ∀ s₁ C D₀ s', Kp s s₁ → D₀ ≠ C → s₁.heap.get? C = none → s₁.heap.get? D₀ = none → CS K s₁ (Wof M C D₀) (cenvOf scope env C) D₀ (ds.flatMap fun d => ds2.flatMap (g d)) vmF s' → compPost (model prog w) A E use Q (.ref D₀) C (.ok .next) s') :
    wpAny (model prog w) A (comprehension (.ListComp elt [⟨tgt, iter, [], 0⟩, ⟨tgt2, iter2, ifs2, 0⟩] scope p) scope env (firstIterPos [⟨tgt, iter, [], 0⟩, ⟨tgt2, iter2, ifs2, 0⟩] p) (newList []) false (eval iter env) use) Q E s := by
  refine wpAny_comprehension_free (use := use) rfl hfold (closure_is fun y hy e => (O.free y hy e).1) O.kind O.names (hi.use rm kp fun xv s₁ k1 r1 => ?_)
  refine wpAny_mono (hit.go A s₁ xv rm (kp.trans k1.heap) r1) (fun it s₂ q => ?_) fun _ _ f => f.elim
  obtain ⟨k2, I, rfl, J⟩ := q
  have S1 := S.keep (kp.trans k1.heap)
  have F1 := F.keep (kp.trans k1.heap)
  refine comp_block (RR := fun acc C => compPost (model prog w) A E use Q acc C) (g := fun d => ds2.flatMap (g d)) rm S1 F1 O k2 J hvm ?_ ?_ ?_
  · intro C D₀ R s' _ hl hself hk
    exact codeAny_compStart_list hl (hself _ _ _ hk hl)
  · intro C D₀ R s₃ hDC hlive hIC hID C3 J3 hdone
    have f0 : s₁.heap.get? I = none := J.fresh
    have nof := S1.newOff f0
    refine loop_turns (f := fun d => ds2.flatMap (g d)) (act := (do
        let x ← eval iter2 (cenvOf scope env C)
        standAt iter2.pos
        let x ← foldedSetIterable iter2 (cenvOf scope env C) x
        let _ ← runOwn (.compStart (.ListComp elt [⟨tgt, iter, [], 0⟩, ⟨tgt2, iter2, ifs2, 0⟩] scope p) 1 (← holding [x] (pyIter x)) (.ref D₀) (cenvOf scope env C)) (cenvOf scope env C)))
      (p := iter.pos) (tgt := tgt) (ifs := []) (out := []) rfl ?_ rfl rm J3 f0 ?_ nof.2.1 nof.2.2.1 nof.2.2.2 C3 (by simpa using hlen) ?_ (fun s' C' _ => hdone s' (by simpa using C'))
    · intro s' Q E hw
      show wpAny _ A ((compTurn (.ListComp elt [⟨tgt, iter, [], 0⟩, ⟨tgt2, iter2, ifs2, 0⟩] scope p) 0 (.ref I) (.ref D₀) (cenvOf scope env C)).onRaise (fun x => do noteFrame x (cenvOf scope env C); theTreesLotGoes x)) _ _ s'
      refine wpAny_noted ?_
      rw [compTurn_two0]
      exact wpAny_mono hw (fun _ _ x => x) fun _ _ f => f.elim
    · rintro (m | m | m)
      · exact nof.1 m
      · exact hIC m
      · exact hID m
    · intro d v s5 out hd C5 rv hle
      refine (hasg d hd C).go (Wof M C D₀) vmF A NoE s5 _ v rm C5.fm C5.sc rv fun h' tk F' S' e' => ?_
      obtain ⟨vs, hl, hr, hz⟩ := C5.acc
      have eW : Ext (Wof M C D₀) s5.heap h' := e'.mono fun a q => .inr (.inl q)
      have hkp5 : Kp s₁ { s5 with heap := h', toks := tk } := by
        obtain ⟨⟨hx, tx, e5⟩, kk⟩ := C5.kp
        refine ⟨⟨h', tk, by rw [e5]⟩, fun b o q => e' b o (fun z => ?_) (kk b o q)⟩
        exact (hlive b (by rw [q]; rfl)).1 z
      rw [List.forIn_nil]
      refine wpAny_pure ?_
      rw [if_pos rfl]
      obtain ⟨hpe2, hit2⟩ := hitem1 d hd (Wof M C D₀) h' C (fun a m => .inl m) S' F'
      refine wpAny_bind (hpe2.use rm (Keep.refl _) fun xv2 s6 k6 r6 => wpAny_bind (wpAny_standAt (wpAny_bind (wpAny_of_eq (hfold2 _ _) (wpAny_bind (wpAny_holding ?_))))))
      refine wpAny_mono (hit2.go A s6 xv2 rm k6.heap r6) (fun it2 s7 q7 => ?_) fun _ _ f => f.elim
      obtain ⟨k7, I2, rfl, J2⟩ := q7
      have k57 := k6.trans k7
      have C7 : CS K s₁ (Wof M C D₀) (cenvOf scope env C) D₀ out (bs d ++ vmF) s7 :=
        ⟨hkp5.trans k57, S'.keep k57.heap, F'.keep k57.heap, C5.wD, C5.fresh, vs, (hl.at fun o q => e' _ o hDC q).at fun o q => k57.heap _ o q, (hr.ext eW).keep k57.heap, hz⟩
      have S6 := S'.keep k6.heap
      have nof2 := S6.newOff J2.fresh
      have f02 : s₁.heap.get? I2 = none := by
        cases q : s₁.heap.get? I2 with
        | none => rfl
        | some o =>
          have := (hkp5.trans k6).heap _ _ q
          rw [J2.fresh] at this; cases this
      have hlp : codeAny (model prog w) A (.compLoop (.ListComp elt [⟨tgt, iter, [], 0⟩, ⟨tgt2, iter2, ifs2, 0⟩] scope p) 1 (.ref I2) (.ref D₀) (cenvOf scope env C))
          (fun r s' => match r with | .ok _ => CS K s₁ (Wof M C D₀) (cenvOf scope env C) D₀ (out ++ ds2.flatMap (g d)) vmF s' ∧ Ext (Wof M C D₀) s5.heap s'.heap | .error e => cameBackBy (model prog w) A (cenvOf scope env C) NoE e s') s7 := by
        refine loop_turns (f := g d) (act := (do let _ ← PySem.call (.builtin "list.append") [.ref D₀, ← eval elt (cenvOf scope env C)])) (p := iter2.pos) (tgt := tgt2) (ifs := ifs2) (out := out) rfl ?_ rfl rm J2 f02 nof2.1 nof2.2.1 nof2.2.2.1 nof2.2.2.2 C7 hle ?_ ?_
        · intro s' Q E hw
          show wpAny _ A ((compTurn (.ListComp elt [⟨tgt, iter, [], 0⟩, ⟨tgt2, iter2, ifs2, 0⟩] scope p) 1 (.ref I2) (.ref D₀) (cenvOf scope env C)).onRaise (fun x => do noteFrame x (cenvOf scope env C); theTreesLotGoes x)) _ _ s'
          refine wpAny_noted ?_
          rw [compTurn_two1]
          exact wpAny_mono hw (fun _ _ x => x) fun _ _ f => f.elim
        · intro d' v' s8 out' hd' C8 rv' hle'
          exact emit_turn rm O S1 F1 hDC hlive (hasg2 d' hd' C) (hbs2 d hd d' hd') (fun W h'' a b c => hitem d hd d' hd' W h'' C a b c) C8 rv' hle'
        · intro s' C' hx
          refine ⟨⟨C'.kp, C'.sc, C'.fm.sub fun x e q => by rw [List.lookup_append, hbs d hd x e q]; exact q, C'.wD, C'.fresh, C'.acc⟩, fun b o nb q => ?_⟩
          have q6 := k6.heap _ _ (eW b o nb q)
          exact hx b o (fun z => by rw [z, J2.fresh] at q6; cases q6) nb (k7.heap _ _ q6)
      have hself : wpAny (model prog w) A (pyIter (.ref I2)) (fun it' s' => codeAny (model prog w) A (.compLoop (.ListComp elt [⟨tgt, iter, [], 0⟩, ⟨tgt2, iter2, ifs2, 0⟩] scope p) 1 it' (.ref D₀) (cenvOf scope env C))
          (fun r s' => match r with | .ok _ => CS K s₁ (Wof M C D₀) (cenvOf scope env C) D₀ (out ++ ds2.flatMap (g d)) vmF s' ∧ Ext (Wof M C D₀) s5.heap s'.heap | .error e => cameBackBy (model prog w) A (cenvOf scope env C) NoE e s') s') (fun _ _ => False) s7 := by
        obtain ⟨fp, P, St, T, Wk, st0, _⟩ := J2.ex
        exact Wk.self 0 s7 _ _ st0 hlp
      refine wpAny_bind (wpAny_runOwn ?_)
      rw [Around.mark_none]
      refine codeAny_mono (codeAny_compStart_two1 hlp hself) fun r s' hr => ?_
      cases r with
      | ok f => exact wpAny_pure hr
      | error e => exact hr
  · intro C D₀ s' hDC fC fD C'
    exact hfin s₁ C D₀ s' k1 hDC fC fD C'
end
end Mine
set_option linter.unusedVariables false
namespace Mine
open PySem PySem.W PySem.Calls PyProof.Rows PySem.Spec
section
variable {prog : Program} {w : World} {K : Frag} {W M : Addr → Prop} {h : Heap} {k : Nat} {env : Env} {vm : List (Str × D)} {A : Around} {E : Value → Shared → Prop} {s₀ s : Shared}
noncomputable def Own (env : Env) (a : Addr) : Prop := a = env.locals ∨ ∃ x, env.cells.lookup x = some a
theorem own_sto {x : Str} {a : Addr} (q : Sto env x a) : Own env a := by
  rcases q with ⟨_, rfl⟩ | ⟨_, e⟩
  · exact .inl rfl
  · exact .inr ⟨x, e⟩
structure Run (K : Frag) (s₀ : Shared) (W M : Addr → Prop) (env : Env) (vm : List (Str × D)) (s : Shared) : Prop where
  same : ∃ h t, s = { s₀ with heap := h, toks := t }
  keep : Ext W s₀.heap s.heap
  sc : Sc K M s.heap
  fm : Fm M env vm s.heap
  own : ∀ a, Own env a → s₀.heap.get? a = none
theorem Run.pure {s' : Shared} (R : Run K s₀ W M env vm s) (kp : Kp s s') : Run K s₀ W M env vm s' := by
  obtain ⟨⟨h, t, rfl⟩, a, b, c, d⟩ := R
  obtain ⟨⟨h', t', rfl⟩, k⟩ := kp
  exact ⟨⟨h', t', rfl⟩, a.trans k.ext, b.keep k, c.keep k, d⟩
theorem Run.sub {vm' : List (Str × D)} (R : Run K s₀ W M env vm s) (i : ∀ x d, vm'.lookup x = some d → vm.lookup x = some d) : Run K s₀ W M env vm' s := ⟨R.same, R.keep, R.sc, R.fm.sub i, R.own⟩
theorem Run.frame {vm' : List (Str × D)} {h' : Heap} {tk : Nat} {X : Addr → Prop} (R : Run K s₀ W M env vm s) (F : Fm M env vm' h') (S : Sc K M h') (e : Ext X s.heap h') (hX : ∀ a, X a → Own env a) :
    Run K s₀ W M env vm' { s with heap := h', toks := tk } := by
  obtain ⟨⟨h, t, rfl⟩, a, b, c, d⟩ := R
  refine ⟨⟨h', tk, rfl⟩, fun x o n q => e x o (fun z => ?_) (a x o n q), S, F, d⟩
  rw [d x (hX x z)] at q; cases q
theorem run_store {x : Str} {v : Value} {d : D} {Q : Unit → Shared → Prop} (R : Run K s₀ W M env vm s) (r : Rd M s.heap v d) (hk : KindOk env x)
    (nx : ∀ s', Run K s₀ W M env ((x, d) :: vm) s' → Ext (Own env) s.heap s'.heap → Q () s') : wpAny (model prog w) A (storeName env x v) Q E s :=
  R.fm.store R.sc r hk.1 hk.2 fun h' tk F S e => nx _ (R.frame F S e fun a => own_sto) (e.mono fun a => own_sto)
structure Go {α : Type} (m : Model) (A : Around) (t : Sem α) (Q : α → Shared → Prop) (E : Value → Shared → Prop) (s : Shared) : Prop where
  of ::
  run : wpAny m A t Q E s
theorem run_assign {x : Str} {p pos : Pos} {e : Expr} {rest : List Stmt} {d : D} {Q : Flow → Shared → Prop} (R : Run K s₀ W M env vm s) (rm : Room k A) (pe : PE prog w M s.heap k (eval e env) d) (hk : KindOk env x)
    (hs : swapsWith e (some (.Name x p)) pos.line env = pure false) (nx : ∀ s', Run K s₀ W M env ((x, d) :: vm) s' → Ext (Own env) s.heap s'.heap → Go (model prog w) A (execs rest env) Q E s') :
    Go (model prog w) A (execs (.Assign [.Name x p] e pos :: rest) env) Q E s := by
  refine .of (wpAny_execs_cons (wpAny_Assign_Name (pe.use rm (Keep.refl _) fun v s1 k1 r1 => ?_) hs))
  exact run_store (R.pure k1) r1 hk fun s' R' e' => (nx s' R' (k1.heap.ext.trans e')).run
theorem run_assign2 {x y : Str} {p p' q pos : Pos} {n : Nat} {e : Expr} {rest : List Stmt} {d d' : D} {Q : Flow → Shared → Prop} (R : Run K s₀ W M env vm s) (rm : Room k A) (pe : PE prog w M s.heap k (eval e env) (.tup [d, d'])) (hx : KindOk env x) (hy : KindOk env y)
    (hs : swapsWith e (some (.Tuple [.Name x p, .Name y p'] n q)) pos.line env = pure false) (hsw : swappedStores [.Tuple [.Name x p, .Name y p'] n q] e env = pure none)
    (nx : ∀ s', Run K s₀ W M env ((y, d') :: (x, d) :: vm) s' → Ext (Own env) s.heap s'.heap → Go (model prog w) A (execs rest env) Q E s') :
    Go (model prog w) A (execs (.Assign [.Tuple [.Name x p, .Name y p'] n q] e pos :: rest) env) Q E s := by
  refine .of (wpAny_execs_cons ?_)
  show wpAny _ _ (do
    standAt pos
    if ← swapsWith e (some (.Tuple [.Name x p, .Name y p'] n q)) pos.line env then do
      evalThenUse e env fun v => assignAll v ((assignEach [.Tuple [.Name x p, .Name y p'] n q] env).map (·.2))
      pure .next
    else do
      let v ← eval e env
      assignStores env v (← swappedStores [.Tuple [.Name x p, .Name y p'] n q] e env) ((assignEach [.Tuple [.Name x p, .Name y p'] n q] env).map (·.2))) _ _ _
  refine wpAny_bind (wpAny_standAt (wpAny_bind (wpAny_of_eq hs ?_)))
  rw [if_neg Bool.false_ne_true]
  refine wpAny_bind (pe.use rm (Keep.refl _) fun v s1 k1 r1 => wpAny_bind (wpAny_of_eq hsw ?_))
  unfold assignStores
  have R1 := R.pure k1
  refine wpAny_bind ?_
  show wpAny _ _ (assign (.Tuple [.Name x p, .Name y p'] n q) env v) _ _ _
  refine (Asg.pair (prog := prog) (w := w) (k := k) (K := K) (X := Own env) hx hy (fun a z => z.elim own_sto own_sto)).go M vm A E s1 _ v rm R1.fm R1.sc r1 fun h' tk F S e' => wpAny_pure ?_
  exact (nx _ (R1.frame F S e' fun a => id) (k1.heap.ext.trans e')).run
theorem run_ret {pos : Pos} {e : Expr} {rest : List Stmt} {d : D} {Q : Flow → Shared → Prop} (rm : Room k A) (pe : PE prog w M s.heap k (eval e env) d)
    (q : ∀ v s', Kp s s' → Rd M s'.heap v d → Q (.ret v) s') : Go (model prog w) A (execs (.Return (some e) pos :: rest) env) Q E s := by
  refine .of (wpAny_execs_cons ?_)
  rw [exec_Return_some]
  exact wpAny_bind (wpAny_standAt (wpAny_bind (pe.use rm (Keep.refl _) fun v s1 k1 r1 => wpAny_pure (q v s1 k1 r1))))
noncomputable def Then (m : Model) (A : Around) (rest : List Stmt) (env : Env) (Q : Flow → Shared → Prop) (E : Value → Shared → Prop) (f : Flow) (s' : Shared) : Prop := match f with | .next => Go m A (execs rest env) Q E s' | f => Q f s'
theorem then_run {m : Model} {rest : List Stmt} {st : Sem Flow} {Q : Flow → Shared → Prop} (h : wpAny m A st (Then m A rest env Q E) E s) :
    wpAny m A st (fun f s' => match f with | .next => wpAny m A (execs rest env) Q E s' | f => Q f s') E s :=
  wpAny_mono h (fun f s' q => by cases f with | next => exact Go.run q | _ => exact q) fun _ _ x => x
theorem run_end {Q : Flow → Shared → Prop} {m : Model} (q : Q .next s) : Go m A (execs [] env) Q E s := .of (wpAny_execs_nil q)
theorem run_if {pos : Pos} {t : Expr} {body orelse rest : List Stmt} {c : Bool} {Q : Flow → Shared → Prop} (rm : Room k A) (pb : PB prog w s.heap k (isTrue t env (eval t env)) c)
    (h1 : c = true → ∀ s', Kp s s' → Go (model prog w) A (execs body env) (Then (model prog w) A rest env Q E) E s')
    (h2 : c = false → ∀ s', Kp s s' → Go (model prog w) A (execs orelse env) (Then (model prog w) A rest env Q E) E s') :
    Go (model prog w) A (execs (.If t body orelse pos :: rest) env) Q E s := by
  refine .of (wpAny_execs_cons (then_run (wpAny_If (pb.use rm (Keep.refl _) fun s1 k1 => ?_))))
  cases c with
  | true => exact (h1 rfl s1 k1).run
  | false => exact (h2 rfl s1 k1).run
end
end Mine
set_option linter.unusedVariables false
namespace Mine
open PySem PySem.W PySem.Calls PyProof.Rows PySem.Spec
section
variable {prog : Program} {w : World} {K : Frag} {M : Addr → Prop} {h : Heap} {k : Nat} {env : Env} {vm : List (Str × D)} {A : Around} {E : Value → Shared → Prop} {s : Shared}
structure FnP (prog : Program) (w : World) (K : Frag) (f : Addr) (as : List D) (ks : List (Str × D)) (d : D) (k : Nat) : Prop where
  mk ::
  go : ∀ (M : Addr → Prop) (A : Around) (s : Shared) (vs us : List Value), Room k A → Sc K M s.heap → RdL M s.heap vs as → RdL M s.heap us (ks.map (·.2)) →
    codeAny (model prog w) A (.call (.ref f) ⟨vs, (ks.map (·.1)).zip us⟩) (fun r s' => ∃ v, r = .ok (.ret v) ∧ Kp s s' ∧ Rd M s'.heap v d) s
theorem FnP.opN {f : Addr} {as : List D} {ks : List (Str × D)} {d : D} {j : Nat} (F : FnP prog w K f as ks d j) (S : Sc K M h) (l : j ≤ k := by decide) : OpN prog w M h k (.ref f) as ks d := by
  refine .of ?_
  intro A s vs us rm kp r1 r2
  refine wpAny_call (codeAny_mono (F.go M A s vs us (rm.mono l) (S.keep kp) r1 r2) fun r s' q => ?_)
  obtain ⟨v, rfl, k1, rv⟩ := q
  exact ⟨k1, rv⟩
theorem bindL_look {kindOf : Str → Option NameKind} : ∀ {binds : List (Str × Value)} {m : Str → Option Value} {x : Str} {v : Value}, (binds.map (·.1)).Nodup → kindOf x = some .local → binds.lookup x = some v → bindL kindOf binds m x = some v
  | [], _, _, _, _, _, e => by cases e
  | (n, u) :: r, m, x, v, nd, hk, e => by
    rw [List.map_cons, List.nodup_cons] at nd
    unfold bindL
    rw [List.lookup_cons] at e
    split at e
    · rename_i hx
      have hx' : x = n := by simpa using hx
      subst hx'
      cases e
      rw [if_pos hk]
      have : ∀ (l : List (Str × Value)) (m' : Str → Option Value), x ∉ l.map (·.1) → m' x = some u → bindL kindOf l m' x = some u := by
        intro l
        induction l with
        | nil => intro m' _ hm; exact hm
        | cons p r ih =>
          intro m' hn hm
          obtain ⟨n', v'⟩ := p
          rw [List.map_cons, List.mem_cons, not_or] at hn
          unfold bindL
          refine ih _ hn.2 ?_
          split
          · show (if x = n' then some v' else m' x) = some u
            rw [if_neg hn.1]; exact hm
          · exact hm
      exact this r _ nd.1 (by simp)
    · exact bindL_look nd.2 hk e
theorem bindC_look {kindOf : Str → Option NameKind} : ∀ {binds : List (Str × Value)} {m : Str → Option Value} {x : Str} {v : Value}, (binds.map (·.1)).Nodup → kindOf x ≠ some .local → binds.lookup x = some v → bindC kindOf binds m x = some v
  | [], _, _, _, _, _, e => by cases e
  | (n, u) :: r, m, x, v, nd, hk, e => by
    rw [List.map_cons, List.nodup_cons] at nd
    unfold bindC
    rw [List.lookup_cons] at e
    split at e
    · rename_i hx
      have hx' : x = n := by simpa using hx
      subst hx'
      cases e
      rw [if_neg hk]
      have : ∀ (l : List (Str × Value)) (m' : Str → Option Value), x ∉ l.map (·.1) → m' x = some u → bindC kindOf l m' x = some u := by
        intro l
        induction l with
        | nil => intro m' _ hm; exact hm
        | cons p r ih =>
          intro m' hn hm
          obtain ⟨n', v'⟩ := p
          rw [List.map_cons, List.mem_cons, not_or] at hn
          unfold bindC
          refine ih _ hn.2 ?_
          split
          · exact hm
          · show (if x = n' then some v' else m' x) = some u
            rw [if_neg hn.1]; exact hm
      exact this r _ nd.1 (by simp)
    · exact bindC_look nd.2 hk e
theorem cellsFrom_kind : ∀ (names : List (Str × NameKind)) (n : Nat) (acc : List (Str × Addr)) (x : Str) (c : Addr), (x, c) ∈ cellsFrom n names acc → (x, c) ∈ acc ∨ (x, NameKind.cell) ∈ names
  | [], _, _, _, _, e => .inl e
  | (y, kd) :: r, n, acc, x, c, e => by
    unfold cellsFrom at e
    split at e
    · rename_i hk
      rcases cellsFrom_kind r _ _ x c e with q | q
      · rcases List.mem_cons.mp q with q | q
        · have : x = y := congrArg Prod.fst q
          have hk' : kd = NameKind.cell := by simpa using hk
          subst this; subst hk'
          exact .inr (.head _)
        · exact .inl q
      · exact .inr (.tail _ q)
    · rcases cellsFrom_kind r _ _ x c e with q | q
      · exact .inl q
      · exact .inr (.tail _ q)
theorem nodup_lookup {α : Type} : ∀ {l : List (Str × α)} {x : Str} {a : α}, (l.map (·.1)).Nodup → (x, a) ∈ l → l.lookup x = some a
  | (y, b) :: r, x, a, nd, hm => by
    rw [List.map_cons, List.nodup_cons] at nd
    rcases List.mem_cons.mp hm with e | e
    · cases e; rw [List.lookup_cons, beq_self_eq_true]
    · have : x ≠ y := fun z => nd.1 (z ▸ List.mem_map.mpr ⟨_, e, rfl⟩)
      rw [List.lookup_cons, beq_eq_false_iff_ne.mpr this]
      exact nodup_lookup nd.2 e
theorem zip_look {M : Addr → Prop} {h : Heap} : ∀ {ns : List Str} {vs : List Value} {ds : List D} {x : Str} {d : D}, RdL M h vs ds → (ns.zip ds).lookup x = some d → ∃ v, (ns.zip vs).lookup x = some v ∧ Rd M h v d
  | [], _, _, _, _, _, e => by cases e
  | n :: ns, _, _, x, d, .nil, e => by cases e
  | n :: ns, v :: vs, d' :: ds, x, d, .cons r rr, e => by
    rw [List.zip_cons_cons, List.lookup_cons] at e ⊢
    split at e
    · cases e; exact ⟨v, rfl, r⟩
    · exact zip_look rr e
noncomputable def Mof (M : Addr → Prop) (env : Env) : Addr → Prop := fun a => M a ∨ Own env a
noncomputable abbrev envAt (fd : FuncData) (L f : Addr) : Env := callEnvC fd L f
structure FnOk (fd : FuncData) (names : List Str) : Prop where
  co : fd.scope.isCoroutine = false
  gen : fd.scope.isGenerator = false
  kind : fd.scope.kind = .function
  clo : fd.closure = []
  nd : (fd.scope.names.map (·.1)).Nodup
  nnd : names.Nodup
  kinds : ∀ x ∈ names, fd.scope.names.lookup x = some .local ∨ fd.scope.names.lookup x = some .cell
  nocd : ∀ x ∈ names, (x == ("__classdict__" : Str)) = false
theorem fn_enter {f : Addr} {fd : FuncData} {body : List Stmt} {oc : Value} {od : Option Addr} {osl : Array (Option Value)} {args : Args} {names : List Str} {bvs : List Value} {bds : List D} {R : Result → Shared → Prop}
    (rm : Room (k + 1) A) (S : Sc K M s.heap) (ho : K.lookup f = some ⟨oc, od, .func fd, osl⟩) (hbody : fd.body = .stmts body) (hcd : codeIn K fd.code fd.qualname = true) (O : FnOk fd names)
    (hbind : BindsTo s fd args (names.zip bvs)) (hr : RdL M s.heap bvs bds) (hlen : names.length = bds.length)
    (nx : ∀ L s₁, Run K s (fun _ => False) (Mof M (envAt fd L f)) (envAt fd L f) (names.zip bds) s₁ → (∀ a, Own (envAt fd L f) a → s.heap.get? a = none) →
      wpAny (model prog w) (A.deeper (envAt fd L f)) (execs body (envAt fd L f)) (fun fl s' => R (.ok (.ret (match fl with | .ret v => v | _ => .none))) s') NoE s₁) :
    codeAny (model prog w) A (.call (.ref f) args) R s := by
  have hz : (names.zip bvs).map (·.1) = names := by
    rw [List.map_fst_zip]
    rw [hlen, hr.length]; exact Nat.le_refl _
  refine codeAny_call_function rm.lim (S.inn _ _ ho) rfl O.co O.gen hbody (codeRec_of S.inn hcd) (hbind _ _ _ _ ?_)
  rw [O.clo]
  have hcells : ∀ n x, x ∈ names → fd.scope.names.lookup x = some .cell → ((cellsFrom n fd.scope.names []).lookup x).isSome = true := fun n x _ e => cellsFrom_some _ _ _ (.inl e)
  refine wpAny_newFunctionEnv_cells O.kind (fun x hx => ?_) fun env' he s' x => ?_
  · have hn : x.1 ∈ names := hz ▸ List.mem_map_of_mem hx
    exact (O.kinds _ hn).imp id fun e => ⟨e, hcells _ _ hn e⟩
  · subst he
    refine ⟨S.lim.keeps x.toInCall.keep, codeAny_func ?_⟩
    refine wpAny_mono (nx s.heap.objs.size s' ?_ ?_) (fun _ _ q => q) fun _ _ q => q.elim
    · obtain ⟨h₁, tk, rfl, _⟩ := x.done
      have hk₁ : Keep s.heap h₁ := x.toInCall.keep
      have hL : (s.heap.get? s.heap.objs.size) = none := get_size _
      have hnone : ∀ a, s.heap.objs.size ≤ a → s.heap.get? a = none := fun a ha => Heap.get?_none_of_le ha
      have hown : ∀ a, Own (envAt fd s.heap.objs.size f) a → s.heap.objs.size ≤ a ∧ (h₁.get? a).isSome = true := by
        rintro a (rfl | ⟨n, e⟩)
        · refine ⟨Nat.le_refl _, ?_⟩
          obtain ⟨o, _, _, ho, _⟩ := x.toInCall.ns
          show (h₁.get? s.heap.objs.size).isSome = true
          have : h₁.get? s.heap.objs.size = some o := ho
          rw [this]; rfl
        · refine ⟨Nat.le_of_lt (x.above n a (mem_of_lookup e)), ?_⟩
          obtain ⟨o, ho, _⟩ := x.cell n a e
          have : h₁.get? a = some o := ho
          rw [this]; rfl
      refine ⟨⟨h₁, tk, rfl⟩, hk₁.ext, ?_, ?_, fun a ha => hnone a (hown a ha).1⟩
      · have S1 := S.keep hk₁
        refine ⟨S1.inn, S1.bns, S1.lim, S1.dig, fun a m => ?_, fun a m => ?_, fun m => ?_, fun m => ?_⟩
        · exact m.elim (S1.alive a) fun o => (hown a o).2
        · exact m.elim (S1.offK a) fun o => (S.newOff (hnone a (hown a o).1)).2.1
        · exact m.elim S1.offB fun o => (S.newOff (hnone _ (hown _ o).1)).2.2.1 rfl
        · exact m.elim S1.offS fun o => (S.newOff (hnone _ (hown _ o).1)).2.2.2 rfl
      · have hsw : ∀ a, (s.heap.get? a).isSome = true → ¬ M a → ¬ Mof M (envAt fd s.heap.objs.size f) a := fun a ha hm hM => hM.elim hm fun o => by
          rw [hnone a (hown a o).1] at ha; cases ha
        have hr' : RdL (Mof M (envAt fd s.heap.objs.size f)) h₁ bvs bds := (hr.swap hsw).keep hk₁
        have hzn : ((names.zip bvs).map (·.1)).Nodup := by rw [hz]; exact O.nnd
        refine ⟨O.kind, .inr (.inl rfl), fun y c e => .inr (.inr ⟨y, e⟩), ⟨_, x.toInCall.ns, fun y d hk e => ?_⟩, fun y c e => ⟨_, x.cell y c e, fun d q => ?_⟩, fun y c e => ?_, fun y z c a b => ?_, fun y d e => ?_⟩
        · obtain ⟨v, hv, rv⟩ := zip_look hr' e
          exact ⟨v, bindL_look hzn hk hv, rv⟩
        · obtain ⟨v, hv, rv⟩ := zip_look hr' q
          refine ⟨v, bindC_look hzn ?_ hv, rv⟩
          intro hk
          have := (cellsFrom_kind _ _ _ y c (mem_of_lookup e)).resolve_left (fun z => nomatch z)
          have h2 := nodup_lookup O.nd this
          have hk' : fd.scope.names.lookup y = some NameKind.local := hk
          rw [h2] at hk'; cases hk'
        · intro hk
          have := (cellsFrom_kind _ _ _ y c (mem_of_lookup e)).resolve_left (fun z => nomatch z)
          have h2 := nodup_lookup O.nd this
          have hk' : fd.scope.names.lookup y = some NameKind.local := hk
          rw [h2] at hk'; cases hk'
        · exact name_of_addr x.apart (mem_of_lookup a) (mem_of_lookup b)
        · have hy : y ∈ names := by
            have := mem_of_lookup e
            exact (List.of_mem_zip this).1
          refine ⟨?_, O.nocd y hy⟩
          rcases O.kinds y hy with q | q
          · exact .inl q
          · exact .inr ⟨.inl q, hcells _ _ hy q⟩
    · rintro a (rfl | ⟨n, e⟩)
      · exact get_size _
      · exact Heap.get?_none_of_le (Nat.le_of_lt (x.above n a (mem_of_lookup e)))
theorem FnP.of {f : Addr} {fd : FuncData} {body : List Stmt} {oc : Value} {od : Option Addr} {osl : Array (Option Value)} {names : List Str} {as bds : List D} {ks : List (Str × D)} {d : D}
    (ho : K.lookup f = some ⟨oc, od, .func fd, osl⟩) (hbody : fd.body = .stmts body) (hcd : codeIn K fd.code fd.qualname = true) (O : FnOk fd names)
    (hbind : ∀ (M : Addr → Prop) (s : Shared) (vs us : List Value), Sc K M s.heap → RdL M s.heap vs as → RdL M s.heap us (ks.map (·.2)) → ∃ bvs, BindsTo s fd ⟨vs, (ks.map (·.1)).zip us⟩ (names.zip bvs) ∧ RdL M s.heap bvs bds) (hlen : names.length = bds.length)
    (nx : ∀ M L A s s₁, Room k A → Sc K M s.heap → Run K s (fun _ => False) (Mof M (envAt fd L f)) (envAt fd L f) (names.zip bds) s₁ →
      Go (model prog w) A (execs body (envAt fd L f)) (fun fl s' => Run K s (fun _ => False) (Mof M (envAt fd L f)) (envAt fd L f) [] s' ∧ Rd (Mof M (envAt fd L f)) s'.heap (match fl with | .ret v => v | _ => .none) d) NoE s₁) :
    FnP prog w K f as ks d (k + 1) := by
  refine .mk ?_
  intro M A s vs us rm S r1 r2
  obtain ⟨bvs, hb, hr⟩ := hbind M s vs us S r1 r2
  refine fn_enter (k := k) rm S ho hbody hcd O hb hr hlen fun L s₁ R _ => ?_
  refine wpAny_mono (nx M L _ s s₁ (rm.deeper _) S R).run (fun fl s' q => ?_) fun _ _ x => x
  obtain ⟨R', r⟩ := q
  exact ⟨_, rfl, ⟨R'.same, fun b o e => R'.keep b o (fun z => z) e⟩, r.swap fun a _ hm hM => hm (.inl hM)⟩
end
end Mine
set_option linter.unusedVariables false
namespace Mine
open PySem PySem.W PySem.Calls PyProof.Rows PySem.Spec
section
variable {prog : Program} {w : World} {K : Frag} {M : Addr → Prop} {h : Heap} {k : Nat} {env : Env} {vm : List (Str × D)}
theorem Op2.add_int {a b : Int} : Op2 prog w M h k (binaryOp .Add) (.int a) (.int b) (.int (a + b)) := .of fun A s u v _ _ r1 r2 => by
  cases r1 using Rd.intE0; cases r2 using Rd.intE0; exact wpAny_add_int ⟨Kp.tok s _, .int _ _⟩
theorem Op2.sub_int {a b : Int} : Op2 prog w M h k (binaryOp .Sub) (.int a) (.int b) (.int (a - b)) := .of fun A s u v _ _ r1 r2 => by
  cases r1 using Rd.intE0; cases r2 using Rd.intE0; exact P.sub_int ⟨Kp.tok s _, .int _ _⟩
theorem Op2.mod_int {a b : Int} (hb : 0 < b) : Op2 prog w M h k (binaryOp .Mod) (.int a) (.int b) (.int (a % b)) := .of fun A s u v _ _ r1 r2 => by
  cases r1 using Rd.intE0; cases r2 using Rd.intE0
  refine PyProof.Rows.mod_int (by lia) ⟨Kp.tok s _, ?_⟩
  rw [Int.fmod_eq_emod_of_nonneg _ (by lia)]; exact .int _ _
theorem Op2.div_int {a b : Int} (hb : 0 < b) (hs : b.natAbs.log2 < 9000) : Op2 prog w M h k (binaryOp .FloorDiv) (.int a) (.int b) (.int (a / b)) := .of fun A s u v _ _ r1 r2 => by
  cases r1 using Rd.intE0; cases r2 using Rd.intE0
  refine AutoIntOps.floordiv_1 (by simp; lia) (by rw [PyProof.noPylong_of_log2 hs]; exact Bool.false_ne_true) ?_
  refine ⟨Kp.tok s _, ?_⟩
  rw [Int.fdiv_eq_ediv_of_nonneg _ (by lia)]; exact .int _ _
theorem Op2.pow_int {a b : Int} (ha : 2 ≤ a) (ha' : a < 1024) (hb : 0 ≤ b) (hb' : b ≤ 1000) : Op2 prog w M h k (binaryOp .Pow) (.int a) (.int b) (.int (a ^ b.toNat)) := .of fun A s u v _ _ r1 r2 => by
  cases r1 using Rd.intE0; cases r2 using Rd.intE0
  by_cases z : b = 0
  · subst z
    refine AutoIntOps.pow_0 (by omega) (by rfl) ⟨Kp.tok s _, ?_⟩
    show Rd M _ _ (.int (a ^ 0))
    rw [Int.pow_zero]; exact .int _ _
  · refine AutoIntOps.pow_4 (by omega) (by simp [z]) (by simp; lia) (by simp; lia) ?_ ⟨Kp.tok s _, .int _ _⟩
    have hbits : Builtin.Int.intBits a ≤ 11 := by
      unfold Builtin.Int.intBits
      have : a.natAbs.log2 < 10 := (Nat.log2_lt (by lia)).mpr (by omega)
      split <;> lia
    unfold Builtin.Int.intTooBig
    have hm : ((Builtin.Int.intBits a : Nat) : Int) * b ≤ 11 * 1000 := Int.mul_le_mul (by lia) hb' hb (by decide)
    simp only [gt_iff_lt, decide_eq_true_eq, Int.not_lt]
    exact Int.le_trans hm (by decide)
theorem Op2.lt_int {a b : Int} : Op2 prog w M h k (compareOp .Lt) (.int a) (.int b) (.bool (decide (a < b))) := .of fun A s u v _ _ r1 r2 => by
  cases r1 using Rd.intE0; cases r2 using Rd.intE0; exact P.lt_int ⟨Kp.refl s, .bool _⟩
theorem Op2.le_int {a b : Int} : Op2 prog w M h k (compareOp .LtE) (.int a) (.int b) (.bool (decide (a ≤ b))) := .of fun A s u v _ _ r1 r2 => by
  cases r1 using Rd.intE0; cases r2 using Rd.intE0; exact P.le_int ⟨Kp.refl s, .bool _⟩
theorem Op2.ge_int {a b : Int} : Op2 prog w M h k (compareOp .GtE) (.int a) (.int b) (.bool (decide (a ≥ b))) := .of fun A s u v _ _ r1 r2 => by
  cases r1 using Rd.intE0; cases r2 using Rd.intE0; exact P.ge_int ⟨Kp.refl s, .bool _⟩
theorem Op2.eq_int {a b : Int} : Op2 prog w M h k (compareOp .Eq) (.int a) (.int b) (.bool (a == b)) := .of fun A s u v _ _ r1 r2 => by
  cases r1 using Rd.intE0; cases r2 using Rd.intE0; exact P.eq_int ⟨Kp.refl s, .bool _⟩
theorem Op2.ne_int {a b : Int} : Op2 prog w M h k (compareOp .NotEq) (.int a) (.int b) (.bool (a != b)) := .of fun A s u v _ _ r1 r2 => by
  cases r1 using Rd.intE0; cases r2 using Rd.intE0; exact P.ne_int ⟨Kp.refl s, .bool _⟩
theorem Op1.neg_int {a : Int} : Op1 prog w M h k (unaryOp .USub) (.int a) (.int (-a)) := .of fun A s u _ _ r1 => by
  cases r1 using Rd.intE0; exact P.neg_int ⟨Kp.tok s _, .int _ _⟩
noncomputable def Ln (x : Str) (n : Nat) : Prop := x.length ≤ n
theorem Ln.lit {x : Str} : Ln x x.length := Nat.le_refl _
theorem Ln.app {x y : Str} {a b : Nat} (h1 : Ln x a) (h2 : Ln y b) : Ln (x ++ y) (a + b) := by
  unfold Ln at *
  rw [Str.length_append]; lia
theorem Ln.sign {c : Nat} : Ln ⟨#[c]⟩ 1 := Nat.le_refl _
theorem Op2.add_str {x y : Str} {a b : Nat} (h1 : Ln x a) (h2 : Ln y b) (hz : Nat.ble (a + b) 16777216 = true) : Op2 prog w M h k (binaryOp .Add) (.str x) (.str y) (.str (x ++ y)) := .of fun A s u v _ _ r1 r2 => by
  have h3 := Nat.le_of_ble_eq_true hz
  cases r1 using Rd.strE0; cases r2 using Rd.strE0; exact SB.add (fun t' k => ⟨Kp.tok s _, .str _ _⟩) (by rw [sizeLine_eq]; unfold Ln at *; lia)
theorem Op2.ne_str {x y : Str} : Op2 prog w M h k (compareOp .NotEq) (.str x) (.str y) (.bool (x != y)) := .of fun A s u v _ _ r1 r2 => by
  cases r1 using Rd.strE0; cases r2 using Rd.strE0; exact PyProof.Rows.ne_str ⟨Kp.refl s, .bool _⟩
theorem Op2.in_str {x y : Str} : Op2 prog w M h k (compareOp .In) (.str y) (.str x) (.bool (Txt.contains x y)) := .of fun A s u v _ _ r1 r2 => by
  cases r1 using Rd.strE0; cases r2 using Rd.strE0; exact SB.contains ⟨Kp.refl s, .bool _⟩
theorem Op2.mul_str {x : Str} {n : Int} {m : Nat} (hm : Ln x m) (hx' : Nat.ble m 1000 = true) (hn : 2 ≤ n) (hn' : n ≤ 1000) : Op2 prog w M h k (binaryOp .Mult) (.str x) (.int n) (.str (Txt.mul x n)) := .of fun A s u v _ _ r1 r2 => by
  have hx' := Nat.le_of_ble_eq_true hx'
  have hx'' : x.length ≤ 1000 := Nat.le_trans hm hx'
  cases r1 using Rd.strE0; cases r2 using Rd.intE0
  refine SB.mul ⟨?_, fun _ _ => ?_, fun _ _ => ?_⟩ fun t' k => ⟨Kp.tok s _, .str _ _⟩
  · simp; lia
  · intro hgt
    have h1 : (1000 : Int) ≤ (2 ^ 63 - 1) / n := Int.le_ediv_of_mul_le (by lia) (by lia)
    lia
  · have h1 : x.length * n.toNat ≤ 1000 * 1000 := Nat.mul_le_mul hx'' (by lia)
    unfold Builtin.Str.tooLong
    rw [sizeLine_eq]
    simp; lia
theorem PE.sub {value slice : Expr} {pos : Pos} {a b d : D} (hv : PE prog w M h k (eval value env) a) (hs : PE prog w M h k (eval slice env) b) (ho : Op2 prog w M h k (subscriptTail value slice) a b d) :
    PE prog w M h k (eval (.Subscript value slice pos) env) d := by
  refine .of ?_
  intro A s rm kp
  refine Subscript_ (hv.use rm kp fun u s1 k1 r1 => hs.use rm (kp.trans k1.heap) fun v s2 k2 r2 => ?_)
  exact Gv.step (k1.trans k2) (ho.go A s2 u v rm ((kp.trans k1.heap).trans k2.heap) (r1.keep k2.heap) r2)
noncomputable def NoSlice : Expr → Bool
  | .Slice .. => false
  | _ => true
theorem subscripted_plain {slice : Expr} {o i : Value} (h : NoSlice slice = true) : subscripted slice false o i = operate [o, i] (getItem o i) := by
  unfold subscripted
  cases slice <;> first | rfl | cases h
theorem letGo_plain {value : Expr} {o r : Value} (ho : ∀ a, o ≠ .ref a) : letTemporaryGo value o r = pure () := by
  cases o with
  | ref a => exact absurd rfl (ho a)
  | _ => cases value <;> rfl
noncomputable def IsName : Expr → Bool
  | .Name .. => true
  | _ => false
theorem letGo_name {value : Expr} {o r : Value} (h : IsName value = true) : letTemporaryGo value o r = pure () := by
  cases value with
  | Name => rfl
  | _ => cases h
theorem Op2.item_str {value slice : Expr} {x : Str} {i : Int} {c : Nat} (hs : NoSlice slice = true) (h0 : -(2^62) ≤ i) (h1 : i < 2^62) (hc : Txt.charAt x i = some c) :
    Op2 prog w M h k (subscriptTail value slice) (.str x) (.int i) (.str ⟨#[c]⟩) := .of fun A s u v _ _ r1 r2 => by
  cases r1 using Rd.strE0; cases r2 using Rd.intE0
  refine subscriptTail_builtin (typeIs_str _ _ _) F.slot_str_getitem.lookup (SB.getItem ?_ (by rw [hc]; rfl) ⟨Kp.tok s _, ?_⟩) (subscripted_plain hs) (fun r => letGo_plain fun a e => nomatch e)
  · unfold fitsSsize; simp; lia
  · unfold Txt.item; rw [hc]; exact .str _ _
theorem charAt_in {x : Str} {i : Int} (h0 : 0 ≤ i) (h1 : i < x.length) : Txt.charAt x i = some (x.cps.getD i.toNat 0) := by
  unfold Txt.charAt
  have hn : ¬ i < 0 := by lia
  have hl : i.toNat < x.cps.size := by have : x.length = x.cps.size := rfl; lia
  unfold seqIndex?
  dsimp only
  rw [if_neg hn, if_pos (by simp; lia)]
  show x.cps[i.toNat]? = _
  rw [Array.getElem?_eq_getElem hl]
  simp [Array.getD, hl]
theorem Op2.item_mod {value slice : Expr} {x : Str} {e m : Int} (hs : NoSlice slice = true) (hm : 0 < m) (hx : m ≤ x.length) (hb : m ≤ 1000) :
    Op2 prog w M h k (subscriptTail value slice) (.str x) (.int (e % m)) (.str ⟨#[x.cps.getD (e % m).toNat 0]⟩) := by
  have h0 := Int.emod_nonneg e (show m ≠ 0 by lia)
  have h1 := Int.emod_lt_of_pos e hm
  exact Op2.item_str hs (by lia) (by lia) (charAt_in h0 (by lia))
theorem OpN.str_int {i : Int} (hi : i.natAbs.log2 < 1920) : OpN prog w M h k (.type "str") [.int i] [] (.str (toString i)) := .of fun A s vs us _ _ r1 r2 => by
  cases r2 using RdL.nilE
  cases r1 using RdL.consE with
  | cons r r' =>
    cases r' using RdL.nilE
    cases r using Rd.intE0
    exact P.str_of_int hi ⟨Kp.tok s _, .str _ _⟩
end
end Mine
set_option linter.unusedVariables false
namespace Mine
open PySem PySem.W PySem.Calls PyProof.Rows PySem.Spec
section
variable {prog : Program} {w : World} {K : Frag} {M : Addr → Prop} {h : Heap} {k : Nat} {env : Env} {vm : List (Str × D)}
theorem EnvOk.comp {scope : Scope} {C : Addr} (O : EnvOk env) (h1 : scope.kind = .function) : EnvOk (cenvOf scope env C) := ⟨h1, O.globals, O.builtins⟩
theorem load_global {x : Str} (O : EnvOk env) (hx : env.kindOf x = some .globalImplicit) {M' : Model} {A : Around} {E : Value → Shared → Prop} {s : Shared} {Q : Value → Shared → Prop} (q : wpAny M' A (loadGlobal env x) Q E s) :
    wpAny M' A (loadName env x) Q E s := by
  unfold loadName
  simp only [Env.blockKind, O.kind, hx, ScopeKind.isAnnotationScope, Bool.false_and, Bool.false_eq_true, if_false]
  exact q
theorem glob_of {x : Str} {v : Value} (O : EnvOk env) (S : Sc K M h) (e : nsIn K mainGlobals x = some (some v)) (hx : env.kindOf x = some .globalImplicit) : Looks (model prog w) h (loadName env x) v := by
  intro A Q E s kp q
  refine load_global O hx ?_
  unfold loadGlobal
  rw [O.globals]
  exact wpAny_bind (looks_nsIn S.inn e A _ _ s kp (wpAny_pure q))
theorem glob_bi {x : Str} {v : Value} (O : EnvOk env) (S : Sc K M h) (e : nsIn K mainGlobals x = some none) (hv : bootBuiltins x = some v) (hn : x ≠ "__name__") (hx : env.kindOf x = some .globalImplicit) : Looks (model prog w) h (loadName env x) v := by
  intro A Q E s kp q
  refine load_global O hx ?_
  unfold loadGlobal
  rw [O.globals, O.builtins]
  obtain ⟨mb, hb, hm⟩ := S.bns
  refine wpAny_bind (looks_nsIn S.inn e A _ _ s kp ?_)
  refine wpAny_bind (wpAny_nsGet (hb.keeps kp) ?_)
  rw [hm x hn, hv]
  exact wpAny_pure q
theorem keep_bi {id : String} : Looks (model prog w) h (keeperOf (.builtin id)) .machine := Looks.of_pure rfl
theorem keep_ty {n : String} : Looks (model prog w) h (keeperOf (.type n)) .machine := Looks.of_pure rfl
theorem keep_fn {a : Addr} {oc : Value} {od : Option Addr} {fd : FuncData} {osl : Array (Option Value)} (S : Sc K M h) (e : K.lookup a = some ⟨oc, od, .func fd, osl⟩) : Looks (model prog w) h (keeperOf (.ref a)) .frame := by
  intro A Q E s kp q
  unfold keeperOf
  exact wpAny_bind (wpAny_load (kp _ _ (S.inn _ _ e)) (wpAny_pure q))
structure EnvIs (env : Env) (sc : Scope) : Prop where
  scope : env.scope = sc
  globals : env.globals = mainGlobals
  builtins : env.builtins = builtinsNs
  cells : ∀ x, sc.names.lookup x = some .cell → (env.cells.lookup x).isSome = true
theorem EnvIs.ok {sc : Scope} (I : EnvIs env sc) (hk : sc.kind = .function) : EnvOk env := ⟨by rw [I.scope]; exact hk, I.globals, I.builtins⟩
theorem EnvIs.kindOf {sc : Scope} (I : EnvIs env sc) {x : Str} {kd : Option NameKind} (e : sc.names.lookup x = kd) : env.kindOf x = kd := by
  unfold Env.kindOf; rw [I.scope]; exact e
theorem EnvIs.kindOk {sc : Scope} (I : EnvIs env sc) {x : Str} (e : (sc.names.lookup x == some .local || sc.names.lookup x == some .cell) = true) (hx : (x == ("__classdict__" : Str)) = false) : KindOk env x := by
  rw [Bool.or_eq_true] at e
  refine ⟨?_, hx⟩
  rcases e with e | e
  · exact .inl (I.kindOf (by simpa using e))
  · have : sc.names.lookup x = some .cell := by simpa using e
    exact .inr ⟨I.kindOf this, I.cells x this⟩
theorem EnvIs.swap0 {sc : Scope} (I : EnvIs env sc) {e : Expr} {t : Option Expr} {n : Nat} (h : swapsWith e t n { (default : Env) with scope := sc } = pure false) : swapsWith e t n env = pure false := by
  have : swapsWith e t n env = swapsWith e t n { (default : Env) with scope := sc } := by
    unfold swapsWith Env.blockKind Env.kindOf
    rw [I.scope]
  rw [this]; exact h
theorem EnvIs.swap1 {sc : Scope} (I : EnvIs env sc) {e : Expr} {t : Option Expr} {n : Nat} (h : swapsWith e t n { (default : Env) with scope := sc } = pure true) : swapsWith e t n env = pure true := by
  have : swapsWith e t n env = swapsWith e t n { (default : Env) with scope := sc } := by
    unfold swapsWith Env.blockKind Env.kindOf
    rw [I.scope]
  rw [this]; exact h
theorem EnvIs.comp {sc scope : Scope} (I : EnvIs env sc) (h1 : (scope.names.all fun y => y.2 != .cell) = true) (h2 : scope.kind = .function)
    (h3 : (scope.names.all fun y => y.2 != .local || scope.names.lookup y.1 == some .local) = true)
    (h4 : (scope.names.all fun y => y.2 != .free || (sc.names.lookup y.1 == some .cell && scope.names.lookup y.1 == some .free && !(y.1 == ("__classdict__" : Str)))) = true) : CompOk scope env := by
  refine ⟨fun y hy => ?_, h2, fun y hy e => ?_, fun y hy e => ?_⟩
  · have := List.all_eq_true.mp h1 y hy
    simpa using this
  · have := List.all_eq_true.mp h3 y hy
    rw [e] at this
    simpa using this
  · have := List.all_eq_true.mp h4 y hy
    rw [e] at this
    simp only [bne_self_eq_false, Bool.false_or, Bool.and_eq_true, beq_iff_eq, Bool.not_eq_true'] at this
    exact ⟨I.cells _ this.1.1, this.1.2, this.2⟩
theorem EnvIs.fn {fd : FuncData} {L f : Addr} (h2 : fd.globals = mainGlobals) (h3 : fd.builtins = builtinsNs) : EnvIs (envAt fd L f) fd.scope :=
  ⟨rfl, h2, h3, fun x e => cellsFrom_some _ _ _ (.inl e)⟩
theorem FnP.by {f : Addr} {fd : FuncData} {body : List Stmt} {oc : Value} {od : Option Addr} {osl : Array (Option Value)} {names : List Str} {as bds : List D} {ks : List (Str × D)} {d : D}
    (ho : K.lookup f = some ⟨oc, od, .func fd, osl⟩) (hbody : fd.body = .stmts body) (hcd : codeIn K fd.code fd.qualname = true) (O : FnOk fd names) (h2 : fd.globals = mainGlobals) (h3 : fd.builtins = builtinsNs)
    (hbind : ∀ (M : Addr → Prop) (s : Shared) (vs us : List Value), Sc K M s.heap → RdL M s.heap vs as → RdL M s.heap us (ks.map (·.2)) → ∃ bvs, BindsTo s fd ⟨vs, (ks.map (·.1)).zip us⟩ (names.zip bvs) ∧ RdL M s.heap bvs bds) (hlen : names.length = bds.length)
    (nx : ∀ M env A s s₁, EnvIs env fd.scope → Room k A → Run K s (fun _ => False) (Mof M env) env (names.zip bds) s₁ →
      Go (model prog w) A (execs body env) (fun fl s' => ∃ vm', Run K s (fun _ => False) (Mof M env) env vm' s' ∧ Rd (Mof M env) s'.heap (match fl with | .ret v => v | _ => .none) d) NoE s₁) :
    FnP prog w K f as ks d (k + 1) := by
  refine FnP.of ho hbody hcd O hbind hlen fun M L A s s₁ rm S R => ?_
  refine .of (wpAny_mono (nx M _ A s s₁ (EnvIs.fn h2 h3) rm R).run (fun fl s' q => ?_) fun _ _ x => x)
  obtain ⟨vm', R', r⟩ := q
  exact ⟨R'.sub (fun x d e => nomatch e), r⟩
theorem kindOk_comp {scope : Scope} {C : Addr} {x : Str} (e : scope.names.lookup x = some .local) (hx : (x == ("__classdict__" : Str)) = false) : KindOk (cenvOf scope env C) x :=
  ⟨.inl (lookup_relabel_local e), hx⟩
theorem sto_comp {scope : Scope} {C a : Addr} {x : Str} (e : scope.names.lookup x = some .local) (q : Sto (cenvOf scope env C) x a) : a = C := by
  rcases q with ⟨_, z⟩ | ⟨z, _⟩
  · exact z
  · rw [show (cenvOf scope env C).kindOf x = some .local from lookup_relabel_local e] at z; cases z
theorem kind_comp_glob {scope : Scope} {C : Addr} {x : Str} (e : scope.names.lookup x = some .globalImplicit) : (cenvOf scope env C).kindOf x = some .globalImplicit := by
  have := lookup_relabel (env := env) e
  exact this
theorem pure_ret {env : Env} {s s₁ s' : Shared} {v : Value} {d : D} {vm : List (Str × D)} (R : Run K s (fun _ => False) (Mof M env) env vm s₁) (kp : Kp s₁ s') (r : Rd (Mof M env) s'.heap v d) :
    ∃ vm', Run K s (fun _ => False) (Mof M env) env vm' s' ∧ Rd (Mof M env) s'.heap v d := ⟨vm, R.pure kp, r⟩
theorem PE.nameF {x : Str} {p : Pos} {d : D} (F : Fm M env vm h) (e : vm.lookup x = some d) (hd : (x == ("__debug__" : Str)) = false) : PE prog w M h k (eval (.Name x p) env) d := PE.name F.vars e hd
theorem look_hd {x : Str} {d : D} {r : List (Str × D)} : ((x, d) :: r).lookup x = some d := by rw [List.lookup_cons, beq_self_eq_true]
theorem look_tl {x y : Str} {d e : D} {r : List (Str × D)} (hn : (y == x) = false) (q : r.lookup y = some e) : ((x, d) :: r).lookup y = some e := by rw [List.lookup_cons, hn]; exact q
end
end Mine
set_option linter.unusedVariables false
namespace Mine
open PySem PySem.W PySem.Calls PyProof.Rows PySem.Spec
noncomputable def frL (A : Around) : List Addr := (A.frames.getD []).filterMap (·.frame)
structure Frs (A : Around) (M : Addr → Prop) (h : Heap) : Prop where
  st : A.frames.isSome = true
  all : ∀ e ∈ A.frames.getD [], e.scope.kind ≠ .module ∧ ∃ L m, e.frame = some L ∧ M L ∧ h.Ns L m
theorem Frs.eq {A : Around} {M : Addr → Prop} {h : Heap} (F : Frs A M h) : A.frames = some (A.frames.getD []) := by
  obtain ⟨l, e⟩ := Option.isSome_iff_exists.mp F.st
  rw [e]; rfl
theorem Frs.mem {A : Around} {M : Addr → Prop} {h : Heap} (F : Frs A M h) {b : Addr} (hb : b ∈ frL A) : M b ∧ ∃ m, h.Ns b m := by
  obtain ⟨e, he, hf⟩ := List.mem_filterMap.mp hb
  obtain ⟨_, L, m, hL, hM, hN⟩ := F.all e he
  rw [hL] at hf
  cases hf
  exact ⟨hM, m, hN⟩
theorem Frs.at {A : Around} {M N : Addr → Prop} {h h' : Heap} (F : Frs A M h) (i : ∀ a, M a → N a) (k : ∀ b ∈ frL A, ∀ m, h.Ns b m → h'.Ns b m) : Frs A N h' :=
  ⟨F.st, fun e he => let ⟨a, L, m, b, c, d⟩ := F.all e he; ⟨a, L, m, b, i L c, k L (List.mem_filterMap.mpr ⟨e, he, b⟩) m d⟩⟩
theorem Frs.keep {A : Around} {M : Addr → Prop} {h h' : Heap} (F : Frs A M h) (k : Keep h h') : Frs A M h' := F.at (fun _ a => a) fun b _ m hn => hn.keeps k
theorem ns_not_fields {h : Heap} {L : Addr} {m : Str → Option Value} (n : h.Ns L m) : ∃ o, h.get? L = some o ∧ ∀ vs, o.data ≠ .fields vs := by
  obtain ⟨o, es, ep, ho, hd, _⟩ := n
  exact ⟨o, ho, fun vs q => by rw [hd] at q; cases q⟩
theorem funFrames_of {base h : Heap} : ∀ {l : List Env}, (∀ e ∈ l, e.scope.kind ≠ .module ∧ ∃ L m, e.frame = some L ∧ base.get? L = none ∧ h.Ns L m) → h.FunFrames base l
  | [], _ => trivial
  | e :: l, H => by
    obtain ⟨a, L, m, b, c, d⟩ := H e (.head _)
    obtain ⟨o, ho, hd⟩ := ns_not_fields d
    exact ⟨a, ⟨L, o, b, c, ho, hd⟩, funFrames_of fun x hx => H x (.tail _ hx)⟩
noncomputable abbrev grd (A : Around) (h : Heap) : Heap := hideAll h (frL A)
theorem grd_stays {A : Around} {h h' : Heap} (k : Keep h h') : (grd A h).StaysIn h' := fun b o e => k b o (of_hideAll _ e)
theorem grd_fresh {A : Around} {h : Heap} {b : Addr} (e : h.get? b = none) : (grd A h).get? b = none := by
  cases q : (grd A h).get? b with
  | none => rfl
  | some o => rw [of_hideAll _ q] at e; cases e
theorem grd_fun {A : Around} {M : Addr → Prop} {h h' : Heap} (F : Frs A M h') : h'.FunFrames (grd A h) (A.frames.getD []) :=
  funFrames_of fun e he => let ⟨a, L, m, b, c, d⟩ := F.all e he; ⟨a, L, m, b, hideAll_none _ (List.mem_filterMap.mpr ⟨e, he, b⟩), d⟩
structure XK (A : Around) (s s' : Shared) : Prop where
  same : ∃ h t, s' = { s with heap := h, toks := t }
  ext : ∀ b o, b ∉ frL A → s.heap.get? b = some o → s'.heap.get? b = some o
  up : ∀ b ∈ frL A, ∀ o, s.heap.get? b = some o → (∀ vs, o.data ≠ .fields vs) → ∃ sl, s'.heap.get? b = some { o with slots := sl }
theorem XK.of {A : Around} {s s' : Shared} (k : Kp s s') : XK A s s' := ⟨k.same, fun b o _ e => k.heap b o e, fun b _ o e _ => ⟨o.slots, k.heap b o e⟩⟩
theorem XK.trans {A : Around} {a b c : Shared} (x : XK A a b) (y : XK A b c) : XK A a c := by
  obtain ⟨⟨h, t, rfl⟩, k, u⟩ := x
  obtain ⟨⟨h', t', rfl⟩, k', u'⟩ := y
  exact ⟨⟨h', t', rfl⟩, fun b o n e => k' b o n (k b o n e), fun b n o e hn => by
    obtain ⟨sl, e1⟩ := u b n o e hn
    obtain ⟨sl', e2⟩ := u' b n _ e1 hn
    exact ⟨sl', e2⟩⟩
theorem ns_slots {h h' : Heap} {a : Addr} {m : Str → Option Value} (hn : h.Ns a m) (u : ∀ o, h.get? a = some o → (∀ vs, o.data ≠ .fields vs) → ∃ sl, h'.get? a = some { o with slots := sl }) : h'.Ns a m := by
  obtain ⟨o, es, ep, ho, hd, r⟩ := hn
  obtain ⟨sl, hs⟩ := u o ho fun vs q => by rw [hd] at q; cases q
  exact ⟨_, es, ep, hs, hd, r⟩
theorem XK.frs {A : Around} {M : Addr → Prop} {s s' : Shared} (x : XK A s s') (F : Frs A M s.heap) : Frs A M s'.heap := F.at (fun _ a => a) fun b hb m hn => ns_slots hn (x.up b hb)
theorem XK.extM {A : Around} {M : Addr → Prop} {s s' : Shared} (x : XK A s s') (F : Frs A M s.heap) : Ext M s.heap s'.heap := fun b o n e => x.ext b o (fun hb => n (F.mem hb).1) e
section
variable {prog : Program} {w : World} {K : Frag} {M : Addr → Prop} {h : Heap} {k : Nat} {env : Env} {vm : List (Str × D)} {A : Around} {E : Value → Shared → Prop} {s : Shared}
theorem fn_enter_x {f : Addr} {fd : FuncData} {body : List Stmt} {oc : Value} {od : Option Addr} {osl : Array (Option Value)} {args : Args} {names : List Str} {bvs : List Value} {bds : List D} {R : Result → Shared → Prop}
    (rm : Room (k + 1) A) (S : Sc K M s.heap) (ho : K.lookup f = some ⟨oc, od, .func fd, osl⟩) (hbody : fd.body = .stmts body) (hcd : codeIn K fd.code fd.qualname = true) (O : FnOk fd names)
    (hbind : BindsTo s fd args (names.zip bvs)) (hr : RdL M s.heap bvs bds) (hlen : names.length = bds.length)
    (nx : ∀ L s₁, Run K s (fun _ => False) (Mof M (envAt fd L f)) (envAt fd L f) (names.zip bds) s₁ → (∀ a, Own (envAt fd L f) a → s.heap.get? a = none) →
      wpAny (model prog w) (A.deeper (envAt fd L f)) (execs body (envAt fd L f)) (fun fl s' => R (.ok (.ret (match fl with | .ret v => v | _ => .none))) s')
        (fun e s' => wpAny (model prog w) (A.deeper (envAt fd L f)) (leaving (envAt fd L f) e) (fun _ s'' => R (.error e) s'') (fun e' s'' => R (.error e') s'') s') s₁) :
    codeAny (model prog w) A (.call (.ref f) args) R s := by
  have hz : (names.zip bvs).map (·.1) = names := by
    rw [List.map_fst_zip]
    rw [hlen, hr.length]; exact Nat.le_refl _
  refine codeAny_call_function rm.lim (S.inn _ _ ho) rfl O.co O.gen hbody (codeRec_of S.inn hcd) (hbind _ _ _ _ ?_)
  rw [O.clo]
  have hcells : ∀ n x, x ∈ names → fd.scope.names.lookup x = some .cell → ((cellsFrom n fd.scope.names []).lookup x).isSome = true := fun n x _ e => cellsFrom_some _ _ _ (.inl e)
  refine wpAny_newFunctionEnv_cells O.kind (fun x hx => ?_) fun env' he s' x => ?_
  · have hn : x.1 ∈ names := hz ▸ List.mem_map_of_mem hx
    exact (O.kinds _ hn).imp id fun e => ⟨e, hcells _ _ hn e⟩
  · subst he
    refine ⟨S.lim.keeps x.toInCall.keep, codeAny_func ?_⟩
    refine nx s.heap.objs.size s' ?_ ?_
    · obtain ⟨h₁, tk, rfl, _⟩ := x.done
      have hk₁ : Keep s.heap h₁ := x.toInCall.keep
      have hL : (s.heap.get? s.heap.objs.size) = none := get_size _
      have hnone : ∀ a, s.heap.objs.size ≤ a → s.heap.get? a = none := fun a ha => Heap.get?_none_of_le ha
      have hown : ∀ a, Own (envAt fd s.heap.objs.size f) a → s.heap.objs.size ≤ a ∧ (h₁.get? a).isSome = true := by
        rintro a (rfl | ⟨n, e⟩)
        · refine ⟨Nat.le_refl _, ?_⟩
          obtain ⟨o, _, _, ho, _⟩ := x.toInCall.ns
          show (h₁.get? s.heap.objs.size).isSome = true
          have : h₁.get? s.heap.objs.size = some o := ho
          rw [this]; rfl
        · refine ⟨Nat.le_of_lt (x.above n a (mem_of_lookup e)), ?_⟩
          obtain ⟨o, ho, _⟩ := x.cell n a e
          have : h₁.get? a = some o := ho
          rw [this]; rfl
      refine ⟨⟨h₁, tk, rfl⟩, hk₁.ext, ?_, ?_, fun a ha => hnone a (hown a ha).1⟩
      · have S1 := S.keep hk₁
        refine ⟨S1.inn, S1.bns, S1.lim, S1.dig, fun a m => ?_, fun a m => ?_, fun m => ?_, fun m => ?_⟩
        · exact m.elim (S1.alive a) fun o => (hown a o).2
        · exact m.elim (S1.offK a) fun o => (S.newOff (hnone a (hown a o).1)).2.1
        · exact m.elim S1.offB fun o => (S.newOff (hnone _ (hown _ o).1)).2.2.1 rfl
        · exact m.elim S1.offS fun o => (S.newOff (hnone _ (hown _ o).1)).2.2.2 rfl
      · have hsw : ∀ a, (s.heap.get? a).isSome = true → ¬ M a → ¬ Mof M (envAt fd s.heap.objs.size f) a := fun a ha hm hM => hM.elim hm fun o => by
          rw [hnone a (hown a o).1] at ha; cases ha
        have hr' : RdL (Mof M (envAt fd s.heap.objs.size f)) h₁ bvs bds := (hr.swap hsw).keep hk₁
        have hzn : ((names.zip bvs).map (·.1)).Nodup := by rw [hz]; exact O.nnd
        refine ⟨O.kind, .inr (.inl rfl), fun y c e => .inr (.inr ⟨y, e⟩), ⟨_, x.toInCall.ns, fun y d hk e => ?_⟩, fun y c e => ⟨_, x.cell y c e, fun d q => ?_⟩, fun y c e => ?_, fun y z c a b => ?_, fun y d e => ?_⟩
        · obtain ⟨v, hv, rv⟩ := zip_look hr' e
          exact ⟨v, bindL_look hzn hk hv, rv⟩
        · obtain ⟨v, hv, rv⟩ := zip_look hr' q
          refine ⟨v, bindC_look hzn ?_ hv, rv⟩
          intro hk
          have := (cellsFrom_kind _ _ _ y c (mem_of_lookup e)).resolve_left (fun z => nomatch z)
          have h2 := nodup_lookup O.nd this
          have hk' : fd.scope.names.lookup y = some NameKind.local := hk
          rw [h2] at hk'; cases hk'
        · intro hk
          have := (cellsFrom_kind _ _ _ y c (mem_of_lookup e)).resolve_left (fun z => nomatch z)
          have h2 := nodup_lookup O.nd this
          have hk' : fd.scope.names.lookup y = some NameKind.local := hk
          rw [h2] at hk'; cases hk'
        · exact name_of_addr x.apart (mem_of_lookup a) (mem_of_lookup b)
        · have hy : y ∈ names := by
            have := mem_of_lookup e
            exact (List.of_mem_zip this).1
          refine ⟨?_, O.nocd y hy⟩
          rcases O.kinds y hy with q | q
          · exact .inl q
          · exact .inr ⟨.inl q, hcells _ _ hy q⟩
    · rintro a (rfl | ⟨n, e⟩)
      · exact get_size _
      · exact Heap.get?_none_of_le (Nat.le_of_lt (x.above n a (mem_of_lookup e)))
noncomputable def mroK (K : Frag) (C : Addr) : List Value := match K.lookup C with
  | some ⟨_, _, .cls cd, _⟩ => cd.mro
  | _ => []
inductive ExcOk (K : Frag) (C : Addr) (bmB : List Value) (newId : String) : Prop
  | mk : ∀ bm N nm q bs hdct sn sub ab col dd k0 k1 k2 k3 k5, K.lookup C = some (excClassObj nm q C N bs bm hdct sn sub ab col dd k0 k1 k2 k3 k5 newId) → (nsOkIn K N && tailIn K bmB bm) = true → nsIn K N "__init__" = some none → ExcOk K C bmB newId
inductive ExcSt (h : Heap) (K : Frag) (C : Addr) (bmB : List Value) (newId : String) : Prop
  | mk : ∀ bm N nm q bs hdct sn sub ab col dd k0 k1 k2 k3 k5 mN, h.get? C = some (excClassObj nm q C N bs bm hdct sn sub ab col dd k0 k1 k2 k3 k5 newId) → h.Ns N mN → mN "__init__" = none → OwnTail h bmB bm → mroK K C = .ref C :: bm → ExcSt h K C bmB newId
theorem exc_at {C : Addr} {bmB : List Value} {newId : String} (X : K.In h) (q : ExcOk K C bmB newId) : ExcSt h K C bmB newId := by
  obtain ⟨bm, N, nm, qn, bs, hd, sn, sub, ab, col, dd, k0, k1, k2, k3, k5, e, q1, q2⟩ := q
  obtain ⟨ok, t⟩ := Bool.and_eq_true_iff.mp q1
  exact ⟨bm, N, nm, qn, bs, hd, sn, sub, ab, col, dd, k0, k1, k2, k3, k5, _, X _ _ e, .of_isNs (isNs_of_in X ok), nsMap_none_of_in X ok q2, tail_of_in X t, by unfold mroK; rw [e]⟩
noncomputable abbrev bmExc : List Value := [.type "Exception", .type "BaseException", .type "object"]
noncomputable def Made (s₀ : Shared) (env : Env) (C : Addr) (x : Str) (v : Value) (s' : Shared) : Prop :=
  ∃ s2 e u h', v = .ref e ∧ s' = { s2 with heap := h' } ∧ (∃ h t, s2 = { s₀ with heap := h, toks := t }) ∧ Keep s₀.heap s2.heap ∧ (∃ m, s2.heap.Ns env.locals m) ∧ Heap.MadeExcOf s2.heap h' e (.ref C) [.str x u]
theorem run_raise {s₀ : Shared} {y z : Str} {np cpos pos rp : Pos} {C : Addr} {x : Str} {rest : List Stmt} {Q : Flow → Shared → Prop} (R : Run K s₀ (fun _ => False) M env vm s) (rm : Room k A) (O : EnvOk env)
    (hn : nsIn K mainGlobals y = some (some (.ref C))) (hk : env.kindOf y = some .globalImplicit) (hy : (y == ("__debug__" : Str)) = false) (hq : ExcOk K C bmExc "Exception.__new__")
    (hz : vm.lookup z = some (.str x)) (hzd : (z == ("__debug__" : Str)) = false) (hE : ∀ v s', Made s₀ env C x v s' → E v s') :
    Go (model prog w) A (execs (.Raise (some (.Call (.Name y np) [.Name z rp] [] cpos)) none pos :: rest) env) Q E s := by
  refine .of (wpAny_execs_cons ?_)
  obtain ⟨bm, N, nm, q, bs, hdct, sn, sub, ab, col, dd, k0, k1, k2, k3, k5, mN, hC, hN, hni, T, _⟩ := exc_at R.sc.inn hq
  refine wpAny_Raise_call_subT (C := C) (nm := nm) (q := q) (N := N) (bs := bs) (bm := bm) (hdct := hdct) (sn := sn) (sub := sub) (ab := ab) (col := col) (dd := dd) (k0 := k0) (k1 := k1) (k2 := k2) (k3 := k3) (k5 := k5)
    PySem.F.excBase_Exception (mN := mN) (T.hasType (by decide +kernel)) rm.handled (by rfl) hni ?_
  refine wpAny_Name (glob_of O R.sc hn hk A _ _ s (Keep.refl _) ⟨rfl, ?_⟩) hy
  obtain ⟨v, l, r⟩ := (R.fm.vars (prog := prog) (w := w)) z _ hz
  cases r using Rd.strE with | str _ u => ?_
  show wpAny _ _ (evalArgs (.ref C) true (backTo cpos (starEach [.Name z rp] env)) []) _ _ _
  refine Calls.evalArgs_plain ?_
  show wpAny _ _ (spliced [(false, eval (.Name z rp) env)]) _ _ _
  unfold spliced
  refine wpAny_bind (wpAny_Name (l A _ _ s (Keep.refl _) ?_) hzd)
  refine wpAny_bind (wpAny_pure ?_)
  refine wpAny_bind (wpAny_holding ?_)
  unfold spliced
  refine wpAny_pure (wpAny_pure ?_)
  refine ⟨rfl, by rw [sizeLine_eq]; simp, hC, hN, T, fun h' e hm => hE _ _ ⟨s, e, u, h', rfl, rfl, R.same, fun b o q => R.keep b o (fun z => z) q, ?_, hm⟩⟩
  obtain ⟨m, hm, _⟩ := R.fm.loc
  exact ⟨m, hm⟩
structure FnR (prog : Program) (w : World) (K : Frag) (f : Addr) (as : List D) (C : Addr) (x : Str) (k : Nat) : Prop where
  mk ::
  go : ∀ (M : Addr → Prop) (A : Around) (s : Shared) (vs : List Value), Room k A → Sc K M s.heap → Frs A M s.heap → RdL M s.heap vs as →
    codeAny (model prog w) A (.call (.ref f) ⟨vs, []⟩) (fun r s' => ∃ e t u, r = .error (.ref e) ∧ (∃ h tk, s' = { s with heap := h, toks := tk }) ∧ Heap.FlyingW (grd A s.heap) (A.frames.getD []) e (.ref C) (.ref t) s'.heap ∧
      s'.heap.TupAt t [.str x u] ∧ (grd A s.heap).get? t = none ∧ s.heap.UpToSlots s'.heap) s
theorem FnR.by {f : Addr} {fd : FuncData} {body : List Stmt} {oc : Value} {od : Option Addr} {osl : Array (Option Value)} {names : List Str} {as bds : List D} {C : Addr} {x : Str}
    (ho : K.lookup f = some ⟨oc, od, .func fd, osl⟩) (hbody : fd.body = .stmts body) (hcd : codeIn K fd.code fd.qualname = true) (O : FnOk fd names) (h2 : fd.globals = mainGlobals) (h3 : fd.builtins = builtinsNs)
    (hbind : ∀ (M : Addr → Prop) (s : Shared) (vs : List Value), Sc K M s.heap → RdL M s.heap vs as → ∃ bvs, BindsTo s fd ⟨vs, []⟩ (names.zip bvs) ∧ RdL M s.heap bvs bds) (hlen : names.length = bds.length)
    (nx : ∀ M env A s s₁, EnvIs env fd.scope → Room k A → Run K s (fun _ => False) (Mof M env) env (names.zip bds) s₁ →
      Go (model prog w) A (execs body env) (fun _ _ => False) (Made s env C x) s₁) :
    FnR prog w K f as C x (k + 1) := by
  refine .mk ?_
  intro M A s vs rm S Fr r1
  obtain ⟨bvs, hb, hr⟩ := hbind M s vs S r1
  refine fn_enter_x (k := k) rm S ho hbody hcd O hb hr hlen fun L s₁ R hown => ?_
  refine wpAny_mono (nx M _ _ s s₁ (EnvIs.fn h2 h3) (rm.deeper _) R).run (fun _ _ q => q.elim) fun v s' q => ?_
  obtain ⟨s2, e, u, h', rfl, rfl, hs2, kk, ⟨m, hm⟩, hx⟩ := q
  have hfr : (A.deeper (envAt fd L f)).frames = some (envAt fd L f :: A.frames.getD []) := Around.frames_deeper Fr.eq
  have hL : s.heap.get? L = none := hown L (.inl rfl)
  have hl : s2.heap.FunFrames (grd A s.heap) (envAt fd L f :: A.frames.getD []) := by
    obtain ⟨o, ho', hd⟩ := ns_not_fields hm
    exact ⟨by show fd.scope.kind ≠ _; rw [O.kind]; decide, ⟨L, o, rfl, grd_fresh hL, ho', hd⟩, grd_fun (Fr.keep kk)⟩
  refine wpAny_leaves_madeW hfr rfl (grd_stays kk) hl hx fun h'' t x1 x2 x3 x4 => ?_
  obtain ⟨hh, tk, rfl⟩ := hs2
  exact ⟨e, t, u, rfl, ⟨h'', tk, rfl⟩, x1, x2, x3, ((Heap.UpToSlots.of_keeps kk).trans (Heap.UpToSlots.of_keeps hx.keeps)).trans x4⟩
end
end Mine
set_option linter.unusedVariables false
namespace Mine
open PySem PySem.W PySem.Calls PyProof.Rows PySem.Spec
section
variable {prog : Program} {w : World} {K : Frag} {M : Addr → Prop} {h : Heap} {k : Nat} {env : Env} {vm : List (Str × D)} {A : Around} {E : Value → Shared → Prop} {s : Shared} {e t0 C : Addr} {oe : Obj} {vs : Array Value}
theorem own_args {M : Model} {items : List Value} {Q : Value × List Value → Shared → Prop} (he : s.heap.get? e = some oe) (hd : oe.data = .fields vs) (h0 : vs[0]? = some (.ref t0)) (ht : s.heap.TupAt t0 items) (hq : Q (.ref t0, items) s) :
    wpAny M A (Builtin.BaseException.bexcArgs (.ref e)) Q E s := by
  obtain ⟨ot, k, hto, _, htd⟩ := ht
  unfold Builtin.BaseException.bexcArgs
  refine wpAny_bind (wpAny_field he hd h0 (wpAny_bind (wpAny_seqItems hto htd ?_)))
  have : items.toArray.toList = items := by simp
  show wpAny M A (pure (Value.ref t0, items.toArray.toList)) Q E s
  rw [this]; exact wpAny_pure hq
theorem own_entry {m : Str} {tk : Tok} {Q : Fin → Shared → Prop} (he : s.heap.get? e = some oe) (hd : oe.data = .fields vs) (h0 : vs[0]? = some (.ref t0)) (ht : s.heap.TupAt t0 [.str m tk]) (hq : Q (.done (.ret (.str m tk))) s) :
    wpAny (model prog w) A (Builtin.«BaseException.__str__» ⟨[.ref e], []⟩) Q E s := by
  unfold Builtin.«BaseException.__str__»
  repeat (first | with_reducible refine own_args he hd h0 ht ?_ | wp_step)
  exact hq
theorem bexc_split : splitId "BaseException.__str__" = some ("BaseException", "__str__") := by decide +kernel
theorem bexc_kind : builtinKind "BaseException.__str__" = some .slot := by decide +kernel
theorem own_isI {M : Model} {Q : Bool → Shared → Prop} (X : K.In s.heap) (q : ExcOk K C bmExc "Exception.__new__") (he : s.heap.get? e = some oe) (hc : oe.cls = .ref C) (hq : Q true s) : wpAny M A (isInstance (.ref e) (.type "BaseException")) Q E s := by
  obtain ⟨bm, N, nm, qn, bs, hdct, sn, sub, ab, col, dd, k0, k1, k2, k3, k5, mN, hC, hN, hni, T, _⟩ := exc_at X q
  have hcB : (Value.ref C :: bm).contains (.type "BaseException") = true := by rw [List.contains_cons, T.hasType (b := true) (by decide +kernel), Bool.or_true]
  obtain ⟨hh, g, d, tk, os⟩ := s
  unfold isInstance
  repeat (first | (with_reducible refine wpAny_loadPart_at he ?_; rw [hc]) | (with_reducible refine wpAny_isSubtype_exc hC ?_; rw [hcB]) | wp_step)
  exact hq
theorem own_check {M : Model} {Q : Unit → Shared → Prop} (X : K.In s.heap) (q : ExcOk K C bmExc "Exception.__new__") (he : s.heap.get? e = some oe) (hc : oe.cls = .ref C) (hq : Q () s) : wpAny M A (checkBuiltinCall "BaseException.__str__" ⟨[.ref e], []⟩) Q E s := by
  simp only [checkBuiltinCall, bexc_kind, bexc_split]
  refine wpAny_bind (own_isI X q he hc ?_)
  simp only [Bool.not_true, Bool.false_eq_true, if_false]
  have ha := PySem.F.args_bexc_str (.ref e)
  cases hsig : Manifest.signature? "BaseException.__str__" with
  | none => exact wpAny_pure hq
  | some sig =>
    simp only [argsOk, hsig] at ha
    have h2 : Bind.checkArgs "BaseException.__str__" sig ⟨[.ref e], []⟩ = pure () := ha
    exact wpAny_of_eq h2 hq
theorem own_type {M : Model} (he : h.get? e = some oe) (hc : oe.cls = .ref C) : Looks M h (typeOf (.ref e)) (.ref C) := hc ▸ (Looks.ld he).andThen .now
open Builtin Builtin.Str in
theorem own_strOf {m : Str} {tk : Tok} {Q : Value → Shared → Prop} (hu : A.units < cLine) (X : K.In s.heap) (q : ExcOk K C bmExc "Exception.__new__") (hs : findIn K (.ref C) "__str__" = some (some (.builtin "BaseException.__str__")))
    (he : s.heap.get? e = some oe) (hc : oe.cls = .ref C) (hd : oe.data = .fields vs) (h0 : vs[0]? = some (.ref t0)) (ht : s.heap.TupAt t0 [.str m tk]) (hq : Q (.str m tk) s) : wpAny (model prog w) A (PySem.Builtin.Str.strOf (.ref e)) Q E s := by
  unfold PySem.Builtin.Str.strOf
  rw [show isExactStr (.ref e) = false from rfl]
  refine wpAny_bind (m := cRoomFor _ _) (wpAny_cRoomFor hu ?_)
  refine wpAny_bind (m := callSpecial? (.ref e) (Str.ofString "__str__")) ?_
  have call : wpAny (model prog w) A (call (.builtin "BaseException.__str__") [.ref e]) (fun v s' => v = .str m tk ∧ Q v s') E s := by
    refine wpAny_call (codeAny_call_builtin PySem.F.excStr_Exception.str.plain PySem.F.entry_bexc_str (own_check X q he hc ?_))
    exact own_entry he hd h0 ht ⟨rfl, hq⟩
  refine wpAny_bind (wpAny_bind ((own_type he hc).here ((looks_findIn X hs).here (wpAny_holding (wpAny_bind (wpAny_of_eq (PySem.F.excStr_Exception.str.bind _) (wpAny_bind (wpAny_mono call (fun v s1 z => wpAny_pure ?_) fun _ _ z => z))))))))
  obtain ⟨rfl, z⟩ := z
  exact wpAny_pure z
theorem own_str {m : Str} {tk : Tok} {Q : Value → Shared → Prop} (hu : A.in1.in1.units < cLine) (X : K.In s.heap) (q : ExcOk K C bmExc "Exception.__new__") (hs : findIn K (.ref C) "__str__" = some (some (.builtin "BaseException.__str__")))
    (he : s.heap.get? e = some oe) (hc : oe.cls = .ref C) (hd : oe.data = .fields vs) (h0 : vs[0]? = some (.ref t0)) (ht : s.heap.TupAt t0 [.str m tk]) (hq : Q (.str m tk) s) : wpAny (model prog w) A (call (.type "str") [.ref e]) Q E s := by
  refine callType_codes (T := "str") (Bi := Builtin.«object.__init__») (Q₁ := fun r s₁ => ∃ y u, r = .str y u ∧ Q r s₁) PySem.F.called_str (PySem.F.typeCall_str_1 _) PySem.F.entry_object_init ?_ ?_
  · refine codeAny_of_tree ?_
    show wpAny _ A.in1.in1 (do checkBuiltinCall "str.__new__" ⟨[.type "str", .ref e], []⟩; again (.builtin "str.__new__" ⟨[.type "str", .ref e], []⟩)) _ _ s
    refine wpAny_bind (wpAny_of_eq (PySem.F.newCall_str_1 _) (wpAny_pure ⟨plainId_quiet (by decide +kernel) _, codeAny_builtin PySem.F.entry_str_new ?_⟩))
    rw [Around.under_plainId (by decide +kernel) _]
    rw [str_new_tree]
    refine wpAny_bind (wpAny_pure ?_)
    refine wpAny_bind (wpAny_of_eq isSubtype_str_str ?_)
    exact wpAny_bind (own_strOf hu X q hs he hc hd h0 ht (wpAny_pure ⟨_, _, rfl, hq⟩))
  · rintro obj s₁ ⟨y, u, rfl, hq⟩
    exact ⟨typeIs_str _ _ _, PySem.F.args_object_init_2 _ _, object_init_meets PySem.F.called_str.init.lookup PySem.F.called_str.made (by decide) prog w A.in1 _ s₁ ⟨typeIs_str _ _ _, rfl, hq⟩⟩
theorem own_other {M : Model} {C' : Addr} {Q : Bool → Shared → Prop} (X : K.In s.heap) (q : ExcOk K C bmExc "Exception.__new__") (q' : ExcOk K C' bmExc "Exception.__new__") (hno : (mroK K C).contains (.ref C') = false)
    (he : s.heap.get? e = some oe) (hc : oe.cls = .ref C) (hq : Q false s) : wpAny M A (excMatches (.ref e) (.ref C')) Q E s := by
  obtain ⟨bm, N, nm, qn, bs, hdct, sn, sub, ab, col, dd, k0, k1, k2, k3, k5, mN, hC, hN, hni, T, hm⟩ := exc_at X q
  obtain ⟨bm', N', nm', qn', bs', hdct', sn', sub', ab', col', dd', k0', k1', k2', k3', k5', mN', hC', hN', hni', T', _⟩ := exc_at X q'
  have hcB : (Value.ref C' :: bm').contains (.type "BaseException") = true := by rw [List.contains_cons, T'.hasType (b := true) (by decide +kernel), Bool.or_true]
  have hcC : (Value.ref C :: bm).contains (.ref C') = false := by rw [← hm]; exact hno
  have f := tc_notTuple
  obtain ⟨hh, g, d, tk, os⟩ := s
  unfold excMatches
  repeat (first | (with_reducible refine wpAny_loadPart_at he ?_; rw [hc]) | with_reducible refine wpAny_loadPart_at hC' ?_ | (with_reducible refine wpAny_isSubtype_exc hC' ?_; rw [hcB]) | (with_reducible refine wpAny_isSubtype_exc hC ?_; rw [hcC]) | wp_step)
  exact hq
theorem own_same {M : Model} {Q : Bool → Shared → Prop} (X : K.In s.heap) (q : ExcOk K C bmExc "Exception.__new__") (he : s.heap.get? e = some oe) (hc : oe.cls = .ref C) (hq : Q true s) : wpAny M A (excMatches (.ref e) (.ref C)) Q E s := by
  obtain ⟨bm, N, nm, qn, bs, hdct, sn, sub, ab, col, dd, k0, k1, k2, k3, k5, mN, hC, hN, hni, T, hm⟩ := exc_at X q
  obtain ⟨hh, g, d, tk, os⟩ := s
  exact wpAny_excMatches_sub_self hC he hc (T.hasType (by decide +kernel)) hq
end
end Mine
set_option linter.unusedVariables false
namespace Mine
open PySem PySem.W PySem.Calls PyProof.Rows PySem.Spec
section
variable {prog : Program} {w : World} {K : Frag} {M : Addr → Prop} {h : Heap} {k : Nat} {env : Env} {vm : List (Str × D)}
theorem OpIter.tup {ds : List D} : OpIter prog w M h k (.tup ds) ds := by
  refine .of ?_
  intro A s u rm kp r
  cases r using Rd.tupE with
  | @tup a vs _ hm hl hr =>
    have hlt : s.heap.IsTuple a vs.toArray := hl.isTup
    refine wpAny_pyIter_tuple hlt ⟨Kp.hp _ _ (keep_push _ _), _, rfl, get_size _, [s.heap.objs.size, a], (fun i v => vs.toArray[i]? = some v), (fun i h => h.IsTupleIter s.heap.objs.size a i ∧ h.IsTuple a vs.toArray), "tuple_iterator", ?_⟩
    have hne : a ≠ s.heap.objs.size := by obtain ⟨n, e⟩ := hl; exact Nat.ne_of_lt (Heap.lt_size e)
    have hsz : vs.toArray.size = ds.length := by rw [List.size_toArray, hr.length]
    refine ⟨hsz ▸ Walks.tuple rm.handled s.heap.objs.size a hne vs.toArray, ⟨⟨_, Heap.get?_push_size _ rfl, rfl, rfl⟩, hl.isTup.push _⟩, fun b hb => ?_, fun b hb hn => ?_, fun j v hj => ?_, fun j h' hst => ?_, by decide, by decide⟩
    · rcases List.mem_cons.mp hb with rfl | hb
      · rw [Heap.get?_push_size _ rfl]; rfl
      · obtain rfl := List.mem_singleton.mp hb
        obtain ⟨n, e⟩ := hl
        rw [Heap.get?_push_of_some _ e]; rfl
    · rcases List.mem_cons.mp hb with rfl | hb
      · exact absurd rfl hn
      · obtain rfl := List.mem_singleton.mp hb
        obtain ⟨n, e⟩ := hl
        exact ⟨hm, by rw [e]; rfl⟩
    · have hj' : vs[j]? = some v := by simpa using hj
      have hlt : j < ds.length := by
        rw [← hr.length]
        obtain ⟨q, _⟩ := List.getElem?_eq_some_iff.mp hj'
        exact q
      obtain ⟨v', e', r'⟩ := hr.get (i := j) (d := ds[j]) (List.getElem?_eq_getElem hlt)
      rw [hj'] at e'; cases e'
      exact ⟨_, List.getElem?_eq_getElem hlt, r'.keep (keep_push _ _)⟩
    · obtain ⟨⟨o, ho, hc, hd⟩, _⟩ := hst
      exact ⟨o, _, ho, hc, hd⟩
noncomputable def rngD (a b : Int) : List D := (List.range (b - a).toNat).map fun i => D.int (a + (i : Nat))
theorem OpIter.rng {a b : Int} (ha : -1000 ≤ a) (ha' : a ≤ 1000) (hb : -1000 ≤ b) (hb' : b ≤ 1000) : OpIter prog w M h k (.rng a b) (rngD a b) := by
  refine .of ?_
  intro A s u rm kp r
  cases r using Rd.rngE with
  | @rng x _ _ t u v hm hr =>
    refine wpAny_pyIter_range hr (small_one (by lia) (by lia) (by lia) (by lia)) ⟨Kp.hp _ _ (keep_push _ _), _, rfl, get_size _, [s.heap.objs.size],
      (fun i v => i < (b - a).toNat ∧ ∃ t, v = .int (a + (i : Nat) * 1) t), (fun i h => IsRangeIter h s.heap.objs.size (a + (i : Nat) * 1) (((b - a).toNat : Int) - (i : Nat)) 1), "range_iterator", ?_⟩
    have hlen : (rngD a b).length = (b - a).toNat := by simp [rngD]
    refine ⟨by rw [hlen]; exact (Walks.range rm.handled s.heap.objs.size a 1 (b - a).toNat).bound, ?_, fun b hb => ?_, fun b hb hn => absurd (List.mem_singleton.mp hb) hn, fun j v hj => ?_, fun j h' hst => ⟨_, _, hst, rfl, rfl⟩, by decide, by decide⟩
    · show (s.heap.push _).get? s.heap.objs.size = _
      rw [Heap.get?_push_size _ rfl, rangeSize_one]
      have e2 : (if a < b then b - a else 0) = (((b - a).toNat : Int) - ((0 : Nat) : Int)) := by split <;> lia
      rw [e2]
      simp
    · obtain rfl := List.mem_singleton.mp hb
      rw [Heap.get?_push_size _ rfl]; rfl
    · obtain ⟨hlt, t, rfl⟩ := hj
      refine ⟨.int (a + (j : Nat)), by simp [rngD, hlt], ?_⟩
      rw [Int.mul_one]; exact .int _ _
noncomputable def strD (x : Str) : List D := x.cps.toList.map fun c => D.str ⟨#[c]⟩
theorem OpIter.str {x : Str} : OpIter prog w M h k (.str x) (strD x) := by
  refine .of ?_
  intro A s u rm kp r
  cases r using Rd.strE with
  | str _ t =>
    have hlen : (strD x).length = x.cps.size := by simp [strD]
    have hP : ∀ h', ∀ j v, SignAt x j v → ∃ d, (strD x)[j]? = some d ∧ Rd M h' v d := by
      rintro h' j v ⟨c, u, e, rfl⟩
      refine ⟨.str ⟨#[c]⟩, ?_, .str _ _⟩
      have : x.cps.toList[j]? = some c := by simpa using e
      simp [strD, this]
    have hf : ∀ o : Obj, o.isFreed = false → ∀ b ∈ [s.heap.objs.size], ((s.heap.push o).get? b).isSome = true := fun o ho b hb => by
      obtain rfl := List.mem_singleton.mp hb
      rw [Heap.get?_push_size _ ho]; rfl
    cases ha : x.cps.all (· < 128)
    · refine wpAny_pyIter_wide ha ⟨Kp.hp _ _ (keep_push _ _), _, rfl, get_size _, [s.heap.objs.size], SignAt x, (fun i h => h.IsStrIter s.heap.objs.size "str_iterator" x t i), "str_iterator", ?_⟩
      exact ⟨hlen ▸ Walks.strWide rm.handled _ x t, ⟨_, Heap.get?_push_size _ rfl, rfl, rfl⟩, hf _ rfl, fun b hb hn => absurd (List.mem_singleton.mp hb) hn, hP _, fun j h' ⟨o, ho, hc, hd⟩ => ⟨o, _, ho, hc, hd⟩, by decide, by decide⟩
    · refine wpAny_pyIter_ascii ha ⟨Kp.hp _ _ (keep_push _ _), _, rfl, get_size _, [s.heap.objs.size], SignAt x, (fun i h => h.IsStrIter s.heap.objs.size "str_ascii_iterator" x t i), "str_ascii_iterator", ?_⟩
      exact ⟨hlen ▸ Walks.strAscii rm.handled _ x t, ⟨_, Heap.get?_push_size _ rfl, rfl, rfl⟩, hf _ rfl, fun b hb hn => absurd (List.mem_singleton.mp hb) hn, hP _, fun j h' ⟨o, ho, hc, hd⟩ => ⟨o, _, ho, hc, hd⟩, by decide, by decide⟩
theorem OpN.range1 {n : Int} (S : Sc K M h) : OpN prog w M h k (.type "range") [.int n] [] (.rng 0 n) := .of fun A s vs us rm kp r1 r2 => by
  cases r2 using RdL.nilE
  cases r1 using RdL.consE with
  | cons r r' =>
    cases r' using RdL.nilE; cases r using Rd.intE0
    exact call_range_1 ⟨Kp.both s _ _ (keep_push _ _), .rng (S.keep kp).size (Heap.get?_push_size _ rfl)⟩
theorem OpN.range2 {a b : Int} (S : Sc K M h) : OpN prog w M h k (.type "range") [.int a, .int b] [] (.rng a b) := .of fun A s vs us rm kp r1 r2 => by
  cases r2 using RdL.nilE
  cases r1 using RdL.consE with
  | cons r r' =>
    cases r' using RdL.consE with
    | cons q q' =>
      cases q' using RdL.nilE; cases r using Rd.intE0; cases q using Rd.intE0
      exact call_range_2 ⟨Kp.both s _ _ (keep_push _ _), .rng (S.keep kp).size (Heap.get?_push_size _ rfl)⟩
theorem item_strs {value slice : Expr} {xs : List Str} {e m : Int} (hs : NoSlice slice = true) (hn : IsName value = true) (hm : 0 < m) (hx : m ≤ xs.length) (hb : m ≤ 1000) :
    Op2 prog w M h k (subscriptTail value slice) (.lst (xs.map D.str)) (.int (e % m)) (.str (xs.getD (e % m).toNat Str.empty)) := by
  have h0 := Int.emod_nonneg e (show m ≠ 0 by lia)
  have h1 := Int.emod_lt_of_pos e hm
  refine .of ?_
  intro A s u v rm kp r1 r2
  cases r2 using Rd.intE with
  | int _ t =>
    cases r1 using Rd.lstE with
    | lst hm' hl hr =>
      have hi : (e % m).toNat < xs.length := by omega
      obtain ⟨y, hy, ry⟩ := hr.get (i := (e % m).toNat) (d := .str (xs.getD (e % m).toNat Str.empty)) (by rw [List.getElem?_map, List.getElem?_eq_getElem hi]; simp [List.getD, hi])
      exact subscriptTail_builtin hl.isList.typeIs slot_list_getitem.lookup (wpAny_getItem_list hl.isList (by omega) (by lia) (by simpa using hy) ⟨Kp.refl s, ry⟩) (subscripted_plain hs) (fun r => letGo_name hn)
theorem strs_inv {h : Heap} : ∀ {xs : List Str} {vs : List Value}, RdL M h vs (xs.map D.str) → ∃ l : List (Str × Tok), vs = strValues l ∧ l.map (·.1) = xs
  | [], vs, r => by cases r using RdL.nilE; exact ⟨[], rfl, rfl⟩
  | x :: xs, _, r => by
    rw [List.map_cons] at r
    cases r using RdL.consE with
    | cons r r' =>
      obtain ⟨l, rfl, hl⟩ := strs_inv r'
      cases r using Rd.strE with
      | str _ t => exact ⟨(x, t) :: l, rfl, by rw [List.map_cons, hl]⟩
noncomputable def sumLn (xs : List Str) : Nat := (xs.map (·.length)).sum
theorem joinOk_of {sep : Str} {xs : List Str} (hz : sumLn xs + xs.length * sep.length ≤ 16777216) : JoinOk sep xs = true := by
  unfold JoinOk Builtin.Str.tooLong
  have key : ∀ (l : List Str) (n : Nat), l.foldl (fun a x => a + x.length + sep.length) n = n + (l.map (·.length)).sum + l.length * sep.length := by
    intro l
    induction l with
    | nil => intro n; simp
    | cons x l ih => intro n; rw [List.foldl_cons, ih, List.map_cons, List.sum_cons, List.length_cons, Nat.add_mul]; lia
  rw [List.foldl_toArray, key, sizeLine_eq]
  unfold sumLn at hz
  simp; omega
theorem OpM.join {sep : Str} {xs : List Str} (hz : sumLn xs + xs.length * sep.length ≤ 16777216) : OpM prog w M h k "join" (.str sep) [.lst (xs.map D.str)] [] (.str (Txt.join sep xs)) := by
  refine OpM.builtin (T := "str") (fun s v _ r => by cases r using Rd.strE0; exact ⟨typeIs_str _ _ _, fun a e => nomatch e⟩) F.plainAttrs_str F.slot_str_join F.type_str_join ?_
  refine .of ?_
  intro A s vs us rm kp r1 r2
  cases r2 using RdL.nilE
  cases r1 using RdL.consE with
  | cons r r' =>
    cases r' using RdL.consE with
    | cons q q' =>
      cases q' using RdL.nilE; cases r using Rd.strE0
      cases q using Rd.lstE with
      | lst hm hl hr =>
        obtain ⟨l, rfl, hx⟩ := strs_inv hr
        exact SC.join hl.isList hx (joinOk_of hz) fun t' k => ⟨Kp.tok s _, .str _ _⟩
section
variable {x : Str}
theorem one_str {A : Around} {s : Shared} {vs us : List Value} {id : String} {d : D} (r1 : RdL M s.heap vs [.str x]) (r2 : RdL M s.heap us []) (hq : ∀ t, Gv prog w M A (call (.builtin id) [.str x t]) d s) :
    Gv prog w M A (call (.builtin id) vs (([] : List (Str × D)).map (·.1) |>.zip us)) d s := by
  cases r2 using RdL.nilE
  cases r1 using RdL.consE with
  | cons r r' => cases r' using RdL.nilE; cases r using Rd.strE0; exact hq _
theorem OpM.lower (hz : (Txt.lower x).length ≤ 16777216) : OpM prog w M h k "lower" (.str x) [] [] (.str (Txt.lower x)) :=
  OpM.builtin (T := "str") (fun s v _ r => by cases r using Rd.strE0; exact ⟨typeIs_str _ _ _, fun a e => nomatch e⟩) F.plainAttrs_str F.slot_str_lower F.type_str_lower
    (.of fun A s vs us rm kp r1 r2 => one_str r1 r2 fun t => SC.lower (by unfold Builtin.Str.tooLong; rw [sizeLine_eq]; simp; omega) ⟨Kp.tok s _, .str _ _⟩)
theorem OpM.upper (hz : (Txt.upper x).length ≤ 16777216) : OpM prog w M h k "upper" (.str x) [] [] (.str (Txt.upper x)) :=
  OpM.builtin (T := "str") (fun s v _ r => by cases r using Rd.strE0; exact ⟨typeIs_str _ _ _, fun a e => nomatch e⟩) F.plainAttrs_str F.slot_str_upper F.type_str_upper
    (.of fun A s vs us rm kp r1 r2 => one_str r1 r2 fun t => SC.upper (by unfold Builtin.Str.tooLong; rw [sizeLine_eq]; simp; omega) ⟨Kp.tok s _, .str _ _⟩)
theorem OpM.swapcase (hz : (Txt.swapcase x).length ≤ 16777216) : OpM prog w M h k "swapcase" (.str x) [] [] (.str (Txt.swapcase x)) :=
  OpM.builtin (T := "str") (fun s v _ r => by cases r using Rd.strE0; exact ⟨typeIs_str _ _ _, fun a e => nomatch e⟩) F.plainAttrs_str F.slot_str_swapcase F.type_str_swapcase
    (.of fun A s vs us rm kp r1 r2 => one_str r1 r2 fun t => SC.swapcase (by unfold Builtin.Str.tooLong; rw [sizeLine_eq]; simp; omega) ⟨Kp.tok s _, .str _ _⟩)
end
end
end Mine
set_option linter.unusedVariables false
namespace Mine
open PySem PySem.W PySem.Calls PyProof.Rows PySem.Spec
section
variable {prog : Program} {w : World} {K : Frag} {W M : Addr → Prop} {h : Heap} {k : Nat} {env : Env} {vm : List (Str × D)} {A : Around} {E : Value → Shared → Prop} {s₀ s : Shared}
theorem PE.to {t : Sem Value} {d d' : D} (p : PE prog w M h k t d) (e : d = d') : PE prog w M h k t d' := e ▸ p
theorem Fm.swap {N : Addr → Prop} (F : Fm M env vm h) (i : ∀ a, (h.get? a).isSome = true → ¬ M a → ¬ N a) (hL : N env.locals) (hC : ∀ x c, env.cells.lookup x = some c → N c) : Fm N env vm h where
  kind := F.kind
  inL := hL
  inC := hC
  loc := let ⟨m, hn, hm⟩ := F.loc; ⟨m, hn, fun x d a b => let ⟨v, e, r⟩ := hm x d a b; ⟨v, e, r.swap i⟩⟩
  cel x c e := let ⟨ov, hc, hd⟩ := F.cel x c e; ⟨ov, hc, fun d q => let ⟨v, e, r⟩ := hd d q; ⟨v, e, r.swap i⟩⟩
  celK := F.celK
  apart := F.apart
  vis := F.vis
theorem comp_assigned {x : Str} {p : Pos} {Q : Unit → Shared → Prop} {s₁ s' : Shared} {C D₀ : Addr} {out : List D} {vmF : List (Str × D)} {cenv : Env}
    (R : Run K s₀ W M env vm s) (hk : KindOk env x) (k1 : Kp s s₁) (hDC : D₀ ≠ C) (fC : s₁.heap.get? C = none) (fD : s₁.heap.get? D₀ = none) (hcl : cenv.locals = C) (C' : CS K s₁ (Wof M C D₀) cenv D₀ out vmF s')
    (nx : ∀ s', Run K s₀ W M env ((x, .lst out) :: vm) s' → Ext (Own env) s.heap s'.heap → Q () s') :
    wpAny (model prog w) A (assign (.Name x p) env (.ref D₀)) (fun _ s'' => ∃ m, s''.heap.Ns C m ∧ ∀ h', Heap.SameBut C s''.heap h' → Q () { s'' with heap := h' }) E s' := by
  have S1 := R.sc.keep k1.heap
  have F1 := R.fm.keep k1.heap
  have kk := C'.kp
  obtain ⟨m, hn, _⟩ := C'.fm.loc
  rw [hcl] at hn
  have aC : (s'.heap.get? C).isSome = true := by obtain ⟨o, _, _, ho, _⟩ := hn; rw [ho]; rfl
  have off := S1.newOff fC
  let N : Addr → Prop := fun a => M a ∨ a = C
  have hsw : ∀ a, (s₁.heap.get? a).isSome = true → ¬ M a → ¬ N a := fun a ha hm hN => hN.elim hm fun z => by rw [z, fC] at ha; cases ha
  have FN : Fm N env vm s'.heap := (F1.swap hsw (.inl F1.inL) fun y c e => .inl (F1.inC y c e)).keep kk.heap
  have SN : Sc K N s'.heap := by
    have S' := S1.keep kk.heap
    exact ⟨S'.inn, S'.bns, S'.lim, S'.dig, fun a z => z.elim (S'.alive a) (fun e => e ▸ aC), fun a z => z.elim (S'.offK a) (fun e => e ▸ off.2.1), fun z => z.elim S'.offB (fun e => off.2.2.1 e.symm), fun z => z.elim S'.offS (fun e => off.2.2.2 e.symm)⟩
  have rN : Rd N s'.heap (.ref D₀) (.lst out) := by
    obtain ⟨vs, hl, hr, _⟩ := C'.acc
    refine .lst (fun z => z.elim (S1.dead fD) hDC) hl (hr.swap fun a _ hm hN => hm ?_)
    exact hN.elim .inl fun e => .inr (.inl e)
  have hCL : C ≠ env.locals := fun z => off.1 (z ▸ F1.inL)
  have hCC : ∀ y c, env.cells.lookup y = some c → C ≠ c := fun y c e z => off.1 (z ▸ F1.inC y c e)
  refine wpAny_assign_Name (FN.store SN rN hk.1 hk.2 fun h'' tk F2 S2 e2 => ?_)
  have hSt : ¬ Sto env x C := by
    rintro (⟨_, z⟩ | ⟨_, z⟩)
    · exact hCL z
    · exact hCC _ _ z rfl
  have hnC : h''.Ns C m := ns_ext hn e2 hSt
  refine ⟨m, hnC, fun h' hs => ?_⟩
  have aC' : (h''.get? C).isSome = true := by obtain ⟨o, _, _, ho, _⟩ := hnC; rw [ho]; rfl
  have F3 := F2.other hs (.inr rfl) hCL hCC
  have F4 : Fm M env ((x, .lst out) :: vm) h' := F3.swap (fun a _ hN hM => hN (.inl hM)) F1.inL F1.inC
  have S4 : Sc K M h' := by
    have : Sc K M h'' := S2.sub fun a z => .inl z
    exact this.iter (I := C) (fun b o hb q => by rw [hs.2 b hb]; exact q) off.1 off.2.1 off.2.2.1 off.2.2.2
  obtain ⟨⟨hA, tA, eA⟩, _⟩ := k1.trans kk
  have ex : Ext (Own env) s.heap h' := fun b o nb q => by
    have q1 := (k1.trans kk).heap b o q
    have q2 := e2 b o (fun z => nb (own_sto z)) q1
    exact hs.extBut b o (fun z => by rw [z] at q; have := k1.heap _ _ q; rw [fC] at this; cases this) q2
  refine nx _ ?_ ex
  subst eA
  exact R.frame (tk := tk) F4 S4 ex fun a z => z
theorem run_assign_comp {x : Str} {px pos p : Pos} {elt tgt iter : Expr} {ifs : List Expr} {scope : Scope} {src : D} {ds : List D} {vmF : List (Str × D)} {bs : D → List (Str × D)} {g : D → List D} {rest : List Stmt} {Q : Flow → Shared → Prop}
    (R : Run K s₀ W M env vm s) (rm : Room k A) (hk : KindOk env x) (O : CompOk scope env) (hi : PE prog w M s.heap k (eval iter env) src) (hit : OpIter prog w M s.heap k src ds)
    (hvm : ∀ x d, vmF.lookup x = some d → vm.lookup x = some d ∧ scope.names.lookup x = some .free)
    (hasg : ∀ d ∈ ds, ∀ C, Asg prog w K k (cenvOf scope env C) (fun a => a = C) tgt d (bs d)) (hbs : ∀ d ∈ ds, ∀ x e, vmF.lookup x = some e → (bs d).lookup x = none)
    (hitem : ∀ d ∈ ds, ∀ W h' C, (∀ a, M a → W a) → Sc K W h' → Fm W (cenvOf scope env C) (bs d ++ vmF) h' →
      ∃ b, PT prog w h' k (cenvOf scope env C) ifs b ∧ (b = true → ∃ y, PE prog w W h' k (eval elt (cenvOf scope env C)) y ∧ g d = [y]) ∧ (b = false → g d = []))
    (hlen : (ds.flatMap g).length ≤ 100000)
    (hs : swapsWith (.ListComp elt [⟨tgt, iter, ifs, 0⟩] scope p) (some (.Name x px)) pos.line env = pure true)
    (nx : ∀ s', Run K s₀ W M env ((x, .lst (ds.flatMap g)) :: vm) s' → Ext (Own env) s.heap s'.heap → Go (model prog w) A (execs rest env) Q E s')
    (hfold : ∀ x, foldedSetIterable iter env x = pure x := by intro _; rfl) :
    Go (model prog w) A (execs (.Assign [.Name x px] (.ListComp elt [⟨tgt, iter, ifs, 0⟩] scope p) pos :: rest) env) Q E s := by
  refine .of (wpAny_execs_cons ?_)
  rw [exec_Assign_Name_used _ _ _ _ hs]
  refine wpAny_bind (wpAny_standAt (wpAny_bind ?_))
  show wpAny _ A (do let _ ← comprehension (.ListComp elt [⟨tgt, iter, ifs, 0⟩] scope p) scope env _ (newList []) false (eval iter env) (some (assign (.Name x px) env))) _ _ s
  refine wpAny_bind (wpAny_mono (comp1_pipe (Q := fun _ s' => wpAny (model prog w) A (execs rest env) Q E s') (use := some (assign (.Name x px) env)) R.sc R.fm O hi hit hvm hasg hbs hitem hlen hfold rm (Keep.refl _) fun s₁ C D₀ s' k1 hDC fC fD C' => ?_) (fun _ s' hq => wpAny_pure (wpAny_pure hq)) fun _ _ e => e)
  exact comp_assigned (Q := fun _ s' => wpAny (model prog w) A (execs rest env) Q E s') R hk k1 hDC fC fD rfl C' fun s' R' e' => (nx s' R' e').run
theorem back_of {α : Type} (ι : α → D) (inj : ∀ a b, ι a = ι b → a = b) (g : α → List D) : ∃ g' : D → List D, ∀ a, g' (ι a) = g a := by
  classical
  refine ⟨fun d => if h : ∃ a, ι a = d then g h.choose else [], fun a => ?_⟩
  have h : ∃ b, ι b = ι a := ⟨a, rfl⟩
  show (if h : ∃ b, ι b = ι a then g h.choose else []) = _
  rw [dif_pos h]
  exact congrArg g (inj _ _ h.choose_spec)
theorem flatMap_back {α : Type} {ι : α → D} {g : α → List D} {g' : D → List D} (e : ∀ a, g' (ι a) = g a) (xs : List α) : (xs.map ι).flatMap g' = xs.flatMap g := by
  rw [List.flatMap_map]
  exact congrArg (xs.flatMap ·) (funext e)
structure HV (vm : List (Str × D)) (scope : Scope) (vmF : List (Str × D)) : Prop where
  of ::
  go : ∀ x d, vmF.lookup x = some d → vm.lookup x = some d ∧ scope.names.lookup x = some .free
theorem HV.nil {scope : Scope} : HV vm scope [] := .of fun x d e => nomatch e
theorem HV.cons {scope : Scope} {x : Str} {d : D} {r : List (Str × D)} (h1 : vm.lookup x = some d) (h2 : scope.names.lookup x = some .free) (hr : HV vm scope r) : HV vm scope ((x, d) :: r) := by
  refine .of ?_
  intro y e q
  by_cases n : y = x
  · subst n
    have := lookup_cons_self' q rfl
    subst this
    exact ⟨h1, h2⟩
  · exact hr.go y e (lookup_cons_ne q n)
theorem off1 {n : Str} {d : D} {r : List (Str × D)} (h : (r.all fun y => y.1 != n) = true) : ∀ x e, r.lookup x = some e → ([(n, d)] : List (Str × D)).lookup x = none := by
  intro x e q
  have hx : x ≠ n := by
    have := List.all_eq_true.mp h (x, e) (mem_of_lookup q)
    simpa using this
  rw [List.lookup_cons, beq_eq_false_iff_ne.mpr hx]; rfl
theorem off2 {n m : Str} {d d' : D} {r : List (Str × D)} (h : (r.all fun y => y.1 != n && y.1 != m) = true) : ∀ x e, r.lookup x = some e → ([(n, d), (m, d')] : List (Str × D)).lookup x = none := by
  intro x e q
  have hx : x ≠ n ∧ x ≠ m := by
    have := List.all_eq_true.mp h (x, e) (mem_of_lookup q)
    simpa using this
  rw [List.lookup_cons, beq_eq_false_iff_ne.mpr hx.1, List.lookup_cons, beq_eq_false_iff_ne.mpr hx.2]; rfl
theorem PE.comp1g {α : Type} (ι : α → D) (inj : ∀ a b, ι a = ι b → a = b) (xs : List α) (g : α → List D) {elt tgt iter : Expr} {ifs : List Expr} {scope : Scope} {p : Pos} {src : D} {vmF : List (Str × D)} {bs : D → List (Str × D)}
    (S : Sc K M h) (F : Fm M env vm h) (O : CompOk scope env) (hi : PE prog w M h k (eval iter env) src) (hit : OpIter prog w M h k src (xs.map ι)) (hvm : HV vm scope vmF)
    (hasg : ∀ x ∈ xs, ∀ C, Asg prog w K k (cenvOf scope env C) (fun a => a = C) tgt (ι x) (bs (ι x))) (hbs : ∀ d ∈ xs.map ι, ∀ x e, vmF.lookup x = some e → (bs d).lookup x = none)
    (hitem : ∀ x ∈ xs, ∀ W h' C, (∀ a, M a → W a) → Sc K W h' → Fm W (cenvOf scope env C) (bs (ι x) ++ vmF) h' →
      ∃ b, PT prog w h' k (cenvOf scope env C) ifs b ∧ (b = true → ∃ y, PE prog w W h' k (eval elt (cenvOf scope env C)) y ∧ g x = [y]) ∧ (b = false → g x = []))
    (hlen : (xs.flatMap g).length ≤ 100000)
    (hfold : ∀ x, foldedSetIterable iter env x = pure x := by intro _; rfl) :
    PE prog w M h k (eval (.ListComp elt [⟨tgt, iter, ifs, 0⟩] scope p) env) (.lst (xs.flatMap g)) := by
  obtain ⟨g', e⟩ := back_of ι inj g
  rw [← flatMap_back e xs] at hlen ⊢
  refine PE.comp1 (bs := bs) S F O hi hit hvm.go (fun d hd => ?_) hbs (fun d hd => ?_) hlen hfold
  · obtain ⟨x, hx, rfl⟩ := List.mem_map.mp hd; exact hasg x hx
  · obtain ⟨x, hx, rfl⟩ := List.mem_map.mp hd; rw [e]; exact hitem x hx
theorem flatMap_one {α β : Type} (f : α → β) : ∀ xs : List α, xs.flatMap (fun x => [f x]) = xs.map f
  | [] => rfl
  | x :: xs => by rw [List.flatMap_cons, flatMap_one f xs]; rfl
theorem PE.comp1m {α : Type} (ι : α → D) (inj : ∀ a b, ι a = ι b → a = b) (xs : List α) (f : α → D) {elt tgt iter : Expr} {scope : Scope} {p : Pos} {src : D} {vmF : List (Str × D)} {bs : D → List (Str × D)}
    (S : Sc K M h) (F : Fm M env vm h) (O : CompOk scope env) (hi : PE prog w M h k (eval iter env) src) (hit : OpIter prog w M h k src (xs.map ι)) (hvm : HV vm scope vmF)
    (hasg : ∀ x ∈ xs, ∀ C, Asg prog w K k (cenvOf scope env C) (fun a => a = C) tgt (ι x) (bs (ι x))) (hbs : ∀ d ∈ xs.map ι, ∀ x e, vmF.lookup x = some e → (bs d).lookup x = none)
    (hitem : ∀ x ∈ xs, ∀ W h' C, (∀ a, M a → W a) → Sc K W h' → Fm W (cenvOf scope env C) (bs (ι x) ++ vmF) h' → PE prog w W h' k (eval elt (cenvOf scope env C)) (f x))
    (hlen : xs.length ≤ 100000)
    (hfold : ∀ x, foldedSetIterable iter env x = pure x := by intro _; rfl) :
    PE prog w M h k (eval (.ListComp elt [⟨tgt, iter, [], 0⟩] scope p) env) (.lst (xs.map f)) := by
  have := PE.comp1g (ifs := []) (p := p) ι inj xs (fun x => [f x]) S F O hi hit hvm hasg hbs (fun x hx W h' C a b c => ⟨true, PT.nil, fun _ => ⟨_, hitem x hx W h' C a b c, rfl⟩, fun z => nomatch z⟩) (by rw [flatMap_one]; simpa using hlen) hfold
  rwa [flatMap_one] at this
theorem PE.comp1f {α : Type} (ι : α → D) (inj : ∀ a b, ι a = ι b → a = b) (xs : List α) (q : α → Bool) (f : α → D) {elt tgt iter c : Expr} {scope : Scope} {p : Pos} {src : D} {vmF : List (Str × D)} {bs : D → List (Str × D)}
    (S : Sc K M h) (F : Fm M env vm h) (O : CompOk scope env) (hi : PE prog w M h k (eval iter env) src) (hit : OpIter prog w M h k src (xs.map ι)) (hvm : HV vm scope vmF)
    (hasg : ∀ x ∈ xs, ∀ C, Asg prog w K k (cenvOf scope env C) (fun a => a = C) tgt (ι x) (bs (ι x))) (hbs : ∀ d ∈ xs.map ι, ∀ x e, vmF.lookup x = some e → (bs d).lookup x = none)
    (hitem : ∀ x ∈ xs, ∀ W h' C, (∀ a, M a → W a) → Sc K W h' → Fm W (cenvOf scope env C) (bs (ι x) ++ vmF) h' → PB prog w h' k (isTrue c (cenvOf scope env C) (eval c (cenvOf scope env C))) (q x) ∧ (q x = true → PE prog w W h' k (eval elt (cenvOf scope env C)) (f x)))
    (hlen : xs.length ≤ 100000)
    (hfold : ∀ x, foldedSetIterable iter env x = pure x := by intro _; rfl) :
    PE prog w M h k (eval (.ListComp elt [⟨tgt, iter, [c], 0⟩] scope p) env) (.lst ((xs.filter q).map f)) := by
  have e : ∀ l : List α, l.flatMap (fun x => if q x then [f x] else []) = (l.filter q).map f := by
    intro l
    induction l with
    | nil => rfl
    | cons a l ih =>
      rw [List.flatMap_cons, ih]
      cases hq : q a with
      | true => rw [List.filter_cons_of_pos hq]; rfl
      | false => rw [List.filter_cons_of_neg (by rw [hq]; exact Bool.false_ne_true)]; rfl
  have hl : ((xs.filter q).map f).length ≤ 100000 := by rw [List.length_map]; exact Nat.le_trans (List.length_filter_le _ _) hlen
  have := PE.comp1g (ifs := [c]) (p := p) ι inj xs (fun x => if q x then [f x] else []) S F O hi hit hvm hasg hbs (fun x hx W h' C a b d => by
    obtain ⟨h1, h2⟩ := hitem x hx W h' C a b d
    exact ⟨q x, PT.one h1, fun z => ⟨_, h2 z, by rw [if_pos z]⟩, fun z => by rw [if_neg (by rw [z]; exact Bool.false_ne_true)]⟩) (by rw [e]; exact hl) hfold
  rwa [e] at this
theorem run_assign_comp1m {α : Type} (ι : α → D) (inj : ∀ a b, ι a = ι b → a = b) (xs : List α) (f : α → D) {x : Str} {px pos p : Pos} {elt tgt iter : Expr} {scope : Scope} {src : D} {vmF : List (Str × D)} {bs : D → List (Str × D)} {rest : List Stmt} {Q : Flow → Shared → Prop}
    (R : Run K s₀ W M env vm s) (rm : Room k A) (hk : KindOk env x) (O : CompOk scope env) (hi : PE prog w M s.heap k (eval iter env) src) (hit : OpIter prog w M s.heap k src (xs.map ι)) (hvm : HV vm scope vmF)
    (hasg : ∀ x ∈ xs, ∀ C, Asg prog w K k (cenvOf scope env C) (fun a => a = C) tgt (ι x) (bs (ι x))) (hbs : ∀ d ∈ xs.map ι, ∀ x e, vmF.lookup x = some e → (bs d).lookup x = none)
    (hitem : ∀ x ∈ xs, ∀ W h' C, (∀ a, M a → W a) → Sc K W h' → Fm W (cenvOf scope env C) (bs (ι x) ++ vmF) h' → PE prog w W h' k (eval elt (cenvOf scope env C)) (f x))
    (hlen : xs.length ≤ 100000)
    (hs : swapsWith (.ListComp elt [⟨tgt, iter, [], 0⟩] scope p) (some (.Name x px)) pos.line env = pure true)
    (nx : ∀ s', Run K s₀ W M env ((x, .lst (xs.map f)) :: vm) s' → Ext (Own env) s.heap s'.heap → Go (model prog w) A (execs rest env) Q E s')
    (hfold : ∀ x, foldedSetIterable iter env x = pure x := by intro _; rfl) :
    Go (model prog w) A (execs (.Assign [.Name x px] (.ListComp elt [⟨tgt, iter, [], 0⟩] scope p) pos :: rest) env) Q E s := by
  obtain ⟨g', e⟩ := back_of ι inj fun x => [f x]
  have e2 : (xs.map ι).flatMap g' = xs.map f := (flatMap_back e xs).trans (flatMap_one f xs)
  refine run_assign_comp (bs := bs) (g := g') R rm hk O hi hit hvm.go (fun d hd => ?_) hbs (fun d hd => ?_) (by rw [e2]; simpa using hlen) hs (fun s' R' e' => nx s' (by rw [← e2]; exact R') e') hfold
  · obtain ⟨x, hx, rfl⟩ := List.mem_map.mp hd; exact hasg x hx
  · obtain ⟨x, hx, rfl⟩ := List.mem_map.mp hd
    exact fun W h' C a b c => ⟨true, PT.nil, fun _ => ⟨_, hitem x hx W h' C a b c, e x⟩, fun z => nomatch z⟩
theorem PE.glob {x : Str} {p : Pos} {a : Addr} (hf : Looks (model prog w) h (loadName env x) (.ref a)) (hx : (x == ("__debug__" : Str)) = false) : PE prog w M h k (eval (.Name x p) env) (.ref a) :=
  .of fun A s rm kp => wpAny_Name (hf A _ _ s kp ⟨Kp.refl s, .ref a⟩) hx
theorem PE.callF (f : Value) {x : Str} {q p : Pos} {es : List Expr} {kws : List Keyword} {as : List D} {ks : List (Str × D)} {kpr : Keeper} {d : D}
    (hf : Looks (model prog w) h (loadName env x) f) (hx : (x == ("__debug__" : Str)) = false) (hkeep : Looks (model prog w) h (keeperOf f) kpr)
    (ha : PLs prog w M h k env es as) (hk : PKw prog w M h k env kws ks) (ho : OpN prog w M h k f as ks d)
    (hst : (starEach es env).any (·.1) = false) : PE prog w M h k (eval (.Call (.Name x q) es kws p) env) d := PE.call hf hx hkeep ha hk ho hst
inductive StrsAre : List D → List Str → Prop
  | nil : StrsAre [] []
  | cons {x : Str} {ds : List D} {xs : List Str} : StrsAre ds xs → StrsAre (.str x :: ds) (x :: xs)
theorem StrsAre.eq : ∀ {ds : List D} {xs : List Str}, StrsAre ds xs → ds = xs.map D.str
  | _, _, .nil => rfl
  | _, _, .cons r => by rw [r.eq]; rfl
theorem item_strL {value slice : Expr} {ds : List D} {xs : List Str} {e m : Int} (hx : StrsAre ds xs) (hs : NoSlice slice = true) (hn : IsName value = true) (hm : 0 < m) (hl : m ≤ xs.length) (hb : m ≤ 1000) :
    Op2 prog w M h k (subscriptTail value slice) (.lst ds) (.int (e % m)) (.str (xs.getD (e % m).toNat Str.empty)) := by
  rw [hx.eq]; exact item_strs hs hn hm hl hb
noncomputable def maxLn (xs : List Str) : Nat := xs.foldr (fun x n => max x.length n) 0
theorem Ln.getD {xs : List Str} {i : Nat} : Ln (xs.getD i Str.empty) (maxLn xs) := by
  unfold Ln
  induction xs generalizing i with
  | nil => exact Nat.zero_le _
  | cons x xs ih =>
    cases i with
    | zero => exact Nat.le_max_left _ _
    | succ i => exact Nat.le_trans ih (Nat.le_max_right _ _)
theorem Ln.mul {x : Str} {m : Nat} {n : Int} (hx : Ln x m) : Ln (Txt.mul x n) (m * n.toNat) := len_mul_leN hx (by lia)
theorem Ln.mono {x : Str} {m n : Nat} (hx : Ln x m) (h : m ≤ n) : Ln x n := Nat.le_trans hx h
theorem ln_num {p : Int} (h : 0 ≤ p) (h' : p ≤ 12) : Ln (toString p : String) 2 := by
  have : ∀ n : Fin 13, Nat.ble (Str.ofString (toString ((n.val : Nat) : Int))).length 2 = true := by decide +kernel
  obtain ⟨n, rfl⟩ := Int.eq_ofNat_of_zero_le h
  exact Nat.le_of_ble_eq_true (this ⟨n, by omega⟩)
theorem log2_small {n : Nat} (h : n < 2 ^ 64) : n.log2 < 1920 := by
  by_cases z : n = 0
  · subst z; decide
  · exact Nat.lt_of_lt_of_le ((Nat.log2_lt z).mpr h) (by decide)
theorem run_ret' {pos : Pos} {e : Expr} {rest : List Stmt} {d d' : D} {Q : Flow → Shared → Prop} (rm : Room k A) (pe : PE prog w M s.heap k (eval e env) d) (hd : d = d')
    (q : ∀ v s', Kp s s' → Rd M s'.heap v d' → Q (.ret v) s') : Go (model prog w) A (execs (.Return (some e) pos :: rest) env) Q E s := run_ret rm (pe.to hd) q
theorem PE.ite2 {t b o : Expr} {p : Pos} {c : Bool} {d d' : D} (ht : PB prog w h k (isTrue t env (eval t env)) c)
    (hb : c = true → PE prog w M h k (eval b env) d) (ho : c = false → PE prog w M h k (eval o env) d') : PE prog w M h k (eval (.IfExp t b o p) env) (if c then d else d') := by
  refine PE.ite ht (fun e => ?_) fun e => ?_
  · rw [if_pos e]; exact hb e
  · rw [if_neg (by rw [e]; exact Bool.false_ne_true)]; exact ho e
theorem ite_str {c : Bool} {x y : Str} : (if c then D.str x else D.str y) = D.str (if c then x else y) := by cases c <;> rfl
theorem Ln.ite {c : Bool} {x y : Str} {m n : Nat} (h1 : Ln x m) (h2 : Ln y n) : Ln (if c then x else y) (max m n) := by
  cases c
  · exact Nat.le_trans h2 (Nat.le_max_right _ _)
  · exact Nat.le_trans h1 (Nat.le_max_left _ _)
theorem inj_int : ∀ a b, D.int a = D.int b → a = b := fun a b e => by cases e; rfl
theorem inj_str : ∀ a b, D.str a = D.str b → a = b := fun a b e => by cases e; rfl
theorem Asg.nameC {scope : Scope} {C : Addr} {x : Str} {p : Pos} {d : D} (e : scope.names.lookup x = some .local) (hx : (x == ("__classdict__" : Str)) = false) : Asg prog w K k (cenvOf scope env C) (fun a => a = C) (.Name x p) d [(x, d)] :=
  Asg.name (kindOk_comp e hx) fun a => sto_comp e
theorem Asg.pairC {scope : Scope} {C : Addr} {x y : Str} {px py p : Pos} {n : Nat} {d d' : D} (e : scope.names.lookup x = some .local) (hx : (x == ("__classdict__" : Str)) = false) (e' : scope.names.lookup y = some .local) (hx' : (y == ("__classdict__" : Str)) = false) :
    Asg prog w K k (cenvOf scope env C) (fun a => a = C) (.Tuple [.Name x px, .Name y py] n p) (.tup [d, d']) [(y, d'), (x, d)] :=
  Asg.pair (kindOk_comp e hx) (kindOk_comp e' hx') fun a q => q.elim (sto_comp e) (sto_comp e')
end
end Mine
set_option linter.unusedVariables false
namespace Mine
open PySem PySem.W PySem.Calls PyProof.Rows PySem.Spec PySem.SeqAt
section
variable {prog : Program} {w : World} {K : Frag} {W M : Addr → Prop} {h : Heap} {k : Nat} {env : Env} {vm : List (Str × D)} {A : Around} {E : Value → Shared → Prop} {s : Shared}
noncomputable def EqOk {α : Type} [DecidableEq α] (M : Addr → Prop) (ι : α → D) : Prop := ∀ (A : Around) (s : Shared) (u v : Value) (a b : α), A.units + 1 < cLine → Rd M s.heap u (ι a) → Rd M s.heap v (ι b) → EqAt A s u v (decide (a = b))
theorem EqOk.int : EqOk M D.int := fun A s u v a b _ r1 r2 => by
  cases r1 using Rd.intE0; cases r2 using Rd.intE0
  exact (MeetsSeq.EqGives.int a b _ _).at A s
theorem dec_str {x y : Str} : (x.cps.toList == y.cps.toList) = decide (x = y) := by
  by_cases e : x = y
  · subst e; simp
  · rw [decide_eq_false e]
    refine beq_eq_false_iff_ne.mpr fun z => e ?_
    obtain ⟨a⟩ := x; obtain ⟨b⟩ := y
    exact congrArg Str.mk (Array.toList_inj.mp z)
theorem EqOk.str : EqOk M D.str := fun A s u v a b _ r1 r2 => by
  cases r1 using Rd.strE0; cases r2 using Rd.strE0
  rw [← dec_str]
  exact (SeqRoads2.EqGives.str a b _ _).at A s
theorem all_range_succ {n : Nat} {e : Nat → Bool} : (List.range (n + 1)).all e = (e 0 && (List.range n).all fun j => e (j + 1)) := by
  rw [List.range_succ_eq_map, List.all_cons, List.all_map]; rfl
theorem all_eq {α : Type} [DecidableEq α] : ∀ (xs ys : List α), xs.length = ys.length → ((List.range xs.length).all fun j => decide (xs[j]? = ys[j]?)) = decide (xs = ys)
  | [], [], _ => rfl
  | x :: xs, y :: ys, hl => by
    have ih := all_eq xs ys (by simpa using hl)
    rw [List.length_cons, all_range_succ]
    simp only [List.getElem?_cons_zero, List.getElem?_cons_succ, Option.some.injEq, ih, List.cons.injEq]
    by_cases e1 : x = y <;> by_cases e2 : xs = ys <;> simp [e1, e2]
  | [], _ :: _, hl => by cases hl
  | _ :: _, [], hl => by cases hl
theorem item_eq {α : Type} [DecidableEq α] {ι : α → D} (ok : ∀ (u v : Value) (a b : α), Rd M s.heap u (ι a) → Rd M s.heap v (ι b) → EqAt A s u v (decide (a = b))) {xs ys : List α} {us vs : List Value} (r1 : RdL M s.heap us (xs.map ι)) (r2 : RdL M s.heap vs (ys.map ι)) :
    ∀ j (h1 : j < us.toArray.size) (h2 : j < vs.toArray.size), EqAt A s us.toArray[j] vs.toArray[j] (decide (xs[j]? = ys[j]?)) := by
  intro j h1 h2
  have l1 := r1.length
  have l2 := r2.length
  rw [List.length_map] at l1 l2
  have hj1 : j < xs.length := by rw [← l1]; simpa using h1
  have hj2 : j < ys.length := by rw [← l2]; simpa using h2
  obtain ⟨u, eu, ru⟩ := r1.get (i := j) (d := ι xs[j]) (by rw [List.getElem?_map, List.getElem?_eq_getElem hj1]; rfl)
  obtain ⟨v, ev, rv⟩ := r2.get (i := j) (d := ι ys[j]) (by rw [List.getElem?_map, List.getElem?_eq_getElem hj2]; rfl)
  have hu' : us.toArray[j] = u := by
    have := List.getElem?_eq_some_iff.mp eu
    obtain ⟨_, e⟩ := this
    simpa using e
  have hv' : vs.toArray[j] = v := by
    have := List.getElem?_eq_some_iff.mp ev
    obtain ⟨_, e⟩ := this
    simpa using e
  rw [hu', hv', List.getElem?_eq_getElem hj1, List.getElem?_eq_getElem hj2]
  have := ok u v xs[j] ys[j] ru rv
  have e : decide (some xs[j] = some ys[j]) = decide (xs[j] = ys[j]) := by simp
  rw [e]; exact this
theorem EqOk.pair : EqOk M (fun p : Int × Int => D.tup [.int p.1, .int p.2]) := fun A s u v a b hu r1 r2 => by
  cases r1 using Rd.tupE with
  | @tup x us _ m1 t1 q1 =>
    cases r2 using Rd.tupE with
    | @tup y vs _ m2 t2 q2 =>
      by_cases e : x = y
      · subst e
        have hvs : us = vs := by
          obtain ⟨n, e1⟩ := t1
          obtain ⟨m, e2⟩ := t2
          rw [e1] at e2
          have e3 := congrArg Obj.data (Option.some.inj e2)
          simp only [Data.seq.injEq] at e3
          exact (List.toArray_inj e3.1)
        subst hvs
        have hab : a = b := by
          cases q1 using RdL.consE with
          | cons r rr => cases rr using RdL.consE with
            | cons r' rr' =>
              cases rr' using RdL.nilE
              cases q2 using RdL.consE with
              | cons z zz => cases zz with
                | cons z' zz' =>
                  obtain ⟨a1, a2⟩ := a
                  obtain ⟨b1, b2⟩ := b
                  cases r using Rd.intE0; cases r' using Rd.intE0; cases z; cases z'; rfl
        subst hab
        rw [decide_eq_true rfl]
        exact EqAt.same _
      · have l1 := q1.length
        have l2 := q2.length
        have he := item_eq (A := A.in1) (M := M) (s := s) (ι := D.int) (xs := [a.1, a.2]) (ys := [b.1, b.2]) (fun u v a b r1 r2 => by cases r1 using Rd.intE0; cases r2 using Rd.intE0; exact (MeetsSeq.EqGives.int a b _ _).at A.in1 s) q1 q2
        have := RcAt.tuples (A := A) (e := fun j => decide (([a.1, a.2] : List Int)[j]? = ([b.1, b.2] : List Int)[j]?)) t1.isTup t2.isTup (by lia) he
        refine EqAt.of_refs e ?_
        have hsz : us.toArray.size = 2 := by rw [List.size_toArray, l1]; rfl
        have hsz2 : vs.toArray.size = 2 := by rw [List.size_toArray, l2]; rfl
        rw [hsz, hsz2] at this
        have hh := all_eq [a.1, a.2] [b.1, b.2] rfl
        have ev : ((List.range (min 2 2)).all (fun j => decide (([a.1, a.2] : List Int)[j]? = ([b.1, b.2] : List Int)[j]?)) && 2 == 2) = decide (a = b) := by
          show ((List.range 2).all (fun j => decide (([a.1, a.2] : List Int)[j]? = ([b.1, b.2] : List Int)[j]?)) && true) = _
          rw [Bool.and_true]
          refine hh.trans ?_
          obtain ⟨a1, a2⟩ := a
          obtain ⟨b1, b2⟩ := b
          simp
        rw [ev] at this
        exact this
theorem compareNe_of {a b : Value} {c : Bool} {Q : Value → Shared → Prop} (h : RcNeAt A s a b c) (hq : Q (.bool c) s) : wpAny (model prog w) A (compareOp .NotEq a b) Q E s := h prog w E Q hq
theorem Op2.eq_list {α : Type} [DecidableEq α] {ι : α → D} (ok : ∀ M : Addr → Prop, EqOk M ι) {xs ys : List α} : Op2 prog w M h k (compareOp .Eq) (.lst (xs.map ι)) (.lst (ys.map ι)) (.bool (decide (xs = ys))) := .of fun A s u v rm _ r1 r2 => by
  have hu : A.units + 100 < 9900 := by have := rm.units; lia
  have hc : cLine = 9900 := rfl
  cases r1 using Rd.lstE with
  | @lst x us _ m1 t1 q1 =>
    cases r2 using Rd.lstE with
    | @lst y vs _ m2 t2 q2 =>
      have l1 := q1.length
      have l2 := q2.length
      rw [List.length_map] at l1 l2
      by_cases hl : xs.length = ys.length
      · refine eq_listAt (e := fun j => decide (xs[j]? = ys[j]?)) t1.isList t2.isList (by simp; lia) (by lia) (item_eq (A := A.in1) (fun u v a b r1 r2 => ok M A.in1 s u v a b (by show A.units + 1 + 1 < _; lia) r1 r2) q1 q2) ?_
        rw [show us.toArray.size = xs.length by simpa using l1, all_eq xs ys hl]
        exact ⟨Kp.refl s, .bool _⟩
      · refine eq_list_lengthsAt t1.isList t2.isList (by simp; lia) (by omega) ?_
        rw [decide_eq_false fun e => hl (by rw [e])]
        exact ⟨Kp.refl s, .bool _⟩
theorem Op2.ne_list {α : Type} [DecidableEq α] {ι : α → D} (ok : ∀ M : Addr → Prop, EqOk M ι) {xs ys : List α} : Op2 prog w M h k (compareOp .NotEq) (.lst (xs.map ι)) (.lst (ys.map ι)) (.bool (!decide (xs = ys))) := .of fun A s u v rm _ r1 r2 => by
  have hu : A.units + 100 < 9900 := by have := rm.units; lia
  have hc : cLine = 9900 := rfl
  cases r1 using Rd.lstE with
  | @lst x us _ m1 t1 q1 =>
    cases r2 using Rd.lstE with
    | @lst y vs _ m2 t2 q2 =>
      have l1 := q1.length
      have l2 := q2.length
      rw [List.length_map] at l1 l2
      by_cases hl : xs.length = ys.length
      · refine compareNe_of (RcNeAt.lists (e := fun j => decide (xs[j]? = ys[j]?)) t1.isList t2.isList (by simp; lia) (by lia) (item_eq (A := A.in1) (fun u v a b r1 r2 => ok M A.in1 s u v a b (by show A.units + 1 + 1 < _; lia) r1 r2) q1 q2)) ?_
        rw [show us.toArray.size = xs.length by simpa using l1, all_eq xs ys hl]
        exact ⟨Kp.refl s, .bool _⟩
      · refine compareNe_of (RcNeAt.lists_lengths t1.isList t2.isList (by simp; lia) (by omega)) ?_
        rw [decide_eq_false fun e => hl (by rw [e])]
        exact ⟨Kp.refl s, .bool _⟩
theorem Op2.eq_pair {a b : Int × Int} : Op2 prog w M h k (compareOp .Eq) (.tup [.int a.1, .int a.2]) (.tup [.int b.1, .int b.2]) (.bool (decide (a = b))) := .of fun A s u v rm _ r1 r2 => by
  have hu : A.units + 100 < 9900 := by have := rm.units; lia
  have hc : cLine = 9900 := rfl
  have := EqOk.pair (M := M) A s u v a b (by lia) r1 r2
  cases r1 using Rd.tupE with
  | @tup x us _ m1 t1 q1 =>
    cases r2 using Rd.tupE with
    | @tup y vs _ m2 t2 q2 =>
      have hI : EqOk M D.int := EqOk.int
      have l1 := q1.length
      have l2 := q2.length
      have hsz : us.toArray.size = 2 := by rw [List.size_toArray, l1]; rfl
      have hsz2 : vs.toArray.size = 2 := by rw [List.size_toArray, l2]; rfl
      refine eq_tupleAt (e := fun j => decide (([a.1, a.2] : List Int)[j]? = ([b.1, b.2] : List Int)[j]?)) t1.isTup t2.isTup (by lia) (item_eq (A := A.in1) (M := M) (ι := D.int) (xs := [a.1, a.2]) (ys := [b.1, b.2]) (fun u v a b r1 r2 => by cases r1 using Rd.intE0; cases r2 using Rd.intE0; exact (MeetsSeq.EqGives.int a b _ _).at A.in1 s) q1 q2) ?_
      have hh := all_eq [a.1, a.2] [b.1, b.2] rfl
      have ev : ((List.range (min 2 2)).all (fun j => decide (([a.1, a.2] : List Int)[j]? = ([b.1, b.2] : List Int)[j]?)) && 2 == 2) = decide (a = b) := by
        show ((List.range 2).all (fun j => decide (([a.1, a.2] : List Int)[j]? = ([b.1, b.2] : List Int)[j]?)) && true) = _
        rw [Bool.and_true]
        refine hh.trans ?_
        obtain ⟨a1, a2⟩ := a
        obtain ⟨b1, b2⟩ := b
        simp
      rw [hsz, hsz2, ev]
      exact ⟨Kp.refl s, .bool _⟩
theorem Op2.in_ints {i : Int} {xs : List Int} : Op2 prog w M h k (compareOp .In) (.int i) (.tup (xs.map D.int)) (.bool (decide (i ∈ xs))) := .of fun A s u v rm _ r1 r2 => by
  cases r1 using Rd.intE with
  | int _ t =>
    cases r2 using Rd.tupE with
    | @tup y vs _ m2 t2 q2 =>
      refine in_tupleAt (fun y => match y with | .int j _ => j == i | _ => false) t2.isTup (fun y hy => ?_) ?_
      · obtain ⟨j, hj⟩ := List.mem_iff_getElem?.mp (by simpa using hy : y ∈ vs)
        have hlt : j < xs.length := by
          have := (List.getElem?_eq_some_iff.mp hj).1
          rw [q2.length, List.length_map] at this; exact this
        obtain ⟨v', ev, rv⟩ := q2.get (i := j) (d := .int xs[j]) (by rw [List.getElem?_map, List.getElem?_eq_getElem hlt]; rfl)
        rw [hj] at ev; cases ev
        cases rv using Rd.intE0
        exact (MeetsSeq.EqGives.int _ i _ _).at A.in1 s
      · have key : ∀ (xs : List Int) (vs : List Value), RdL M s.heap vs (xs.map D.int) → vs.any (fun y => match y with | .int j _ => j == i | _ => false) = decide (i ∈ xs) := by
          intro xs
          induction xs with
          | nil => intro vs q; cases q using RdL.nilE; simp
          | cons x xs ih =>
            intro vs q
            cases q using RdL.consE with
            | cons r rr =>
              cases r using Rd.intE0
              rw [List.any_cons, ih _ rr]
              by_cases e : x = i
              · subst e; simp
              · have e' : ¬ i = x := fun z => e z.symm
                simp [e, e']
        rw [List.any_toArray, key xs vs q2]
        exact ⟨Kp.refl s, .bool _⟩
end
end Mine
set_option linter.unusedVariables false
namespace Mine
open PySem PySem.W PySem.Calls PyProof.Rows PySem.Spec
section
variable {prog : Program} {w : World} {K : Frag} {M : Addr → Prop} {h : Heap} {k : Nat}
theorem OpN.type_str {x : Str} : OpN prog w M h k (.type "type") [.str x] [] (.ty "str") := .of fun A s vs us rm kp r1 r2 => by
  cases r2 using RdL.nilE
  cases r1 using RdL.consE with
  | cons r r' =>
    cases r' using RdL.nilE; cases r using Rd.strE0
    exact call_type_of (typeIs_str _ _ _) (by decide) ⟨Kp.refl s, .ty _⟩
theorem OpN.type_lst {ds : List D} : OpN prog w M h k (.type "type") [.lst ds] [] (.ty "list") := .of fun A s vs us rm kp r1 r2 => by
  cases r2 using RdL.nilE
  cases r1 using RdL.consE with
  | cons r r' =>
    cases r' using RdL.nilE
    cases r using Rd.lstE with
    | lst n hl hr => exact call_type_of hl.isList.typeIs (by decide) ⟨Kp.refl s, .ty _⟩
theorem Op2.is_ty {a : String} : Op2 prog w M h k (compareOp .Is) (.ty a) (.ty a) (.bool true) := .of fun A s u v rm kp r1 r2 => by
  cases r1 using Rd.tyE0; cases r2 using Rd.tyE0
  exact wpAny_is_self (by rfl) ⟨Kp.refl s, .bool _⟩
theorem Op2.isNot_ty {a : String} : Op2 prog w M h k (compareOp .IsNot) (.ty a) (.ty a) (.bool false) := .of fun A s u v rm kp r1 r2 => by
  cases r1 using Rd.tyE0; cases r2 using Rd.tyE0
  exact wpAny_isNot_self (by rfl) ⟨Kp.refl s, .bool _⟩
theorem Op2.eq_str' {x y : Str} : Op2 prog w M h k (compareOp .Eq) (.str x) (.str y) (.bool (decide (x = y))) := .of fun A s u v rm kp r1 r2 => by
  cases r1 using Rd.strE0; cases r2 using Rd.strE0
  refine P.eq_str ?_
  rw [dec_str]
  exact ⟨Kp.refl s, .bool _⟩
theorem Op2.ne_str' {x y : Str} : Op2 prog w M h k (compareOp .NotEq) (.str x) (.str y) (.bool (!decide (x = y))) := .of fun A s u v rm kp r1 r2 => by
  cases r1 using Rd.strE0; cases r2 using Rd.strE0
  refine P.ne_str ?_
  rw [show (_ != _) = !(_ == _) from rfl, dec_str]
  exact ⟨Kp.refl s, .bool _⟩
theorem tup_item0 {value slice : Expr} {d : D} {ds : List D} (hs : NoSlice slice = true) (hn : IsName value = true) : Op2 prog w M h k (subscriptTail value slice) (.tup (d :: ds)) (.int 0) d := .of fun A s u v rm kp r1 r2 => by
  cases r2 using Rd.intE with
  | int _ t =>
    cases r1 using Rd.tupE with
    | tup n ht hr =>
      cases hr using RdL.consE with
      | cons q qq =>
        obtain ⟨c, ho⟩ := id ht
        exact subscriptTail_builtin (T := "tuple") ⟨_, ho, rfl⟩ PySem.F.slot_tuple_getitem.lookup (PyProof.Rows.getItem_tuple (j := 0) ht.isTup (by decide) (by decide) (by simp [seqIndex?]) (by simp) ⟨Kp.refl s, q⟩) (subscripted_plain hs) (fun r => letGo_name hn)
noncomputable def isNoneD : D → Bool
  | .none => true
  | _ => false
theorem is_noneD {s : Shared} {u : Value} {d : D} (r : Rd M s.heap u d) : (u == Value.none) = isNoneD d := by
  cases r <;> rfl
theorem Op2.is_none {d : D} : Op2 prog w M h k (compareOp .Is) d .none (.bool (isNoneD d)) := .of fun A s u v rm kp r1 r2 => by
  cases r2 using Rd.noneE
  refine PySem.is_none ?_
  rw [is_noneD r1]
  exact ⟨Kp.refl s, .bool _⟩
theorem Op2.isNot_none {d : D} : Op2 prog w M h k (compareOp .IsNot) d .none (.bool (!isNoneD d)) := .of fun A s u v rm kp r1 r2 => by
  cases r2 using Rd.noneE
  refine PySem.isNot_none ?_
  rw [is_noneD r1]
  exact ⟨Kp.refl s, .bool _⟩
theorem glob_ty {env : Env} {x : Str} {p : Pos} {n : String} (hf : Looks (model prog w) h (loadName env x) (.type n)) (hx : (x == ("__debug__" : Str)) = false) : PE prog w M h k (eval (.Name x p) env) (.ty n) :=
  .of fun A s rm kp => wpAny_Name (hf A _ _ s kp ⟨Kp.refl s, .ty n⟩) hx
end
end Mine
set_option linter.unusedVariables false
namespace Mine
open PySem PySem.W PySem.Calls PyProof.Rows PySem.Spec PySem.Builtin PySem.Builtin.Str
theorem pctA {a b : PySem.Str} {t ta tb : Tok} {x : Addr} (ha : a.length ≤ 1000000) (hb : b.length ≤ 1000000) :
    Meets («str.__mod__» ⟨[.str ⟨#[37, 115, 58, 32, 37, 115]⟩ t, .ref x], []⟩) (fun _ R s => IsTup s.heap x #[.str a ta, .str b tb] ∧ ∀ t' k, R (.ok (.ret (.str (a ++ PySem.Str.ofString ": " ++ b) t'))) { s with toks := k }) := by
  kpt_run
section
variable {prog : Program} {w : World} {K : Frag} {M : Addr → Prop} {h : Heap} {k : Nat}
theorem mod_tup {A : Around} {E : Value → Shared → Prop} {s : Shared} {X X' T : PySem.Str} {t : Tok} {Q : Value → Shared → Prop} {b : Addr} {its : Array Value} (ht : IsTup s.heap b its) (hX : X = X')
    (hm : Meets («str.__mod__» ⟨[.str X' t, .ref b], []⟩) (fun _ R s => IsTup s.heap b its ∧ ∀ t' k, R (.ok (.ret (.str T t'))) { s with toks := k }))
    (h : ∀ t' k, Q (.str T t') { s with toks := k }) : wpAny (model prog w) A (binaryOp .Mod (.str X t) (.ref b)) Q E s := by
  subst hX
  have hT : s.TypeIs (.ref b) "tuple" := by
    obtain ⟨o, ho, hc, _⟩ := ht
    exact ⟨o, ho, hc⟩
  exact KPt.bin_left (T := "str") (U := "tuple") (op := .Mod) (by decide) (typeIs_str s X t) hT F.fills_str_mod KPt.fills_tuple F.slot_str_mod
    (call_meets F.slot_str_mod (typeIs_str s X t) F.entry_str_mod (F.args_str_mod_2 _ _) hm ⟨ht, fun t' k => ⟨(fun e => nomatch e), h t' k⟩⟩)
theorem Op2.pctA {a b : PySem.Str} (ha : a.length ≤ 1000000) (hb : b.length ≤ 1000000) : Op2 prog w M h k (binaryOp .Mod) (.str (PySem.Str.ofString "%s: %s")) (.tup [.str a, .str b]) (.str (a ++ PySem.Str.ofString ": " ++ b)) := .of fun A s u v rm kp r1 r2 => by
  cases r1 using Rd.strE0
  cases r2 using Rd.tupE with
  | tup n ht hr => cases hr using RdL.consE with
    | cons q qq => cases qq with
      | cons z zz =>
        cases zz; cases q using Rd.strE0; cases z
        exact mod_tup ht.isTup (by decide +kernel) (Mine.pctA ha hb) fun t' k' => ⟨Kp.tok s _, .str _ _⟩
end
end Mine
namespace Mine
open PySem PySem.W PySem.Calls PyProof.Rows PySem.Spec
namespace B
theorem slot_sub : Slot "re.Pattern" "sub" "re.Pattern.sub" :=
  .of (owner := "re.Pattern") (n := "sub") (by rw [typeLookup_type, builtinLookup_eq_fast]; kernel_rfl) (by decide +kernel) (by decide +kernel) (by decide +kernel)
    (by first | exact .inl (by decide +kernel) | exact .inr (by decide +kernel)) (by rw [isSubtype_type]; kernel_rfl)
theorem type_sub : typeOf (.builtin "re.Pattern.sub") = pure (.type "method_descriptor") := by show builtinType _ = _; rw [builtinType_eq_fast]; kernel_rfl
theorem entry_sub : entryFor table "re.Pattern.sub" = some Builtin.«re.Pattern.sub» := entryFor_of_tree (by kernel_rfl)
theorem args_sub (a b c : Value) : argsOk "re.Pattern.sub" ⟨[a, b, c], []⟩ := by unfold argsOk; kernel_rfl
theorem slot_search : Slot "re.Pattern" "search" "re.Pattern.search" :=
  .of (owner := "re.Pattern") (n := "search") (by rw [typeLookup_type, builtinLookup_eq_fast]; kernel_rfl) (by decide +kernel) (by decide +kernel) (by decide +kernel)
    (by first | exact .inl (by decide +kernel) | exact .inr (by decide +kernel)) (by rw [isSubtype_type]; kernel_rfl)
theorem type_search : typeOf (.builtin "re.Pattern.search") = pure (.type "method_descriptor") := by show builtinType _ = _; rw [builtinType_eq_fast]; kernel_rfl
theorem entry_search : entryFor table "re.Pattern.search" = some Builtin.«re.Pattern.search» := entryFor_of_tree (by kernel_rfl)
theorem args_search (a b : Value) : argsOk "re.Pattern.search" ⟨[a, b], []⟩ := by unfold argsOk; kernel_rfl
theorem slot_count : Slot "bytes" "count" "bytes.count" :=
  .of (owner := "bytes") (n := "count") (by rw [typeLookup_type, builtinLookup_eq_fast]; kernel_rfl) (by decide +kernel) (by decide +kernel) (by decide +kernel)
    (by first | exact .inl (by decide +kernel) | exact .inr (by decide +kernel)) (by rw [isSubtype_type]; kernel_rfl)
theorem type_count : typeOf (.builtin "bytes.count") = pure (.type "method_descriptor") := by show builtinType _ = _; rw [builtinType_eq_fast]; kernel_rfl
theorem entry_count : entryFor table "bytes.count" = some Builtin.«bytes.count» := entryFor_of_tree (by kernel_rfl)
theorem args_count (a b : Value) : argsOk "bytes.count" ⟨[a, b], []⟩ := by unfold argsOk; kernel_rfl
theorem slot_bjoin : Slot "bytes" "join" "bytes.join" :=
  .of (owner := "bytes") (n := "join") (by rw [typeLookup_type, builtinLookup_eq_fast]; kernel_rfl) (by decide +kernel) (by decide +kernel) (by decide +kernel)
    (by first | exact .inl (by decide +kernel) | exact .inr (by decide +kernel)) (by rw [isSubtype_type]; kernel_rfl)
theorem entry_bjoin : entryFor table "bytes.join" = some Builtin.«bytes.join» := entryFor_of_tree (by kernel_rfl)
theorem args_bjoin (a b : Value) : argsOk "bytes.join" ⟨[a, b], []⟩ := by unfold argsOk; kernel_rfl
theorem slot_decode : Slot "bytes" "decode" "bytes.decode" :=
  .of (owner := "bytes") (n := "decode") (by rw [typeLookup_type, builtinLookup_eq_fast]; kernel_rfl) (by decide +kernel) (by decide +kernel) (by decide +kernel)
    (by first | exact .inl (by decide +kernel) | exact .inr (by decide +kernel)) (by rw [isSubtype_type]; kernel_rfl)
theorem type_decode : typeOf (.builtin "bytes.decode") = pure (.type "method_descriptor") := by show builtinType _ = _; rw [builtinType_eq_fast]; kernel_rfl
theorem entry_decode : entryFor table "bytes.decode" = some Builtin.«bytes.decode» := entryFor_of_tree (by kernel_rfl)
theorem args_decode (a b : Value) : argsOk "bytes.decode" ⟨[a, b], []⟩ := by unfold argsOk; kernel_rfl
theorem plain_pat : PlainAttrs "re.Pattern" :=
  ⟨⟨"object.__getattribute__", by rw [typeLookup_type, builtinLookup_eq_fast]; kernel_rfl, by decide +kernel⟩, by rw [typeLookup_type, builtinLookup_eq_fast]; kernel_rfl⟩
theorem entry_subloop : entryFor table "re.Pattern.sub.loop" = some Builtin.«re.Pattern.sub.loop» := entryFor_of_tree (by kernel_rfl)
theorem bytes_nocall : typeLookup (.type "bytes") "__call__" = pure none := by rw [typeLookup_type, builtinLookup_eq_fast]; kernel_rfl
end B
end Mine
set_option linter.unusedVariables false
namespace Mine
open PySem
namespace Q
noncomputable abbrev M := Sre.M
noncomputable abbrev Loop := Sre.Loop
noncomputable abbrev Frame := Sre.Frame
noncomputable abbrev Seen := Sre.Seen
noncomputable abbrev Kept := Sre.Kept
noncomputable def To (n : Nat) (m m' : M) : Prop := ∃ j, j ≤ n ∧ ∀ i, Sre.M.runFor (j + i) m = Sre.M.runFor i m'
theorem To.trans {a b : Nat} {m m' m'' : M} (x : To a m m') (y : To b m' m'') : To (a + b) m m'' := by
  obtain ⟨j, hj, e⟩ := x
  obtain ⟨j', hj', e'⟩ := y
  exact ⟨j + j', by lia, fun i => by rw [Nat.add_assoc, e, e']⟩
theorem To.mono {a b : Nat} {m m' : M} (x : To a m m') (h : a ≤ b) : To b m m' := by obtain ⟨j, hj, e⟩ := x; exact ⟨j, by lia, e⟩
theorem To.step {m m' : M} (h : m.outcome = none) (e : m.step = m') : To 1 m m' := ⟨1, Nat.le_refl _, fun i => by
  rw [Nat.add_comm]
  show (if m.outcome.isSome then m else Sre.M.runFor i m.step) = _
  rw [h, e]; rfl⟩
theorem To.go {a : Nat} {m m' m'' : M} (h : m.outcome = none) (e : m.step = m') (x : To a m' m'') : To (a + 1) m m'' := by
  have := (To.step h e).trans x
  rwa [Nat.add_comm] at this
noncomputable def codeQ : Array Nat := #[14,8,1,2,4294967295,1,1,34,0,16,34,28,22,0,4294967295,7,11,13,7,21,16,34,16,92,0,15,8,6,16,92,2,15,2,0,1,16,34,1]
noncomputable abbrev St (text : Array Nat) (start pc pos handed : Nat) (outermost : Bool) (loops : Array Loop) (inner : Option Nat) (frames : List Frame) (weight : Nat) (answer : Option Bool) (seen : Seen) : M :=
  { code := codeQ, text, lim := text.size, start, lastStart := text.size, wholeText := false, mustAdvance := false, pc, pos, handed, outermost, marks := #[], lastmark := -1, lastindex := -1, loops, inner, frames, weight, answer, seen, outcome := none }
noncomputable abbrev F0 (s : Nat) (first : Bool) : Frame := { wait := .nextStart, pc := 9, pos := s, outermost := first }
variable {text : Array Nat} {start pc pos handed weight s c : Nat} {outermost first : Bool} {loops : Array Loop} {inner : Option Nat} {frames : List Frame} {seen sn : Seen} {op : Sre.Op}
noncomputable abbrev L0 : Array Loop := #[{ pc := 0, outer := none }]
noncomputable abbrev Kp0 : Kept := { whole := true }
noncomputable abbrev FB (pc pos : Nat) : Frame := { wait := .nextBranch, pc, pos, outermost := false, kept := Kp0 }
noncomputable abbrev FP (pos : Nat) (count : Int) (o : Bool) : Frame := { wait := .possMore, pc := 11, pos, outermost := o, count, kept := Kp0 }
theorem exec_step {m : M} (h : m.outcome = none) (h' : m.answer = none) (h2 : m.pc < m.code.size) : m.step = m.exec := by
  unfold Sre.M.step
  rw [h, h']
  show (if m.pc < m.code.size then m.exec else m.stick "code:ran-off") = _
  rw [if_pos h2]
noncomputable def OneOp (op : Sre.Op) : Bool := match op with | .LITERAL | .IN | .ANY => true | _ => false
theorem one_eq {m : M} (hop : Sre.ops[m.word 0]? = some op) (h1 : OneOp op = true) : m.exec =
    if m.pos ≥ m.lim then ({ m with seen := m.seen.add (m.word 0) } : M).say false else
    match Sre.accepts m.code m.pc (m.text.getD m.pos 0) (m.seen.add (m.word 0)) with
    | .error why => ({ m with seen := m.seen.add (m.word 0) } : M).stick why
    | .ok (false, seen) => { m with seen }.say false
    | .ok (true, seen) => { m with seen, pc := m.pc + Sre.itemWidth m.code m.pc, pos := m.pos + 1 } := by
  unfold Sre.M.exec
  rw [hop]
  cases op <;> first | rfl | cases h1
theorem one_yes {m : M} (hop : Sre.ops[m.word 0]? = some op) (h1 : OneOp op = true) (hp : m.pos < m.lim) (ha : Sre.accepts m.code m.pc (m.text.getD m.pos 0) (m.seen.add (m.word 0)) = .ok (true, sn)) :
    m.exec = { m with seen := sn, pc := m.pc + Sre.itemWidth m.code m.pc, pos := m.pos + 1 } := by
  rw [one_eq hop h1, if_neg (by lia), ha]
theorem one_no {m : M} (hop : Sre.ops[m.word 0]? = some op) (h1 : OneOp op = true) (hp : m.pos < m.lim) (ha : Sre.accepts m.code m.pc (m.text.getD m.pos 0) (m.seen.add (m.word 0)) = .ok (false, sn)) :
    m.exec = { m with seen := sn, answer := some false } := by
  rw [one_eq hop h1, if_neg (by lia), ha]; rfl
theorem one_end {m : M} (hop : Sre.ops[m.word 0]? = some op) (h1 : OneOp op = true) (hp : m.lim ≤ m.pos) :
    m.exec = { m with seen := m.seen.add (m.word 0), answer := some false } := by
  rw [one_eq hop h1, if_pos hp]; rfl
theorem getD_in (hs : s < text.size) : text.getD s 0 = text[s] := by simp [Array.getD, hs]
theorem acc9 (s' : Seen) : Sre.accepts codeQ 9 c s' = .ok (c == 34, s') := rfl
theorem acc35 (s' : Seen) : Sre.accepts codeQ 35 c s' = .ok (c == 34, s') := rfl
theorem acc28 (s' : Seen) : Sre.accepts codeQ 28 c s' = .ok (c == 92, s') := rfl
theorem acc30 (s' : Seen) : Sre.accepts codeQ 30 c s' = .ok (c != 10, s') := rfl
theorem acc17 (s' : Seen) : ∃ s'', Sre.accepts codeQ 17 c s' = .ok (!(c == 34) && !(c == 92), s'') := by
  have e : Sre.accepts codeQ 17 c s' = (if (c == 34) = true then .ok (false, ((s'.add 21).add 16)) else if (c == 92) = true then .ok (false, (((s'.add 21).add 16).add 16)) else .ok (!false, ((((s'.add 21).add 16).add 16).add 0))) := rfl
  rw [e]
  cases h1 : c == 34 <;> cases h2 : c == 92 <;> exact ⟨_, rfl⟩
theorem next_start (h : s < text.size) (hf : loops = #[] ∧ inner = none) : ∀ (sn : Seen) (p hd : Nat), To 1 (St text s 9 p hd first loops inner [F0 s first] 1 (some false) sn) (St text (s+1) 9 (s+1) (s+1) false loops inner [F0 (s+1) false] 1 none sn) := by
  intro sn p hd
  refine To.step rfl ?_
  show (if s < text.size then _ else _) = _
  rw [if_pos h]; rfl
theorem no_quote (hs : s < text.size) (hp : text[s] ≠ 34) : ∃ sn, To 2 (St text s 9 s handed first #[] none [F0 s first] 1 none seen) (St text (s+1) 9 (s+1) (s+1) false #[] none [F0 (s+1) false] 1 none sn) := by
  refine ⟨_, To.go rfl ((exec_step rfl rfl (by decide : 9 < codeQ.size)).trans (one_no (op := .LITERAL) rfl rfl hs ?_)) (next_start hs ⟨rfl, rfl⟩ (seen.add 16) s handed)⟩
  rw [getD_in hs]
  show Sre.accepts codeQ 9 _ _ = _
  rw [acc9, beq_eq_false_iff_ne.mpr hp]; rfl
noncomputable abbrev SB (text : Array Nat) (s : Nat) (first : Bool) (p : Nat) (cnt : Nat) (o : Bool) (sn : Seen) : M := St text s 15 p p false L0 (some 0) [FP p (cnt : Int) o, F0 s first] 2 none sn
noncomputable abbrev SA (text : Array Nat) (s : Nat) (first : Bool) (p : Nat) (cnt : Nat) (o : Bool) (b : Nat) (pc pos handed : Nat) (answer : Option Bool) (sn : Seen) : M := St text s pc pos handed false L0 (some 0) [FB b p, FP p (cnt : Int) o, F0 s first] 3 answer sn
variable {p cnt : Nat} {o : Bool}
theorem st_branch : To 1 (SB text s first p cnt o sn) (SA text s first p cnt o 16 17 p p none (sn.add 7)) := To.step rfl rfl
theorem ex_jump25 {pos h : Nat} {b : Nat} : To 1 (SA text s first p cnt o b 25 pos h none sn) (SA text s first p cnt o b 34 pos h none (sn.add 15)) := To.step rfl rfl
theorem ex_jump31 {pos h : Nat} {b : Nat} : To 1 (SA text s first p cnt o b 31 pos h none sn) (SA text s first p cnt o b 34 pos h none (sn.add 15)) := To.step rfl rfl
theorem poss_more {m : M} {i : Nat} {count : Int} {began : Option Nat} (h2 : m.word 2 = 0) (h3 : m.word 3 = Sre.maxRepeat) (hc : 0 ≤ count) (hb : (began != some m.handed) = true) :
    m.possessive i count began = m.attempt { m.frame .possMore with pos := m.handed, loop := i, count, kept := m.keep true } (m.pc + 4) m.handed false := by
  unfold Sre.M.possessive
  dsimp only
  rw [h2, h3, if_neg (by lia), hb, beq_self_eq_true, Bool.or_true, Bool.and_true, if_pos rfl]
theorem poss_end {m : M} {i : Nat} {count : Int} {began : Option Nat} (h2 : m.word 2 = 0) (hc : 0 ≤ count) (hb : (began != some m.handed) = false) :
    m.possessive i count began = { m with inner := (m.loopAt i).outer, loops := m.loops.pop, pc := m.pc + 2 + m.word 1, pos := m.handed } := by
  unfold Sre.M.possessive
  dsimp only
  rw [h2, if_neg (by lia), hb, Bool.and_false, if_neg Bool.false_ne_true]
theorem step_resume {m : M} {f : Frame} {rest : List Frame} {yes : Bool} (h : m.outcome = none) (ha : m.answer = some yes) (hf : m.frames = f :: rest) :
    m.step = Sre.M.resume { m with answer := none, frames := rest, weight := m.weight - (1 + f.kept.marks.size), pc := f.pc, pos := f.pos, outermost := f.outermost } f yes := by
  unfold Sre.M.step
  rw [h, ha, hf]; rfl
theorem resume_poss_yes {m : M} {f : Frame} (hw : f.wait = .possMore) : m.resume f true = m.possessive f.loop (f.count + 1) (some f.pos) := by
  obtain ⟨w, _⟩ := f; subst hw; rfl
theorem resume_poss_no {m : M} {f : Frame} (hw : f.wait = .possMore) : m.resume f false = ({ m.putBack f.kept with handed := f.pos } : M).possessive f.loop f.count (some f.pos) := by
  obtain ⟨w, _⟩ := f; subst hw; rfl
theorem turn_yes {pos h b : Nat} (hb : b = 16 ∨ b = 27) (hne : p ≠ pos) : ∃ sn', To 3 (SA text s first p cnt o b 34 pos h none sn) (SB text s first pos (cnt + 1) o sn') := by
  refine ⟨sn.add 1, To.go (m' := SA text s first p cnt o b 34 pos pos (some true) (sn.add 1)) rfl rfl (To.go (m' := St text s b p pos false L0 (some 0) [FP p (cnt : Int) o, F0 s first] 2 (some true) (sn.add 1)) rfl rfl (To.step rfl ?_))⟩
  refine (step_resume rfl rfl rfl).trans ((resume_poss_yes rfl).trans ((poss_more (by rfl) (by rfl) ?_ ?_).trans rfl))
  · show (0 : Int) ≤ (cnt : Int) + 1; lia
  · show ((some p : Option Nat) != some pos) = true; simpa using hne
theorem alt_two {pos h : Nat} : To 1 (SA text s first p cnt o 16 pc pos h (some false) sn) (SA text s first p cnt o 27 28 p p none sn) := To.step rfl rfl
theorem alt_end {pos h : Nat} : To 2 (SA text s first p cnt o 27 pc pos h (some false) sn) (St text s 35 p p o #[] none [F0 s first] 1 none sn) := by
  refine To.go (m' := St text s 27 p h false L0 (some 0) [FP p (cnt : Int) o, F0 s first] 2 (some false) sn) rfl rfl (To.step rfl ?_)
  refine (step_resume rfl rfl rfl).trans ((resume_poss_no rfl).trans ((poss_end (by rfl) ?_ ?_).trans rfl))
  · show (0 : Int) ≤ (cnt : Int); lia
  · show ((some p : Option Nat) != some p) = false; simp
theorem in_yes (hp : p < text.size) (h1 : text[p] ≠ 34) (h2 : text[p] ≠ 92) : ∃ sn', To 1 (SA text s first p cnt o 16 17 p p none sn) (SA text s first p cnt o 16 25 (p+1) p none sn') := by
  obtain ⟨sn', e⟩ := acc17 (c := text[p]) (sn.add 13)
  refine ⟨sn', To.step rfl ((exec_step rfl rfl (by decide : 17 < codeQ.size)).trans (one_yes (op := .IN) rfl rfl hp (sn := sn') ?_))⟩
  rw [getD_in hp]
  show Sre.accepts codeQ 17 _ _ = _
  rw [beq_eq_false_iff_ne.mpr h1, beq_eq_false_iff_ne.mpr h2] at e
  exact e
theorem in_no (h : ∀ hp : p < text.size, text[p] = 34 ∨ text[p] = 92) : ∃ sn', To 1 (SA text s first p cnt o 16 17 p p none sn) (SA text s first p cnt o 16 17 p p (some false) sn') := by
  by_cases hp : p < text.size
  · obtain ⟨sn', e⟩ := acc17 (c := text[p]) (sn.add 13)
    refine ⟨sn', To.step rfl ((exec_step rfl rfl (by decide : 17 < codeQ.size)).trans (one_no (op := .IN) rfl rfl hp (sn := sn') ?_))⟩
    rw [getD_in hp]
    show Sre.accepts codeQ 17 _ _ = _
    rcases h hp with q | q <;> (rw [q] at e ⊢; exact e)
  · exact ⟨_, To.step rfl ((exec_step rfl rfl (by decide : 17 < codeQ.size)).trans (one_end (op := .IN) rfl rfl (Nat.le_of_not_lt hp)))⟩
theorem esc_yes (hp : p < text.size) (h : text[p] = 92) : ∃ sn', To 1 (SA text s first p cnt o 27 28 p p none sn) (SA text s first p cnt o 27 30 (p+1) p none sn') := by
  refine ⟨_, To.step rfl ((exec_step rfl rfl (by decide : 28 < codeQ.size)).trans (one_yes (op := .LITERAL) rfl rfl hp (sn := sn.add 16) ?_))⟩
  rw [getD_in hp]
  show Sre.accepts codeQ 28 _ _ = _
  rw [acc28, h]; rfl
theorem esc_no (h : ∀ hp : p < text.size, text[p] ≠ 92) : ∃ sn', To 1 (SA text s first p cnt o 27 28 p p none sn) (SA text s first p cnt o 27 28 p p (some false) sn') := by
  by_cases hp : p < text.size
  · refine ⟨_, To.step rfl ((exec_step rfl rfl (by decide : 28 < codeQ.size)).trans (one_no (op := .LITERAL) rfl rfl hp (sn := sn.add 16) ?_))⟩
    rw [getD_in hp]
    show Sre.accepts codeQ 28 _ _ = _
    rw [acc28, beq_eq_false_iff_ne.mpr (h hp)]; rfl
  · exact ⟨_, To.step rfl ((exec_step rfl rfl (by decide : 28 < codeQ.size)).trans (one_end (op := .LITERAL) rfl rfl (Nat.le_of_not_lt hp)))⟩
theorem any_yes {q h : Nat} (hp : q < text.size) (hn : text[q] ≠ 10) : ∃ sn', To 1 (SA text s first p cnt o 27 30 q h none sn) (SA text s first p cnt o 27 31 (q+1) h none sn') := by
  refine ⟨_, To.step rfl ((exec_step rfl rfl (by decide : 30 < codeQ.size)).trans (one_yes (op := .ANY) rfl rfl hp (sn := sn.add 2) ?_))⟩
  rw [getD_in hp]
  show Sre.accepts codeQ 30 _ _ = _
  rw [acc30]
  have : (text[q] != 10) = true := by simpa using hn
  rw [this]; rfl
theorem any_no {q h : Nat} (hn : ∀ hp : q < text.size, text[q] = 10) : ∃ sn', To 1 (SA text s first p cnt o 27 30 q h none sn) (SA text s first p cnt o 27 30 q h (some false) sn') := by
  by_cases hp : q < text.size
  · refine ⟨_, To.step rfl ((exec_step rfl rfl (by decide : 30 < codeQ.size)).trans (one_no (op := .ANY) rfl rfl hp (sn := sn.add 2) ?_))⟩
    rw [getD_in hp]
    show Sre.accepts codeQ 30 _ _ = _
    rw [acc30, hn hp]; rfl
  · exact ⟨_, To.step rfl ((exec_step rfl rfl (by decide : 30 < codeQ.size)).trans (one_end (op := .ANY) rfl rfl (Nat.le_of_not_lt hp)))⟩
theorem unit1 (hp : p < text.size) (h1 : text[p] ≠ 34) (h2 : text[p] ≠ 92) : ∃ sn', To 9 (SB text s first p cnt o sn) (SB text s first (p+1) (cnt+1) o sn') := by
  obtain ⟨s1, e1⟩ := in_yes (s := s) (first := first) (cnt := cnt) (o := o) (sn := sn.add 7) hp h1 h2
  obtain ⟨s2, e2⟩ := turn_yes (text := text) (s := s) (first := first) (p := p) (cnt := cnt) (o := o) (pos := p+1) (h := p) (b := 16) (sn := s1.add 15) (.inl rfl) (by lia)
  exact ⟨s2, (((st_branch.trans e1).trans ex_jump25).trans e2).mono (by exact Nat.le_add_left _ _)⟩
theorem unit2 (hp : p + 1 < text.size) (h1 : text[p] = 92) (h2 : text[p+1] ≠ 10) : ∃ sn', To 9 (SB text s first p cnt o sn) (SB text s first (p+2) (cnt+1) o sn') := by
  obtain ⟨s1, e1⟩ := in_no (s := s) (first := first) (cnt := cnt) (o := o) (sn := sn.add 7) (p := p) (text := text) fun hp => .inr h1
  obtain ⟨s2, e2⟩ := esc_yes (s := s) (first := first) (cnt := cnt) (o := o) (sn := s1) (p := p) (by omega) h1
  obtain ⟨s3, e3⟩ := any_yes (s := s) (first := first) (cnt := cnt) (o := o) (sn := s2) (p := p) (h := p) hp h2
  obtain ⟨s4, e4⟩ := turn_yes (text := text) (s := s) (first := first) (p := p) (cnt := cnt) (o := o) (pos := p+2) (h := p) (b := 27) (sn := s3.add 15) (.inr rfl) (by lia)
  exact ⟨s4, ((((((st_branch.trans e1).trans alt_two).trans e2).trans e3).trans ex_jump31).trans e4).mono (by exact Nat.le_refl _)⟩
noncomputable def Stop (text : Array Nat) (p : Nat) : Prop := ∀ hp : p < text.size, text[p] = 34 ∨ (text[p] = 92 ∧ ∀ hq : p + 1 < text.size, text[p+1] = 10)
theorem unit0 (h : Stop text p) : ∃ sn', To 9 (SB text s first p cnt o sn) (St text s 35 p p o #[] none [F0 s first] 1 none sn') := by
  obtain ⟨s1, e1⟩ := in_no (s := s) (first := first) (cnt := cnt) (o := o) (sn := sn.add 7) (p := p) (text := text) fun hp => (h hp).imp id fun z => z.1
  by_cases hz : ∃ hp : p < text.size, text[p] = 92
  · obtain ⟨hp, hz⟩ := hz
    obtain ⟨s2, e2⟩ := esc_yes (s := s) (first := first) (cnt := cnt) (o := o) (sn := s1) (p := p) hp hz
    obtain ⟨s3, e3⟩ := any_no (s := s) (first := first) (cnt := cnt) (o := o) (sn := s2) (p := p) (h := p) (q := p + 1) (text := text) (fun hq => by
      rcases h hp with z | z
      · rw [z] at hz; cases hz
      · exact z.2 hq)
    exact ⟨s3, (((((st_branch.trans e1).trans alt_two).trans e2).trans e3).trans alt_end).mono (by exact Nat.le_add_left _ _)⟩
  · obtain ⟨s2, e2⟩ := esc_no (s := s) (first := first) (cnt := cnt) (o := o) (sn := s1) (p := p) (text := text) fun hp z => hz ⟨hp, z⟩
    exact ⟨s2, ((((st_branch.trans e1).trans alt_two).trans e2).trans alt_end).mono (by exact Nat.le_add_left _ _)⟩
inductive Eat (text : Array Nat) : Nat → Nat → Prop
  | stop {p : Nat} : Stop text p → Eat text p p
  | one {p q : Nat} (hp : p < text.size) : text[p] ≠ 34 → text[p] ≠ 92 → Eat text (p+1) q → Eat text p q
  | two {p q : Nat} (hp : p + 1 < text.size) : text[p] = 92 → text[p+1] ≠ 10 → Eat text (p+2) q → Eat text p q
theorem Eat.le {q : Nat} (e : Eat text p q) : p ≤ q := by induction e <;> lia
theorem eats {q : Nat} (e : Eat text p q) : ∀ (cnt : Nat) (sn : Seen), ∃ sn', To (9 * (q - p + 1)) (SB text s first p cnt o sn) (St text s 35 q q o #[] none [F0 s first] 1 none sn') := by
  induction e with
  | stop h => intro cnt sn; obtain ⟨s1, e1⟩ := unit0 (s := s) (first := first) (cnt := cnt) (o := o) (sn := sn) h; exact ⟨s1, e1.mono (by exact Nat.le_add_left _ _)⟩
  | one hp h1 h2 r ih =>
    intro cnt sn
    obtain ⟨s1, e1⟩ := unit1 (s := s) (first := first) (cnt := cnt) (o := o) (sn := sn) hp h1 h2
    obtain ⟨s2, e2⟩ := ih (cnt + 1) s1
    have := r.le
    exact ⟨s2, (e1.trans e2).mono (by exact ar2 this)⟩
  | two hp h1 h2 r ih =>
    intro cnt sn
    obtain ⟨s1, e1⟩ := unit2 (s := s) (first := first) (cnt := cnt) (o := o) (sn := sn) hp h1 h2
    obtain ⟨s2, e2⟩ := ih (cnt + 1) s1
    have := r.le
    exact ⟨s2, (e1.trans e2).mono (by exact ar3 this)⟩
noncomputable abbrev SS (text : Array Nat) (s : Nat) (first : Bool) (hd : Nat) (sn : Seen) : M := St text s 9 s hd first #[] none [F0 s first] 1 none sn
theorem open_quote {hd : Nat} (hs : s < text.size) (h : text[s] = 34) : ∃ sn', To 2 (SS text s first hd sn) (SB text s first (s+1) 0 first sn') := by
  refine ⟨_, To.go (m' := St text s 11 (s+1) hd first #[] none [F0 s first] 1 none (sn.add 16)) rfl ((exec_step rfl rfl (by decide : 9 < codeQ.size)).trans ((one_yes (op := .LITERAL) rfl rfl hs (sn := sn.add 16) ?_).trans rfl)) (To.step (m' := SB text s first (s+1) 0 first ((sn.add 16).add 28)) rfl rfl)⟩
  rw [getD_in hs]
  show Sre.accepts codeQ 9 _ _ = _
  rw [acc9, h]; rfl
noncomputable def Found (m : M) (s q : Nat) : Prop := m.outcome = some .matched ∧ m.start = s ∧ m.handed = q
theorem closes {q : Nat} (hq : q < text.size) (h : text[q] = 34) : ∃ m', To 4 (St text s 35 q q o #[] none [F0 s first] 1 none sn) m' ∧ Found m' s (q+1) := by
  refine ⟨_, To.go (m' := St text s 37 (q+1) q o #[] none [F0 s first] 1 none (sn.add 16)) rfl ((exec_step rfl rfl (by decide : 35 < codeQ.size)).trans ((one_yes (op := .LITERAL) rfl rfl hq (sn := sn.add 16) ?_).trans rfl))
    (To.go (m' := St text s 37 (q+1) (q+1) o #[] none [F0 s first] 1 (some true) ((sn.add 16).add 1)) rfl ?_ (To.go (m' := St text s 9 s (q+1) first #[] none [] 0 (some true) ((sn.add 16).add 1)) rfl rfl (To.step rfl rfl))), rfl, rfl, rfl⟩
  · rw [getD_in hq]
    show Sre.accepts codeQ 35 _ _ = _
    rw [acc35, h]; rfl
  · cases o <;> rfl
theorem not_closed {q : Nat} (hs : s < text.size) (h : ∀ hq : q < text.size, text[q] ≠ 34) : ∃ sn', To 2 (St text s 35 q q o #[] none [F0 s first] 1 none sn) (SS text (s+1) false (s+1) sn') := by
  by_cases hq : q < text.size
  · refine ⟨sn.add 16, To.go (m' := St text s 35 q q o #[] none [F0 s first] 1 (some false) (sn.add 16)) rfl ((exec_step rfl rfl (by decide : 35 < codeQ.size)).trans ((one_no (op := .LITERAL) rfl rfl hq (sn := sn.add 16) ?_).trans rfl)) (To.step rfl ?_)⟩
    · rw [getD_in hq]
      show Sre.accepts codeQ 35 _ _ = _
      rw [acc35, beq_eq_false_iff_ne.mpr (h hq)]; rfl
    · show (if s < text.size then _ else _) = _
      rw [if_pos hs]; rfl
  · refine ⟨sn.add 16, To.go (m' := St text s 35 q q o #[] none [F0 s first] 1 (some false) (sn.add 16)) rfl ((exec_step rfl rfl (by decide : 35 < codeQ.size)).trans (one_end (op := .LITERAL) rfl rfl (Nat.le_of_not_lt hq))) (To.step rfl ?_)⟩
    · show (if s < text.size then _ else _) = _
      rw [if_pos hs]; rfl
theorem at_end {hd : Nat} (hs : ¬ s < text.size) : ∃ m', To 3 (SS text s first hd sn) m' ∧ m'.outcome = some .failed := by
  refine ⟨_, To.go (m' := St text s 9 s hd first #[] none [F0 s first] 1 (some false) (sn.add 16)) rfl ((exec_step rfl rfl (by decide : 9 < codeQ.size)).trans (one_end (op := .LITERAL) rfl rfl (Nat.le_of_not_lt hs))) (To.go (m' := St text s 9 s hd first #[] none [] 0 (some false) (sn.add 16)) rfl ?_ (To.step rfl rfl)), rfl⟩
  show (if s < text.size then _ else _) = _
  rw [if_neg hs]; rfl
inductive Hunt (text : Array Nat) : Nat → Option (Nat × Nat) → Prop
  | none {s : Nat} : ¬ s < text.size → Hunt text s none
  | hit {s q : Nat} (hs : s < text.size) (hq : q < text.size) : text[s] = 34 → Eat text (s+1) q → text[q] = 34 → Hunt text s (some (s, q+1))
  | other {s : Nat} {r : Option (Nat × Nat)} (hs : s < text.size) : text[s] ≠ 34 → Hunt text (s+1) r → Hunt text s r
  | open_ {s q : Nat} {r : Option (Nat × Nat)} (hs : s < text.size) : text[s] = 34 → Eat text (s+1) q → (∀ hq : q < text.size, text[q] ≠ 34) → Hunt text (s+1) r → Hunt text s r
noncomputable def Ends (m : M) : Option (Nat × Nat) → Prop
  | none => m.outcome = some .failed
  | some (s, q) => Found m s q
theorem Eat.hi {q : Nat} (e : Eat text p q) (h : p ≤ text.size) : q ≤ text.size := by induction e <;> lia
theorem hunts {r : Option (Nat × Nat)} (H : Hunt text s r) : ∀ (first : Bool) (hd : Nat) (sn : Seen), ∃ m', To (9 * (text.size + 4) * (text.size - s + 1)) (SS text s first hd sn) m' ∧ Ends m' r := by
  induction H with
  | none hs =>
    intro first hd sn
    obtain ⟨m', e, h⟩ := at_end (first := first) (hd := hd) (sn := sn) hs
    exact ⟨m', e.mono (Nat.le_trans (by exact Nat.le_add_left _ _ : 3 ≤ 9 * (text.size + 4)) (Nat.le_mul_of_pos_right _ (Nat.succ_pos _))), h⟩
  | @hit s q hs hq h1 h2 h3 =>
    intro first hd sn
    obtain ⟨s1, e1⟩ := open_quote (first := first) (hd := hd) (sn := sn) hs h1
    obtain ⟨s2, e2⟩ := eats (s := s) (first := first) (o := first) h2 0 s1
    obtain ⟨m', e3, h⟩ := closes (s := s) (first := first) (o := first) (sn := s2) hq h3
    refine ⟨m', ((e1.trans e2).trans e3).mono ?_, h⟩
    exact Nat.le_trans (by exact ar5 hq : 2 + 9 * (q - (s + 1) + 1) + 4 ≤ 9 * (text.size + 4)) (Nat.le_mul_of_pos_right _ (Nat.succ_pos _))
  | @other s r hs h1 h2 ih =>
    intro first hd sn
    obtain ⟨s1, e1⟩ := no_quote (handed := hd) (first := first) (seen := sn) hs h1
    obtain ⟨m', e2, h⟩ := ih false (s+1) s1
    refine ⟨m', (e1.trans e2).mono ?_, h⟩
    rw [show text.size - s + 1 = Nat.succ (text.size - (s+1) + 1) by exact ar1 hs, Nat.mul_succ (9 * (text.size + 4)) (text.size - (s+1) + 1)]
    generalize 9 * (text.size + 4) * (text.size - (s + 1) + 1) = X
    lia
  | @open_ s q r hs h1 h2 h3 h4 ih =>
    intro first hd sn
    obtain ⟨s1, e1⟩ := open_quote (first := first) (hd := hd) (sn := sn) hs h1
    obtain ⟨s2, e2⟩ := eats (s := s) (first := first) (o := first) h2 0 s1
    obtain ⟨s3, e3⟩ := not_closed (s := s) (first := first) (o := first) (sn := s2) hs h3
    obtain ⟨m', e4, h⟩ := ih false (s+1) s3
    have hq := h2.hi (by assumption)
    refine ⟨m', (((e1.trans e2).trans e3).trans e4).mono ?_, h⟩
    rw [show text.size - s + 1 = Nat.succ (text.size - (s+1) + 1) by exact ar1 hs, Nat.mul_succ (9 * (text.size + 4)) (text.size - (s+1) + 1)]
    generalize 9 * (text.size + 4) * (text.size - (s + 1) + 1) = X
    exact ar6 hq
end Q
end Mine
set_option linter.unusedVariables false
namespace Mine
open PySem PySem.W PySem.Calls PyProof.Rows PySem.Spec PySem.Builtin PySem.Builtin.Re
namespace Q
theorem runFor_done {m : M} (h : m.outcome.isSome = true) : ∀ i, Sre.M.runFor i m = m
  | 0 => rfl
  | i + 1 => by show (if m.outcome.isSome then m else _) = m; rw [if_pos h]
theorem runFor_add : ∀ (a b : Nat) (m : M), Sre.M.runFor (a + b) m = Sre.M.runFor b (Sre.M.runFor a m)
  | 0, b, m => by rw [Nat.zero_add]; rfl
  | a + 1, b, m => by
    rw [show a + 1 + b = (a + b) + 1 by lia]
    by_cases h : m.outcome.isSome = true
    · rw [runFor_done h, runFor_done h, runFor_done h]
    · show (if m.outcome.isSome then m else Sre.M.runFor (a + b) m.step) = Sre.M.runFor b (if m.outcome.isSome then m else Sre.M.runFor a m.step)
      rw [if_neg h, if_neg h]; exact runFor_add a b _
section
variable {M' : Model} {A : Around} {E : Value → Shared → Prop} {s : Shared}
theorem drive {Q : M → Shared → Prop} {m' : M} (ho : m'.outcome.isSome = true) (hq : Q m' s) : ∀ (turns : Nat) (j : Nat) (m : M), (∀ i, Sre.M.runFor (j + i) m = Sre.M.runFor i m') → j < 4 * turns → wpAny M' A (reDrive turns m) Q E s
  | 0, j, m, _, h => by lia
  | turns + 1, j, m, hr, h => by
    show wpAny M' A (if (Sre.M.runFor 4 m).outcome.isSome then pure (Sre.M.runFor 4 m) else do rule "sre.turn"; reDrive turns (Sre.M.runFor 4 m)) Q E s
    by_cases hj : j ≤ 4
    · have e : Sre.M.runFor 4 m = m' := by
        have := hr (4 - j)
        rw [show j + (4 - j) = 4 by exact Nat.add_sub_of_le hj, runFor_done ho] at this
        exact this
      rw [e, if_pos ho]; exact wpAny_pure hq
    · by_cases h1 : (Sre.M.runFor 4 m).outcome.isSome = true
      · have e : Sre.M.runFor 4 m = m' := by
          have := hr 0
          rw [show j + 0 = 4 + (j - 4) by lia, runFor_add, runFor_done h1] at this
          exact this
        rw [if_pos h1, e]; exact wpAny_pure hq
      · rw [if_neg h1]
        refine wpAny_bind (wpAny_rule ?_)
        refine drive ho hq turns (j - 4) _ (fun i => ?_) (by lia)
        rw [← runFor_add, ← hr i]; congr 1; lia
theorem forIn_noop {α : Type} {f : α → PUnit → Sem (ForInStep PUnit)} {Q : PUnit → Shared → Prop} (hf : ∀ a (Q : ForInStep PUnit → Shared → Prop), Q (.yield ⟨⟩) s → wpAny M' A (f a ⟨⟩) Q E s) (hq : Q ⟨⟩ s) : ∀ l : List α, wpAny M' A (forIn l ⟨⟩ f) Q E s
  | [] => by rw [List.forIn_nil]; exact wpAny_pure hq
  | a :: l => by
    rw [List.forIn_cons]
    exact wpAny_bind (hf a _ (forIn_noop hf hq l))
theorem run_to {Q : Option M → Shared → Prop} {m m' : M} {n : Nat} (t : To n m m') (hn : n < 2 ^ 64) {r : Option M} (hr : (m'.outcome = some .matched ∧ r = some m') ∨ (m'.outcome = some .failed ∧ r = none)) (hq : Q r s) : wpAny M' A (reRunToEnd m) Q E s := by
  obtain ⟨j, hj, e⟩ := t
  unfold reRunToEnd
  refine wpAny_bind (drive (m' := m') (by rcases hr with ⟨h, _⟩ | ⟨h, _⟩ <;> rw [h] <;> rfl) ?_ _ j m e (by lia))
  refine wpAny_bind (forIn_noop (fun a Q hq => ?_) ?_ _)
  · by_cases c : m'.seen.has a = true
    · rw [if_pos c]; exact wpAny_bind (wpAny_rule (wpAny_pure hq))
    · rw [if_neg c]; exact wpAny_bind (wpAny_pure (wpAny_pure hq))
  · rcases hr with ⟨h, rfl⟩ | ⟨h, rfl⟩ <;> rw [h] <;> exact wpAny_pure hq
end
end Q
end Mine
set_option linter.unusedVariables false
namespace Mine
open PySem PySem.W PySem.Calls PyProof.Rows PySem.Spec PySem.Builtin PySem.Builtin.Re
namespace Q
noncomputable def IsPat (h : Heap) (P T : Addr) (code : List Nat) (kind : Int) : Prop :=
  (∃ pv f t, h.get? P = some { cls := .type "re.Pattern", data := .fields #[pv, .int f t, .int 0 0, .none, .none, .ref T, .int kind 0] }) ∧ ∃ n, h.get? T = some { cls := .type "tuple", data := .seq (code.map (fun c : Nat => Value.int (c : Int) 0)).toArray n }
theorem named3 (id f : String) (v : Value) : reNamed id f ["string", "pos", "endpos"] 1 [v] [] = pure [some v, none, none] := by kernel_rfl!
theorem rawItems (code : List Nat) : (((code.map (fun c : Nat => Value.int (c : Int) 0)).toArray.map reRawOf).map (·.toNat)) = code.toArray := by
  rw [List.map_toArray, List.map_toArray, List.map_map, List.map_map]
  exact congrArg List.toArray (List.map_id' code)
section
variable {M' : Model} {A : Around} {E : Value → Shared → Prop} {s : Shared}
theorem any_rawItems {T : Addr} {code : List Nat} {n : Nat} {Q : Array Int → Shared → Prop} (h : s.heap.get? T = some { cls := .type "tuple", data := .seq (code.map (fun c : Nat => Value.int (c : Int) 0)).toArray n }) (hq : Q ((code.map (fun c : Nat => Value.int (c : Int) 0)).toArray.map reRawOf) s) :
    wpAny M' A (reRawItems (.ref T)) Q E s := by
  unfold reRawItems
  exact wpAny_bind (wpAny_seqItems h rfl (wpAny_pure hq))
theorem text_str {x : Str} {t : Tok} {Q : Array Nat × Nat → Shared → Prop} (hq : Q (x.cps, 0) s) : wpAny M' A (reTextOf (.str x t)) Q E s := by
  unfold reTextOf
  exact wpAny_bind (wpAny_of_eq (a := some x) (by rfl) (wpAny_pure hq))
theorem skip_if {α : Type} {c : Prop} [Decidable c] {a b : Sem α} {Q : α → Shared → Prop} (h : ¬ c) (hb : wpAny M' A b Q E s) : wpAny M' A (if c then a else b) Q E s := by rw [if_neg h]; exact hb
theorem take_if {α : Type} {c : Prop} [Decidable c] {a b : Sem α} {Q : α → Shared → Prop} (h : c) (ha : wpAny M' A a Q E s) : wpAny M' A (if c then a else b) Q E s := by rw [if_pos h]; exact ha
theorem coll_str {v : Value} {Q : Unit → Shared → Prop} (hq : Q () s) : wpAny M' A (reNoCollectionInside v 0) Q E s := by
  unfold reNoCollectionInside
  exact skip_if (show ¬ ((0 == 1) = true) from by decide) (wpAny_pure hq)
theorem target_str {P T : Addr} {code : List Nat} {x : Str} {t : Tok} {id f : String} {Q : ReTarget → Shared → Prop} (h : IsPat s.heap P T code 0)
    (hq : Q { pattern := .ref P, string := .str x t, code := code.toArray, text := x.cps, kind := 0, groups := 0, pos := 0, lim := min (2 ^ 63 - 1 : Int).toNat x.cps.size } s) :
    wpAny M' A (reTarget id f ⟨[.ref P, .str x t], []⟩) Q E s := by
  obtain ⟨⟨pv, fl, tt, hP⟩, n, hT⟩ := h
  unfold reTarget
  dsimp only
  refine wpAny_bind (wpAny_of_eq (named3 id f _) ?_)
  dsimp only
  refine wpAny_bind (wpAny_pure (wpAny_bind (wpAny_pure ?_)))
  refine wpAny_bind (wpAny_fieldsOf hP rfl (wpAny_bind (text_str ?_)))
  refine skip_if (show ¬ ((0 == 0 && 0 == 1) = true) from by decide) ?_
  refine skip_if (show ¬ ((0 == 1 && 0 == 0) = true) from by decide) ?_
  refine wpAny_bind (coll_str (wpAny_bind (any_rawItems hT (wpAny_pure ?_))))
  rw [rawItems]
  exact hq
theorem none_search {P T : Addr} {code : List Nat} {x : Str} {t : Tok} {m' : M} {n : Nat} (hx : x.cps.size < 2 ^ 40) (ht : To n (Sre.forSearch code.toArray x.cps 0 0 x.cps.size false) m') (ho : m'.outcome = some .failed) (hn : n < 2 ^ 64) :
    Meets («re.Pattern.search» ⟨[.ref P, .str x t], []⟩) (fun _ R s => IsPat s.heap P T code 0 ∧ R (.ok (.ret .none)) s) := by
  refine .of_wp fun prog w A R s h => ?_
  obtain ⟨h, hR⟩ := h
  unfold «re.Pattern.search»
  refine wpAny_bind (target_str h ?_)
  unfold reAnswer
  rw [show min (2 ^ 63 - 1 : Int).toNat x.cps.size = x.cps.size from Nat.min_eq_right (by simp; lia)]
  exact wpAny_bind (run_to ht hn (.inr ⟨ho, rfl⟩) (wpAny_pure ⟨_, rfl, hR⟩))
end
theorem hunt_none {code text : Array Nat} (hi : Sre.ops[code.getD 0 0]? = some .INFO) (h4 : code.getD 2 0 = 4) (hs : ∀ c ∈ text, ∀ seen, ∃ seen', Sre.inSet code c code.size 5 true seen = .ok (false, seen')) (h3 : code.getD 3 0 = 1) :
    ∃ m', To 1 (Sre.forSearch code text 0 0 text.size false) m' ∧ m'.outcome = some .failed := by
  have hfs : ∀ m : M, m.code = code → m.hasFirstSet = true := fun m e => by
    unfold Sre.M.hasFirstSet
    rw [e, hi, h4]; rfl
  have adm : ∀ (m : M), m.code = code → m.text = text → m.lim = text.size → ∀ fuel s seen, ∃ seen', m.admitted fuel s seen = .ok (none, seen') := by
    intro m e1 e2 e3 fuel
    induction fuel with
    | zero => intro s seen; exact ⟨seen, rfl⟩
    | succ fuel ih =>
      intro s seen
      unfold Sre.M.admitted
      by_cases hl : s ≥ m.lim
      · rw [if_pos hl]; exact ⟨seen, rfl⟩
      · rw [if_neg hl, e1, e2]
        have hlt : s < text.size := by lia
        rw [getD_in hlt]
        obtain ⟨s1, h1⟩ := hs text[s] (Array.getElem_mem hlt) seen
        rw [h1]
        exact ih (s + 1) s1
  have adm' : ∀ (m : M) (f s : Nat) (sn : Seen) (r), m.admitted f s sn = r → m.code = code → m.text = text → m.lim = text.size → ∃ s', r = .ok (none, s') := fun m f s sn r h e1 e2 e3 => by
    obtain ⟨s', q⟩ := adm m e1 e2 e3 f s sn
    exact ⟨s', h.symm.trans q⟩
  have say : ∀ m : M, m.outcome = none → m.frames = [] → ∃ m', To 1 (m.say false) m' ∧ m'.outcome = some .failed := fun m ho hf => by
    refine ⟨(m.say false).step, To.step ho rfl, ?_⟩
    unfold Sre.M.step
    rw [show (m.say false).outcome = none from ho, show (m.say false).frames = [] from hf]; rfl
  unfold Sre.forSearch
  dsimp only
  split
  · exact say _ rfl rfl
  · unfold Sre.M.attemptFrom
    rw [hfs _ rfl]
    rw [if_neg (show ¬ ((!true) = true) by decide)]
    split
    · rename_i h1
      obtain ⟨s1, h2⟩ := adm' _ _ _ _ _ h1 rfl rfl rfl
      cases h2
    · exact say _ rfl rfl
    · rename_i h1
      obtain ⟨s1, h2⟩ := adm' _ _ _ _ _ h1 rfl rfl rfl
      cases h2
noncomputable def codeName : List Nat := [14,10,4,1,1,22,0,31,16,127,0,13,7,22,0,31,16,127,0,1]
noncomputable def codeValue : List Nat := [14,14,4,1,1,9,4294966783,0,0,2147483648,0,0,0,0,0,13,11,9,4294966783,0,0,2147483648,0,0,0,0,0,1]
noncomputable def Plain (x : Str) : Prop := ∀ c ∈ x.cps, 32 ≤ c ∧ c < 127
theorem name_none {x : Str} (h : Plain x) : ∃ m', To 1 (Sre.forSearch codeName.toArray x.cps 0 0 x.cps.size false) m' ∧ m'.outcome = some .failed := by
  refine hunt_none (by rfl) (by decide) (fun c hc seen => ?_) (by decide)
  obtain ⟨h1, h2⟩ := h c hc
  have e : Sre.inSet codeName.toArray c codeName.toArray.size 5 true seen = (if (decide (0 ≤ c) && decide (c ≤ 31)) = true then .ok (true, seen.add 22) else if (c == 127) = true then .ok (true, (seen.add 22).add 16) else .ok (!true, ((seen.add 22).add 16).add 0)) := rfl
  rw [e, if_neg (by simp; assumption), if_neg (by simp; lia)]
  exact ⟨_, rfl⟩
theorem value_none {x : Str} (h : Plain x) : ∃ m', To 1 (Sre.forSearch codeValue.toArray x.cps 0 0 x.cps.size false) m' ∧ m'.outcome = some .failed := by
  refine hunt_none (by rfl) (by decide) (fun c hc seen => ?_) (by decide)
  obtain ⟨h1, h2⟩ := h c hc
  have e : Sre.inSet codeValue.toArray c codeValue.toArray.size 5 true seen = (if (decide (c < 256) && (codeValue.toArray.getD (5 + (1 + c / 32)) 0).testBit (c % 32)) = true then .ok (true, seen.add 9) else .ok (!true, (seen.add 9).add 0)) := rfl
  have hb : ∀ c : Fin 127, 32 ≤ c.val → (decide (c.val < 256) && (codeValue.toArray.getD (5 + (1 + c.val / 32)) 0).testBit (c.val % 32)) = false := by decide +kernel
  rw [e, hb ⟨c, h2⟩ h1, if_neg Bool.false_ne_true]
  exact ⟨_, rfl⟩
end Q
end Mine
set_option linter.unusedVariables false
namespace Mine
open PySem PySem.W PySem.Calls PyProof.Rows PySem.Spec PySem.Builtin PySem.Builtin.Re
namespace Q
theorem sp_buffer {b : Array UInt8} {t : Tok} : specialOf (.bytes b t) "__buffer__" = pure (some (.builtin "bytes.__buffer__")) := by
  show typeLookup (.type "bytes") "__buffer__" = _
  rw [typeLookup_type, builtinLookup_eq_fast]; kernel_rfl
theorem sp_release {b : Array UInt8} {t : Tok} : specialOf (.bytes b t) "__release_buffer__" = pure none := by
  show typeLookup (.type "bytes") "__release_buffer__" = _
  rw [typeLookup_type, builtinLookup_eq_fast]; kernel_rfl
theorem isi_bytes {b : Array UInt8} {t : Tok} : isInstance (.bytes b t) (.type "bytes") = pure true := by
  show isSubtype (.type "bytes") (.type "bytes") = _
  rw [isSubtype_type]; kernel_rfl
theorem own_buffer {b : Array UInt8} {t : Tok} : Bytes.slotIsOwn (.bytes b t) "__buffer__" = pure true := by
  unfold Bytes.slotIsOwn
  rw [show specialOf (.bytes b t) (("__buffer__" : String) : Str) = pure (some (.builtin "bytes.__buffer__")) from sp_buffer]
  show (if (!("bytes.__buffer__" : String).endsWith ("." ++ "__buffer__")) = true then pure false else isInstance (.bytes b t) (.type (("bytes.__buffer__" : String).dropRight (("__buffer__" : String).length + 1)))) = pure true
  rw [show ("bytes.__buffer__" : String).endsWith ("." ++ "__buffer__") = true by decide +kernel, show ("bytes.__buffer__" : String).dropRight (("__buffer__" : String).length + 1) = "bytes" by decide +kernel]
  exact isi_bytes
theorem own_release {b : Array UInt8} {t : Tok} : Bytes.ownRelease (.bytes b t) = pure false := by
  unfold Bytes.ownRelease Bytes.slotIsOwn
  rw [show specialOf (.bytes b t) (("__release_buffer__" : String) : Str) = pure none from sp_release]; rfl
theorem buf {b : Array UInt8} {t : Tok} {id : String} {full : Bool} : Bytes.buffer? id (.bytes b t) full = pure (some b) := by
  unfold Bytes.buffer?
  rw [sp_buffer, own_buffer, own_release]; rfl
theorem bufQ {b : Array UInt8} {t : Tok} {id : String} : Bytes.bufferQuiet? id (.bytes b t) = pure (some b) := by
  unfold Bytes.bufferQuiet?
  rw [buf]; rfl
theorem take {b : Array UInt8} {t : Tok} {id : String} {f : Int} : Bytes.takeBuffer? id (.bytes b t) f = pure (some (b, none)) := by
  unfold Bytes.takeBuffer?
  rw [sp_buffer, own_buffer, buf]; rfl
theorem takeQ {b : Array UInt8} {t : Tok} {id : String} {f : Int} : Bytes.takeBufferQuiet? id (.bytes b t) f = pure (some (b, none)) := by
  unfold Bytes.takeBufferQuiet?
  rw [take]; rfl
theorem text_bytes {b : Array UInt8} {t : Tok} : reTextOf (.bytes b t) = pure (b.map (·.toNat), 1) := by
  unfold reTextOf
  rw [show asStr? (.bytes b t) = pure none from rfl, bufQ]; rfl
theorem coll_bytes {b : Array UInt8} {t : Tok} {k : Nat} : reNoCollectionInside (.bytes b t) 1 = pure () := by
  unfold reNoCollectionInside
  rw [isi_bytes]; rfl
theorem turned {b : Array UInt8} {t : Tok} : reLiteralCannotBeTurned (.bytes b t) = pure () := by
  unfold reLiteralCannotBeTurned
  rw [show asStr? (.bytes b t) = pure none from rfl, isi_bytes]; rfl
theorem nocall {b : Array UInt8} {t : Tok} : specialOf (.bytes b t) "__call__" = pure none := B.bytes_nocall
section
variable {M' : Model} {A : Around} {E : Value → Shared → Prop} {s : Shared}
theorem whole_bytes {P T : Addr} {code : List Nat} {b : Array UInt8} {t : Tok} {Q : ReTarget → Shared → Prop} (h : IsPat s.heap P T code 1)
    (hq : Q { pattern := .ref P, string := .bytes b t, code := code.toArray, text := b.map (·.toNat), kind := 1, groups := 0, pos := 0, lim := (b.map (·.toNat)).size } s) :
    wpAny M' A (reWholeTarget (.ref P) (.bytes b t)) Q E s := by
  obtain ⟨⟨pv, fl, tt, hP⟩, n, hT⟩ := h
  unfold reWholeTarget
  refine wpAny_bind (wpAny_fieldsOf hP rfl (wpAny_bind (wpAny_of_eq text_bytes ?_)))
  refine skip_if (show ¬ ((1 == 0 && 1 == 1) = true) from by decide) ?_
  refine skip_if (show ¬ ((1 == 1 && 1 == 0) = true) from by decide) ?_
  refine wpAny_bind (wpAny_of_eq (coll_bytes (k := 0)) (wpAny_bind (any_rawItems hT (wpAny_pure ?_))))
  rw [rawItems]
  exact hq
end
end Q
end Mine
set_option linter.unusedVariables false
namespace Mine
open PySem PySem.W PySem.Calls PyProof.Rows PySem.Spec PySem.Builtin PySem.Builtin.Re
namespace Q
inductive BsAre : List Value → List (Array UInt8) → Prop
  | nil : BsAre [] []
  | cons {b : Array UInt8} {t : Tok} {vs : List Value} {bs : List (Array UInt8)} : BsAre vs bs → BsAre (.bytes b t :: vs) (b :: bs)
noncomputable def catB (bs : List (Array UInt8)) : Array UInt8 := (bs.map Array.toList).flatten.toArray
theorem BsAre.length {vs : List Value} {bs : List (Array UInt8)} (h : BsAre vs bs) : vs.length = bs.length := by induction h <;> simp [*]
theorem BsAre.get {vs : List Value} {bs : List (Array UInt8)} (h : BsAre vs bs) : ∀ i, i < vs.length → ∃ b t, vs[i]? = some (.bytes b t) ∧ bs[i]? = some b := by
  induction h with
  | nil => intro i hi; exact absurd hi (Nat.not_lt_zero _)
  | cons r ih =>
    intro i hi
    cases i with
    | zero => exact ⟨_, _, rfl, rfl⟩
    | succ i => exact ih i (by simpa using hi)
theorem BsAre.off {vs : List Value} {bs : List (Array UInt8)} (h : BsAre vs bs) : ∀ v ∈ vs, v.onHeap = false := by
  induction h with
  | nil => intro v hv; cases hv
  | cons r ih =>
    intro v hv
    rcases List.mem_cons.mp hv with rfl | hv
    · rfl
    · exact ih v hv
section
variable {M' : Model} {A : Around} {E : Value → Shared → Prop} {s : Shared}
theorem any_range {β : Type} {f : Nat → β → Sem (ForInStep β)} {Q : β → Shared → Prop} (g : Nat → β) (n : Nat) (hstep : ∀ i, i < n → ∀ Q : ForInStep β → Shared → Prop, Q (.yield (g (i+1))) s → wpAny M' A (f i (g i)) Q E s) (hq : Q (g n) s) {b : β} (hb : b = g 0) :
    wpAny M' A (forIn [:n] b f) Q E s := by
  subst hb
  rw [Std.Legacy.Range.forIn_eq_forIn_range']
  have key : ∀ (k i : Nat), i + k = n → wpAny M' A (forIn (List.range' i k 1) (g i) f) Q E s := by
    intro k
    induction k with
    | zero => intro i hi; rw [show List.range' i 0 1 = [] from rfl, List.forIn_nil]; refine wpAny_pure ?_; rw [show i = n by wtm_at "OM"]; exact hq
    | succ k ih =>
      intro i hi
      rw [List.range'_succ, List.forIn_cons]
      exact wpAny_bind (hstep i (by wtm_at "OM") _ (ih (i+1) (by wtm_at "OM")))
  have := key n 0 (by wtm_at "OM")
  simpa [Std.Legacy.Range.size] using this
end
theorem joinLetGo_bytes {M' : Model} {A : Around} {E : Value → Shared → Prop} {s : Shared} {keep : List Value} {Q : Unit → Shared → Prop} (hq : Q () s) : ∀ {vs : List Value} {bs : List (Array UInt8)}, BsAre vs bs → wpAny M' A (Bytes.joinLetGo (vs.map fun v => (v, none)) keep) Q E s
  | _, _, .nil => wpAny_pure hq
  | _, _, .cons r => by
    show wpAny M' A (Bytes.joinLetGo ((_, none) :: _) keep) Q E s
    unfold Bytes.joinLetGo
    exact wpAny_bind (wpAny_letGo (joinLetGo_bytes hq r))
theorem joined_eq (bs : List (Array UInt8)) : Bytes.joined #[] bs = catB bs := by
  unfold Bytes.joined catB
  have key : ∀ (l : List (Array UInt8)) (k : Nat) (acc : Array UInt8), (l.zipIdx k).foldl (fun out (p : Array UInt8 × Nat) => (if p.2 > 0 then out ++ #[] else out) ++ p.1) acc = acc ++ (l.map Array.toList).flatten.toArray := by
    intro l
    induction l with
    | nil => intro k acc; simp
    | cons a l ih =>
      intro k acc
      rw [List.zipIdx_cons, List.foldl_cons, ih]
      by_cases hk : k > 0 <;> simp [hk] <;> (apply congrArg; apply Array.toList_inj.mp; simp)
  have := key bs 0 #[]
  simpa using this
theorem size_eq (bs : List (Array UInt8)) : bs.toArray.foldl (fun x1 x2 => x1 + x2.size) ((#[] : Array UInt8).size * (bs.toArray.size - 1)) = (catB bs).size := by
  rw [List.foldl_toArray]
  unfold catB
  have key : ∀ (l : List (Array UInt8)) (k : Nat), l.foldl (fun x1 x2 => x1 + x2.size) k = k + (l.map Array.toList).flatten.length := by
    intro l
    induction l with
    | nil => intro k; simp
    | cons a l ih => intro k; rw [List.foldl_cons, ih]; simp; wtm_at "OM"
  rw [key]; simp
theorem bjoin {t : Tok} {L : Addr} {vs : List Value} {bs : List (Array UInt8)} (hb : BsAre vs bs) (hv : vs ≠ []) : Meets («bytes.join» ⟨[.bytes #[] t, .ref L], []⟩) (fun _ R s => s.heap.PlainList L vs.toArray ∧ (catB bs).size ≤ 16777216 ∧ ∀ t' k, R (.ok (.ret (.bytes (catB bs) t'))) { s with toks := k }) := by
  refine .of_wp fun prog w A R s h => ?_
  obtain ⟨hl, hz, hR⟩ := h
  have hl' := hl
  obtain ⟨n, hl'⟩ := hl'
  have hlen := hb.length
  unfold «bytes.join» Bytes.joinM
  dsimp only
  refine wpAny_bind (wpAny_of_eq (a := (.bytes #[] t, .ref L)) (by rfl) ?_)
  dsimp only
  refine take_if (show (Bytes.Kind.bytes == Bytes.Kind.bytes) = true from by decide) ?_
  refine wpAny_bind ?_
  unfold Bytes.joinItems
  refine wpAny_bind (wpAny_typeOf (s := s) (T := "list") hl.isList.typeIs ?_)
  refine take_if (show ((Value.type "list" == Value.type "list" || _) = true) from by decide) ?_
  refine wpAny_pure ?_
  refine wpAny_bind (wpAny_seqItems hl' rfl ?_)
  refine take_if (show (Bytes.Kind.bytes == Bytes.Kind.bytes) = true from by decide) ?_
  match vs, bs, hb with
  | [], _, _ => exact absurd rfl hv
  | [_], _, @BsAre.cons b u _ _ .nil =>
    refine wpAny_bind (wpAny_typeOf (s := s) (typeIs_bytes _ _ _) ?_)
    refine take_if (show (Value.type "bytes" == Value.type "bytes") = true from by decide) ?_
    refine wpAny_bind (wpAny_rule ?_)
    have := hR u s.toks
    rw [show catB [b] = b by simp [catB]] at this
    exact wpAny_pure ⟨_, rfl, this⟩
  | x :: y :: r, bs, hb =>
    show wpAny _ _ (Bind.bind (forIn [:(x :: y :: r).toArray.size] (#[], []) _) _) _ _ _
    generalize x :: y :: r = vs at *
    refine wpAny_bind (any_range (g := fun i => ((bs.take i).toArray, (vs.take i).map (fun v => (v, none)))) _ (fun i hi Q hq => ?_) ?_ rfl)
    · refine wpAny_bind (wpAny_seqItems hl' rfl ?_)
      have hi' : i < vs.length := by simpa using hi
      obtain ⟨b, u, h1, h2⟩ := hb.get i hi'
      dsimp only
      have hany : (Bytes.Kind.bytes == Bytes.Kind.bytearray || ((vs.take i).map (fun v => (v, (none : Option Value)))).any fun x => x.1.onHeap) = false := by
        rw [show (Bytes.Kind.bytes == Bytes.Kind.bytearray) = false by decide, Bool.false_or, List.any_map]
        refine List.any_eq_false.mpr fun v hv => ?_
        simp [hb.off v (List.mem_of_mem_take hv)]
      refine skip_if (by rw [hany]; exact Bool.false_ne_true) ?_
      have hget : vs.toArray.getD i Value.none = .bytes b u := by
        have := List.getElem?_eq_some_iff.mp h1
        obtain ⟨hh, e⟩ := this
        simp [Array.getD, hh, e]
      rw [hget]
      refine wpAny_bind (wpAny_holding (wpAny_of_eq takeQ ?_))
      dsimp only
      refine wpAny_bind (wpAny_seqItems hl' rfl ?_)
      dsimp only
      refine skip_if (by simp) (wpAny_pure ?_)
      rw [show (bs.take i).toArray.push b = (bs.take (i+1)).toArray by rw [List.take_add_one, h2]; simp]
      rw [show (vs.take i).map (fun v => (v, (none : Option Value))) ++ [(Value.bytes b u, none)] = (vs.take (i+1)).map (fun v => (v, none)) by rw [List.take_add_one, h1]; simp]
      exact hq
    · dsimp only
      have e1 : (bs.take vs.toArray.size).toArray = bs.toArray := by rw [List.size_toArray, hlen, List.take_length]
      have e2 : (vs.take vs.toArray.size) = vs := by rw [List.size_toArray, List.take_length]
      rw [e1, e2]
      refine wpAny_bind (wpAny_of_eq (a := (#[] : Array UInt8)) (by rfl) ?_)
      have e3 : bs.take vs.toArray.size = bs := by rw [List.size_toArray, hlen, List.take_length]
      rw [e3, joined_eq]
      refine skip_if ?_ ?_
      · rw [size_eq]
        unfold Bytes.tooLong
        rw [sizeLine_eq]
        simp; wtm_at "OM"
      · refine wpAny_bind ?_
        show wpAny _ _ (mkBytes (catB bs)) _ _ _
        refine wpAny_mkBytes ?_ (by rw [sizeLine_eq]; exact hz)
        refine wpAny_bind (wpAny_holding (wpAny_point (wpAny_bind (joinLetGo_bytes ?_ hb))))
        exact wpAny_pure ⟨_, rfl, hR _ _⟩
end Q
end Mine
set_option linter.unusedVariables false
namespace Mine
open PySem PySem.W PySem.Calls PyProof.Rows PySem.Spec PySem.Builtin PySem.Builtin.Re
namespace Q
noncomputable def codeQL : List Nat := [14,8,1,2,4294967295,1,1,34,0,16,34,28,22,0,4294967295,7,11,13,7,21,16,34,16,92,0,15,8,6,16,92,2,15,2,0,1,16,34,1]
theorem hunt_short {text : Array Nat} {s : Nat} {r : Option (Nat × Nat)} (H : Hunt text s r) (h : text.size - s < 2) : r = none := by
  induction H with
  | none => rfl
  | hit hs hq h1 h2 h3 => have := h2.le; lia
  | other hs h1 h2 ih => exact ih (by exact Nat.lt_of_le_of_lt (Nat.sub_le_sub_left (Nat.le_succ _) _) h)
  | open_ hs h1 h2 h3 h4 ih => exact ih (by exact Nat.lt_of_le_of_lt (Nat.sub_le_sub_left (Nat.le_succ _) _) h)
theorem search_to {text : Array Nat} {s : Nat} {r : Option (Nat × Nat)} (H : Hunt text s r) (hs : s ≤ text.size) (hz : text.size < 2 ^ 24) : ∃ m' n, n < 2 ^ 64 ∧ To n (Sre.forSearch codeQ text 0 s text.size false) m' ∧ Ends m' r := by
  by_cases hl : text.size - s < 2
  · have := hunt_short H hl
    subst this
    refine ⟨_, 1, by decide, To.step (m := Sre.forSearch codeQ text 0 s text.size false) (m' := (Sre.forSearch codeQ text 0 s text.size false).step) ?_ rfl, ?_⟩
    · unfold Sre.forSearch
      dsimp only
      rw [if_pos (by simp; exact .inr hl)]; rfl
    · show Sre.M.outcome _ = _
      unfold Sre.forSearch
      dsimp only
      rw [if_pos (by simp; exact .inr hl)]; rfl
  · obtain ⟨m', e, h⟩ := hunts H true s ((({} : Sre.Seen).add 14))
    refine ⟨m', 9 * (text.size + 4) * (text.size - s + 1), ?_, ?_, h⟩
    · have h1 : 9 * (text.size + 4) * (text.size - s + 1) ≤ 9 * (2 ^ 24 + 4) * (2 ^ 24 + 1) := Nat.mul_le_mul (by lia) (by exact Nat.succ_le_succ (Nat.le_trans (Nat.sub_le _ _) (Nat.le_of_lt hz)))
      exact Nat.lt_of_le_of_lt h1 (by decide)
    · have e2 : Sre.forSearch codeQ text 0 s text.size false = SS text s true s ((({} : Sre.Seen).add 14)) := by
        unfold Sre.forSearch
        dsimp only
        rw [if_neg (by simp; constructor; exact hs; exact Nat.le_of_not_lt hl)]
        rfl
      rw [e2]; exact e
inductive Strip (text : Array Nat) : Nat → List Nat → Prop
  | last {p : Nat} : p ≤ text.size → Hunt text p none → Strip text p (text.toList.drop p)
  | more {p s q : Nat} {out : List Nat} : p ≤ s → Hunt text p (some (s, q)) → s + 2 ≤ q → q ≤ text.size → Strip text q out → Strip text p ((text.toList.drop p).take (s - p) ++ out)
section
variable {M' : Model} {A : Around} {E : Value → Shared → Prop} {s : Shared}
theorem any_push {L : Addr} {vs : List Value} {x : Value} {Q : Unit → Shared → Prop} (hl : s.heap.PlainList L vs.toArray) (hz : vs.length ≤ 16777215) (hq : ∀ h', h'.PlainList L (vs ++ [x]).toArray → Heap.SameBut L s.heap h' → Q () { s with heap := h' }) :
    wpAny M' A (updateSeq L (·.push x)) Q E s := by
  obtain ⟨n, ho⟩ := hl
  refine wpAny_updateSeq ho rfl (hq _ ⟨n + 1, ?_⟩ (Heap.SameBut.update _ _ _)) (by rw [List.size_toArray, sizeLine_eq]; lia) (by rw [Array.size_push, List.size_toArray, sizeLine_eq]; lia)
  rw [Heap.get?_update_self _ ho rfl, mapSeq_push]
  simp
theorem slice_bytes {text : Array Nat} {b e : Nat} {Q : Value → Shared → Prop} (hz : text.size ≤ 16777216) (hq : Q (.bytes ((text.extract b e).map (·.toUInt8)) s.toks) { s with toks := s.toks + 1 }) : wpAny M' A (reSlice text 1 b e) Q E s := by
  unfold reSlice
  refine skip_if (show ¬ ((1 == 0) = true) from by decide) ?_
  refine wpAny_mkBytes hq ?_
  rw [Array.size_map, Array.size_extract, sizeLine_eq]; exact Nat.le_trans (Nat.sub_le _ _) (Nat.le_trans (Nat.min_le_right _ _) hz)
end
theorem catB_snoc (bs : List (Array UInt8)) (x : Array UInt8) : catB (bs ++ [x]) = catB bs ++ x := by
  unfold catB; apply Array.toList_inj.mp; simp
theorem BsAre.snoc {vs : List Value} {bs : List (Array UInt8)} (h : BsAre vs bs) {b : Array UInt8} {t : Tok} : BsAre (vs ++ [.bytes b t]) (bs ++ [b]) := by
  induction h with
  | nil => exact .cons .nil
  | cons r ih => exact .cons ih
theorem IsPat.but {h h' : Heap} {P T L : Addr} {code : List Nat} {k : Int} (I : IsPat h P T code k) (hs : Heap.SameBut L h h') (h1 : P ≠ L) (h2 : T ≠ L) : IsPat h' P T code k := by
  obtain ⟨⟨pv, f, t, a⟩, n, b⟩ := I
  exact ⟨⟨pv, f, t, by rw [hs.2 _ h1]; exact a⟩, n, by rw [hs.2 _ h2]; exact b⟩
noncomputable abbrev loopArgs (P L : Addr) (b : Array UInt8) (u t : Tok) (n p : Nat) : Args := ⟨[.ref P, .bytes b u, .bytes #[] t, rawInt 0, rawInt 0, rawInt n, rawInt p, rawInt p, .bool false, .ref L, .bool false], []⟩
noncomputable def outB (out : List Nat) : Array UInt8 := (out.map (·.toUInt8)).toArray
theorem sub_loop {prog : Program} {w : World} {b : Array UInt8} {u t : Tok} {P T L : Addr} {p : Nat} {out : List Nat} (hz : b.size ≤ 8000000) (H : Strip (b.map (·.toNat)) p out) :
    ∀ (A : Around) (R : Result → Shared → Prop) (vs : List Value) (bs : List (Array UInt8)) (n : Nat) (s : Shared), BsAre vs bs → IsPat s.heap P T codeQL 1 → s.heap.PlainList L vs.toArray → P ≠ L → T ≠ L → vs.length ≤ p → (catB bs).size ≤ p →
      (∀ h' k t', Heap.SameBut L s.heap h' → (h'.get? L).isSome = true → R (.ok (.ret (.bytes (catB bs ++ outB out) t'))) { s with heap := h', toks := k }) →
      codeAny (model prog w) A (.builtin "re.Pattern.sub.loop" (loopArgs P L b u t n p)) R s := by
  have hsz : (b.map (·.toNat)).size = b.size := Array.size_map ..
  generalize htx : b.map (·.toNat) = text at *
  induction H with
  | @last p hp hH =>
    intro A R vs bs n s hb hI hl h1 h2 hv hc hR
    refine codeAny_builtin B.entry_subloop ?_
    unfold «re.Pattern.sub.loop»
    dsimp only [loopArgs, rawInt]
    refine wpAny_bind (whole_bytes hI ?_)
    rw [htx]
    obtain ⟨m', N, hN, hT, hE⟩ := search_to hH hp (by lia)
    refine take_if (show ((0 : Int) == 0) = true from by decide) ?_
    refine wpAny_bind (wpAny_of_eq turned ?_)
    refine wpAny_bind (skip_if (show ¬ (((0 : Int) != 0 && decide ((n : Int) ≥ 0)) = true) from by simp) ?_)
    show wpAny _ _ (reRunToEnd (Sre.forSearch codeQ text 0 ((p : Int).toNat) text.size false)) _ _ _
    rw [Int.toNat_natCast]
    refine run_to hT hN (.inr ⟨hE, rfl⟩) ?_
    dsimp only
    have fin : ∀ (A' : Around) (s' : Shared) (vs' : List Value) (bs' : List (Array UInt8)), BsAre vs' bs' → s'.heap.PlainList L vs'.toArray → Heap.SameBut L s.heap s'.heap → (∃ k, s' = { s with heap := s'.heap, toks := k }) → catB bs' = catB bs ++ outB (text.toList.drop p) →
        wpAny (model prog w) A' (do
          let joiner ← reSlice text 1 0 0
          let x ← seqItems? (.ref L)
          if (x.getD #[]).isEmpty = true then do
              let text ← pure joiner
              ret text
            else do
              let text ← call (.builtin "bytes.join") [joiner, .ref L]
              ret text) (fun fin s' => match fin with | .done f => R (.ok f) s' | .again c' => c'.quiet = true ∧ codeAny (model prog w) A c' R s') (fun e s' => R (.error e) s') s' := by
      intro A' s' vs' bs' hb' hl' hs' ⟨k, hk⟩ hcat
      obtain ⟨q, ho⟩ := hl'
      refine wpAny_bind (slice_bytes (by lia) (wpAny_bind (wpAny_seqItems ho rfl ?_)))
      have hok : ∀ t' k, R (.ok (.ret (.bytes (catB bs') t'))) { s' with toks := k } := fun t' k' => by
        have := hR s'.heap k' t' hs' (by rw [ho]; rfl)
        rw [hcat, hk]; exact this
      match vs', bs', hb' with
      | [], _, .nil =>
        refine take_if (by rfl) (wpAny_bind (wpAny_pure (wpAny_pure ?_)))
        have := hok s'.toks (s'.toks + 1)
        rw [show catB [] = #[] from rfl] at this
        have e : ((text.extract 0 0).map (·.toUInt8)) = #[] := by simp
        rw [e]; exact this
      | v :: r, bs', hb' =>
        refine skip_if (by simp) ?_
        have e : ((text.extract 0 0).map (·.toUInt8)) = #[] := by simp
        rw [e]
        refine wpAny_bind (call_meets B.slot_bjoin (typeIs_bytes _ _ _) B.entry_bjoin (B.args_bjoin _ _) (bjoin hb' (by simp)) ⟨⟨q, ho⟩, ?_, fun t' k' => ?_⟩)
        · rw [hcat, Array.size_append]
          have : (outB (text.toList.drop p)).size ≤ text.size := by simp [outB]
          lia
        · exact wpAny_pure (hok t' k')
    by_cases hlt : p < text.size
    · refine take_if (show p < text.size from hlt) ?_
      refine wpAny_bind (slice_bytes (by omega) (wpAny_bind (any_push hl (by lia) fun h' hl' hs' => ?_)))
      refine fin _ _ _ _ (hb.snoc) hl' hs' ⟨_, rfl⟩ ?_
      rw [catB_snoc]
      congr 1
      apply Array.toList_inj.mp
      unfold outB
      simp
      rw [List.take_of_length_le (by simp)]
    · refine skip_if (show ¬ p < text.size from hlt) ?_
      refine fin _ _ _ _ hb hl ⟨rfl, fun _ _ => rfl⟩ ⟨_, rfl⟩ ?_
      rw [List.drop_eq_nil_of_le (by simp; lia)]
      simp [outB]
  | @more p s0 q out hps hH hsq hqz r ih =>
    intro A R vs bs n s hb hI hl h1 h2 hv hc hR
    refine codeAny_builtin B.entry_subloop ?_
    unfold «re.Pattern.sub.loop»
    dsimp only [loopArgs, rawInt]
    refine wpAny_bind (whole_bytes hI ?_)
    rw [htx]
    obtain ⟨m', N, hN, hT, hE⟩ := search_to hH (by lia) (by lia)
    obtain ⟨hE1, hE2, hE3⟩ := hE
    refine take_if (show ((0 : Int) == 0) = true from by decide) ?_
    refine wpAny_bind (wpAny_of_eq turned ?_)
    refine wpAny_bind (skip_if (show ¬ (((0 : Int) != 0 && decide ((n : Int) ≥ 0)) = true) from by simp) ?_)
    show wpAny _ _ (reRunToEnd (Sre.forSearch codeQ text 0 ((p : Int).toNat) text.size false)) _ _ _
    rw [Int.toNat_natCast]
    refine run_to hT hN (.inl ⟨hE1, rfl⟩) ?_
    dsimp only
    rw [hE2, hE3]
    have again : ∀ (A' : Around) (s' : Shared) (vs' : List Value) (bs' : List (Array UInt8)), BsAre vs' bs' → s'.heap.PlainList L vs'.toArray → Heap.SameBut L s.heap s'.heap → (∃ k, s' = { s with heap := s'.heap, toks := k }) → catB bs' = catB bs ++ outB ((text.toList.drop p).take (s0 - p)) → vs'.length ≤ p + 1 →
        wpAny (model prog w) A' (if ((0 : Int) == 0) = true then do
                let item ← pure (Value.bytes #[] t)
                if (item != Value.none) = true then do
                    updateSeq L fun x => x.push item
                    PySem.again (.builtin "re.Pattern.sub.loop" ⟨[.ref P, .bytes b u, .bytes #[] t, .int 0 0, .int 0 0, .int ((n : Int) + 1) 0, .int (q : Nat) 0, .int (q : Nat) 0, .bool (q == s0), .ref L, .bool false], []⟩)
                  else PySem.again (.builtin "re.Pattern.sub.loop" ⟨[.ref P, .bytes b u, .bytes #[] t, .int 0 0, .int 0 0, .int ((n : Int) + 1) 0, .int (q : Nat) 0, .int (q : Nat) 0, .bool (q == s0), .ref L, .bool false], []⟩)
              else unsupported "no") (fun fin s' => match fin with | .done f => R (.ok f) s' | .again c' => c'.quiet = true ∧ codeAny (model prog w) A c' R s') (fun e s' => R (.error e) s') s' := by
      intro A' s' vs' bs' hb' hl' hs' ⟨k, hk⟩ hcat hlen
      refine take_if (show ((0 : Int) == 0) = true from by decide) (wpAny_bind (wpAny_pure ?_))
      refine take_if (by rfl) (wpAny_bind (any_push hl' (by lia) fun h'' hl'' hs'' => ?_))
      have hq : (q == s0) = false := by simp; lia
      rw [hq]
      refine wpAny_pure ⟨Code.quiet_builtin _ (by decide +kernel), ?_⟩
      have hsb : Heap.SameBut L s.heap h'' := hs'.trans hs''
      have := ih A R (vs' ++ [.bytes #[] t]) (bs' ++ [#[]]) (n + 1) { s' with heap := h'' } hb'.snoc ((hI.but hs' h1 h2).but hs'' h1 h2) hl'' h1 h2 (by simp; lia) ?_ ?_
      · exact this
      · rw [catB_snoc, hcat]
        have : (outB ((text.toList.drop p).take (s0 - p))).size ≤ s0 - p := by simp [outB]; exact Nat.min_le_left _ _
        simp; lia
      · intro h3 k3 t3 hs3 ha3
        have := hR h3 k3 t3 (hsb.trans hs3) ha3
        rw [catB_snoc, hcat, hk]
        have e : catB bs ++ outB ((text.toList.drop p).take (s0 - p)) ++ #[] ++ outB out = catB bs ++ outB ((text.toList.drop p).take (s0 - p) ++ out) := by
          apply Array.toList_inj.mp; simp [outB]
        rw [e]; exact this
    by_cases hlt : p < s0
    · refine take_if (show p < s0 from hlt) ?_
      refine wpAny_bind (slice_bytes (by lia) (wpAny_bind (any_push hl (by lia) fun h' hl' hs' => ?_)))
      refine again _ _ _ _ (hb.snoc) hl' hs' ⟨_, rfl⟩ ?_ (by simp; omega)
      rw [catB_snoc]
      congr 1
      apply Array.toList_inj.mp
      unfold outB
      simp
    · refine skip_if (show ¬ p < s0 from hlt) ?_
      refine again _ _ _ _ hb hl ⟨rfl, fun _ _ => rfl⟩ ⟨_, rfl⟩ ?_ (by lia)
      rw [show s0 - p = 0 by exact Nat.sub_eq_zero_of_le (Nat.le_of_not_lt hlt)]
      simp [outB]
end Q
end Mine
set_option linter.unusedVariables false
namespace Mine
open PySem PySem.W PySem.Calls PyProof.Rows PySem.Spec PySem.Builtin PySem.Builtin.Re
namespace Q
theorem named_sub (id f : String) (v x : Value) : reNamed id f ["repl", "string", "count"] 2 [v, x] [] = pure [some v, some x, none] := by kernel_rfl!
theorem sub_meets {P T : Addr} {t u : Tok} {b : Array UInt8} {out : List Nat} (hz : b.size ≤ 8000000) (H : Strip (b.map (·.toNat)) 0 out) :
    Meets («re.Pattern.sub» ⟨[.ref P, .bytes #[] t, .bytes b u], []⟩) (fun _ R s => IsPat s.heap P T codeQL 1 ∧ ∀ h' k t', Keep s.heap h' → R (.ok (.ret (.bytes (outB out) t'))) { s with heap := h', toks := k }) := by
  intro prog w A R s h
  obtain ⟨hI, hR⟩ := h
  unfold «re.Pattern.sub» reSubstitute
  dsimp only
  refine wpAny_bind (wpAny_of_eq (named_sub _ _ _ _) ?_)
  dsimp only
  refine wpAny_bind (wpAny_pure ?_)
  refine wpAny_bind (wpAny_of_eq nocall ?_)
  refine skip_if (by decide) ?_
  refine wpAny_bind (wpAny_of_eq (a := none) (by rfl) ?_)
  dsimp only
  refine wpAny_bind (wpAny_of_eq bufQ ?_)
  dsimp only
  refine wpAny_bind (wpAny_pure ?_)
  refine skip_if (by decide) ?_
  refine take_if (by simp) ?_
  refine wpAny_bind (wpAny_pure ?_)
  refine wpAny_bind (wpAny_holding (whole_bytes hI ?_))
  refine skip_if (show ¬ (((0 : Nat) == 1) = true) from by decide) ?_
  refine wpAny_bind (wpAny_newList (wpAny_pure ?_) (by rw [sizeLine_eq]; decide))
  refine ⟨Code.quiet_builtin _ (by decide +kernel), ?_⟩
  have hnew : (s.heap.push { cls := .type "list", data := .seq (([] : List Value).toArray) }).get? s.heap.objs.size = some { cls := .type "list", data := .seq (([] : List Value).toArray) } := Heap.get?_push_size _ rfl
  have k1 : Keep s.heap (s.heap.push { cls := .type "list", data := .seq (([] : List Value).toArray) }) := fun _ _ e => Heap.get?_push_of_some _ e
  have hI' : IsPat (s.heap.push { cls := .type "list", data := .seq (([] : List Value).toArray) }) P T codeQL 1 := by
    obtain ⟨⟨pv, f, tt, a⟩, n, c⟩ := hI
    exact ⟨⟨pv, f, tt, k1 _ _ a⟩, n, k1 _ _ c⟩
  have nP : P ≠ s.heap.objs.size := by
    obtain ⟨⟨pv, f, tt, a⟩, _⟩ := hI
    exact Nat.ne_of_lt (Heap.lt_size a)
  have nT : T ≠ s.heap.objs.size := by
    obtain ⟨_, n, c⟩ := hI
    exact Nat.ne_of_lt (Heap.lt_size c)
  refine sub_loop (P := P) (T := T) hz H A R [] [] 0 { s with heap := s.heap.push { cls := .type "list", data := .seq (([] : List Value).toArray) } } .nil hI' ⟨_, hnew⟩ nP nT (Nat.le_refl _) (Nat.le_refl _) fun h' k t' hs ha => ?_
  have := hR h' k t' fun x o e => hs.extBut x o (fun z => by rw [z, get_size] at e; cases e) (k1 x o e)
  rw [show catB [] ++ outB out = outB out by simp [catB]]
  exact this
noncomputable def PatK (K : Frag) (P T : Addr) (code : List Nat) (kind : Int) : Prop :=
  (∃ pv f t, K.lookup P = some { cls := .type "re.Pattern", data := .fields #[pv, .int f t, .int 0 0, .none, .none, .ref T, .int kind 0] }) ∧ ∃ n, K.lookup T = some { cls := .type "tuple", data := .seq (code.map (fun c : Nat => Value.int (c : Int) 0)).toArray n }
theorem PatK.at {K : Frag} {P T : Addr} {code : List Nat} {kind : Int} (p : PatK K P T code kind) {h : Heap} (X : K.In h) : IsPat h P T code kind := by
  obtain ⟨⟨pv, f, t, a⟩, n, b⟩ := p
  exact ⟨⟨pv, f, t, X _ _ a⟩, n, X _ _ b⟩
end Q
open Q
section
variable {prog : Program} {w : World} {K : Frag} {M : Addr → Prop} {h : Heap} {k : Nat} {P T : Addr}
theorem pat_is {code : List Nat} {kind : Int} (p : PatK K P T code kind) {s : Shared} (X : K.In s.heap) : s.TypeIs (.ref P) "re.Pattern" ∧ ∀ a, Value.ref P = .ref a → ∃ ob : Obj, s.heap.get? a = some ob ∧ ob.dict = Option.none := by
  obtain ⟨⟨pv, f, t, a⟩, _⟩ := p.at X
  exact ⟨⟨_, a, rfl⟩, fun b e => by cases e; exact ⟨_, a, rfl⟩⟩
theorem OpM.sub {b : Array UInt8} {out : List Nat} (S : Sc K M h) (p : PatK K P T codeQL 1) (hz : b.size ≤ 8000000) (H : Strip (b.map (·.toNat)) 0 out) :
    OpM prog w M h k "sub" (.ref P) [.bytes #[], .bytes b] [] (.bytes (outB out)) := by
  refine OpM.builtin (T := "re.Pattern") (fun s v kp r => ?_) B.plain_pat B.slot_sub B.type_sub (.of fun A s vs us rm kp r1 r2 => ?_)
  · cases r using Rd.refE0; exact pat_is p (S.keep kp).inn
  · cases r2 using RdL.nilE
    cases r1 using RdL.consE with
    | cons r r' => cases r' using RdL.consE with
      | cons q q' => cases q' using RdL.consE with
        | cons z z' =>
          cases z'; cases r using Rd.refE0; cases q using Rd.bytesE0; cases z
          exact call_meets B.slot_sub (pat_is p (S.keep kp).inn).1 B.entry_sub (B.args_sub _ _ _) (sub_meets hz H) ⟨p.at (S.keep kp).inn, fun h' k' t' kk => ⟨Kp.both s _ _ kk, .bytes _ _⟩⟩
theorem OpM.search {x : Str} {code : List Nat} {m' : Q.M} {n : Nat} (S : Sc K M h) (p : PatK K P T code 0) (hx : x.cps.size < 2 ^ 40) (ht : To n (Sre.forSearch code.toArray x.cps 0 0 x.cps.size false) m') (ho : m'.outcome = some .failed) (hn : n < 2 ^ 64) :
    OpM prog w M h k "search" (.ref P) [.str x] [] .none := by
  refine OpM.builtin (T := "re.Pattern") (fun s v kp r => ?_) B.plain_pat B.slot_search B.type_search (.of fun A s vs us rm kp r1 r2 => ?_)
  · cases r using Rd.refE0; exact pat_is p (S.keep kp).inn
  · cases r2 using RdL.nilE
    cases r1 using RdL.consE with
    | cons r r' => cases r' using RdL.consE with
      | cons q q' =>
        cases q' using RdL.nilE; cases r using Rd.refE0; cases q using Rd.strE0
        exact call_meets B.slot_search (pat_is p (S.keep kp).inn).1 B.entry_search (B.args_search _ _) (none_search hx ht ho hn) ⟨p.at (S.keep kp).inn, Kp.refl s, .none⟩
end
end Mine
set_option linter.unusedVariables false
namespace Mine
open PySem PySem.W PySem.Calls PyProof.Rows PySem.Spec PySem.Builtin PySem.Builtin.Re
namespace Q
noncomputable def cntB (b : Array UInt8) (c : UInt8) : Nat := (b.toList.filter (· == c)).length
noncomputable def OccP (b : Array UInt8) (c : UInt8) (n : Nat) (r : List Nat × Nat) : Prop := r.1.length = ((b.toList.take n).filter (· == c)).length ∧ r.2 ≤ n
theorem occ_len (b : Array UInt8) (c : UInt8) : (Bytes.occurrences b #[c] 0 b.size).length = cntB b c := by
  unfold Bytes.occurrences
  simp only [List.length_reverse]
  have e0 : b.size + 1 - (0 + (#[c] : Array UInt8).size) = b.size := by simp
  rw [e0]
  have key : ∀ n, n ≤ b.size → OccP b c n
      (((List.range n).map (· + 0)).foldl (fun (acc : List Nat × Nat) (i : Nat) => if (decide (i ≥ acc.2) && b.extract i (i + (#[c] : Array UInt8).size) == #[c]) = true then (i :: acc.1, i + (#[c] : Array UInt8).size) else acc) ([], 0)) := by
    intro n
    induction n with
    | zero => intro _; exact ⟨by simp, Nat.le_refl _⟩
    | succ n ih =>
      intro hn
      obtain ⟨h1, h2⟩ := ih (by lia)
      rw [List.range_succ, List.map_append, List.foldl_append]
      generalize ((List.range n).map (· + 0)).foldl _ _ = r at h1 h2 ⊢
      have hlt : n < b.size := by assumption
      have hex : (b.extract n (n + 1) == #[c]) = (b[n] == c) := by
        have : b.extract n (n + 1) = #[b[n]] := by
          apply Array.ext
          · simp; lia
          · intro i h1 h2
            simp at h2
            subst h2
            simp
        rw [this]
        by_cases e : b[n] = c
        · simp [e]
        · have e1 : (b[n] == c) = false := by simpa using e
          rw [e1]
          simp [e]
      have ht : (b.toList.take (n + 1)) = b.toList.take n ++ [b[n]] := by
        rw [List.take_add_one]; simp [hlt]
      have hstep : (if (decide (n ≥ r.2) && b.extract n (n + 1) == #[c]) = true then (n :: r.1, n + 1) else r) = if (b[n] == c) = true then (n :: r.1, n + 1) else r := by
        rw [hex, decide_eq_true h2, Bool.true_and]
      show OccP b c (n + 1) (if (decide (n ≥ r.2) && b.extract n (n + 1) == #[c]) = true then (n :: r.1, n + 1) else r)
      rw [hstep]
      unfold OccP
      rw [ht, List.filter_append, List.length_append]
      cases e : b[n] == c with
      | true => exact ⟨by rw [if_pos rfl]; simp [h1, e], Nat.le_refl _⟩
      | false => exact ⟨by rw [if_neg Bool.false_ne_true]; simp [h1, e], by rw [if_neg Bool.false_ne_true]; lia⟩
  have := (key b.size (Nat.le_refl _)).1
  rw [List.take_of_length_le (by simp)] at this
  exact this
theorem count_meets {b : Array UInt8} {t u : Tok} {c : UInt8} : Meets («bytes.count» ⟨[.bytes b t, .bytes #[c] u], []⟩) (fun _ R s => ∀ t' k, R (.ok (.ret (.int (cntB b c) t'))) { s with toks := k }) := by
  refine .of_wp fun prog w A R s hR => ?_
  unfold «bytes.count» Bytes.countM Bytes.searchArgs
  dsimp only
  refine wpAny_bind (wpAny_bind (wpAny_of_eq (a := (.bytes b t, [.bytes #[c] u])) (by rfl) ?_))
  dsimp only
  refine wpAny_bind (wpAny_of_eq (a := none) (by rfl) (wpAny_bind (wpAny_of_eq (a := none) (by rfl) ?_)))
  refine wpAny_bind (wpAny_of_eq buf ?_)
  dsimp only
  refine wpAny_bind (wpAny_pure (wpAny_bind (wpAny_of_eq (a := b) (by rfl) ?_)))
  refine wpAny_pure ?_
  have hw : Bytes.window b.size none none = (0, (b.size : Int)) := by
    unfold Bytes.window
    simp
    lia
  rw [hw]
  dsimp only
  by_cases hz : b.size = 0
  · have hb : b = #[] := Array.eq_empty_of_size_eq_zero hz
    rw [if_pos (by rw [hz]; show ((0 : Nat) : Int) - 0 < 1; decide)]
    have := hR s.toks (s.toks + 1)
    have e : cntB b c = 0 := by rw [hb]; rfl
    rw [e] at this
    exact wpAny_bind (wpAny_mkInt (wpAny_pure ⟨_, rfl, this⟩))
  · rw [if_neg (by simp; lia)]
    refine skip_if (by simp) ?_
    rw [Int.toNat_zero, Int.toNat_natCast, occ_len]
    exact wpAny_bind (wpAny_mkInt (wpAny_pure ⟨_, rfl, hR _ _⟩))
end Q
open Q
section
variable {prog : Program} {w : World} {K : Frag} {M : Addr → Prop} {h : Heap} {k : Nat}
theorem OpM.count {b : Array UInt8} {c : UInt8} : OpM prog w M h k "count" (.bytes b) [.bytes #[c]] [] (.int (cntB b c)) := by
  refine OpM.builtin (T := "bytes") (fun s v kp r => by cases r using Rd.bytesE0; exact ⟨typeIs_bytes _ _ _, fun a e => nomatch e⟩) FB.plainAttrs_bytes B.slot_count B.type_count (.of fun A s vs us rm kp r1 r2 => ?_)
  cases r2 using RdL.nilE
  cases r1 using RdL.consE with
  | cons r r' => cases r' using RdL.consE with
    | cons q q' =>
      cases q' using RdL.nilE; cases r using Rd.bytesE0; cases q using Rd.bytesE0
      exact call_meets B.slot_count (typeIs_bytes _ _ _) B.entry_count (B.args_count _ _) count_meets fun t' k' => ⟨Kp.tok s _, .int _ _⟩
end
end Mine
set_option linter.unusedVariables false
namespace Mine
open PySem PySem.W PySem.Calls PyProof.Rows PySem.Spec PySem.Builtin
namespace Q
section
variable {M' : Model} {A : Around} {E : Value → Shared → Prop} {s : Shared}
open _codecs in
theorem narrow {id : String} {c : TextCodec} {errors : Option PySem.Str} {self : Value} {x : PySem.Str} {Q : Array UInt8 → Shared → Prop} (hz : x.cps.size ≤ 16777216) (hg : ∀ y ∈ x.cps, c.bad y = false) (hb : ∀ y, c.bytesOf y = [y.toUInt8]) (hq : Q (x.cps.map (·.toUInt8)) s) :
    wpAny M' A (encodeNarrow id c errors self x) Q E s := by
  unfold encodeNarrow
  dsimp only
  refine wpAny_bind ?_
  rw [KPc.range_list]
  generalize hn : x.length = n
  cases n with
  | zero =>
    rw [show List.range' 0 0 1 = [] from rfl, List.forIn_nil]
    refine wpAny_pure ?_
    have hx : x.cps = #[] := Array.eq_empty_of_size_eq_zero hn
    rw [hx, Array.map_empty] at hq
    exact wpAny_pure hq
  | succ n =>
    have hsz : x.cps.size = n + 1 := hn
    have h0 : x.cps[0]? = some x.cps[0] := by simp [hsz]
    have hno : Array.findIdx? c.bad (x.cps.extract 0) = none := by
      rw [Array.findIdx?_eq_none_iff]
      intro y hy
      exact hg y (by simpa using hy)
    have hfold : ∀ (l : List Nat) (acc : Array UInt8), l.foldl (fun acc y => acc ++ (c.bytesOf y).toArray) acc = acc ++ (l.map (·.toUInt8)).toArray := by
      intro l
      induction l with
      | nil => intro acc; simp
      | cons a l ih => intro acc; rw [List.foldl_cons, ih, hb]; apply Array.toList_inj.mp; simp
    have hout : Array.foldl (fun acc y => acc ++ (c.bytesOf y).toArray) #[] ((x.cps.extract 0).extract 0 (x.cps.extract 0).size) = x.cps.map (·.toUInt8) := by
      rw [← Array.foldl_toList, hfold]
      apply Array.toList_inj.mp
      simp
    rw [List.range'_succ, List.forIn_cons]
    refine wpAny_bind (skip_if (show ¬ ((#[] : Array UInt8).size > sizeLine) from by rw [sizeLine_eq]; decide) ?_)
    dsimp only
    rw [h0]
    dsimp only
    rw [if_pos (by rw [hg _ (Array.getElem_mem _)]; rfl), hno]
    dsimp only [Option.getD_none]
    rw [hout]
    refine wpAny_pure ?_
    dsimp only
    cases n with
    | zero =>
      rw [show List.range' (0 + 1) 0 1 = [] from rfl, List.forIn_nil]
      exact wpAny_pure (wpAny_pure hq)
    | succ n =>
      rw [List.range'_succ, List.forIn_cons]
      refine wpAny_bind (skip_if ?_ ?_)
      · rw [sizeLine_eq]
        show ¬ (x.cps.map (·.toUInt8)).size > _
        rw [Array.size_map]; lia
      · dsimp only
        have h1 : x.cps[0 + (x.cps.extract 0).size]? = none := by simp
        rw [h1]
        dsimp only
        exact wpAny_pure (wpAny_pure (wpAny_pure hq))
end
open _codecs in
theorem road1 (id : String) (self : Value) (x : PySem.Str) : encodeRoad id self x (PySem.Str.ofString "iso-8859-1") none = (do mkBytes (← encodeNarrow id latin1Codec none self x)) := by
  unfold encodeRoad
  have e : (normalName (PySem.Str.ofString "iso-8859-1")).toString = "iso_8859_1" := by decide +kernel
  rw [e]
  first | rfl | kernel_rfl!
open _codecs in
theorem road2 (id : String) (self : Value) (x : PySem.Str) : encodeRoad id self x (PySem.Str.ofString "ascii") none = (do mkBytes (← encodeNarrow id asciiCodec none self x)) := by
  unfold encodeRoad
  have e : (normalName (PySem.Str.ofString "ascii")).toString = "ascii" := by decide +kernel
  rw [e]
  first | rfl | kernel_rfl!
theorem enc_tree1 (x : PySem.Str) (t u : Tok) : «str.encode» ⟨[.str x t, .str (PySem.Str.ofString "iso-8859-1") u], []⟩ = (do ret (← _codecs.encodeRoad "str.encode" (.str x t) x (PySem.Str.ofString "iso-8859-1") none)) := by kernel_rfl!
theorem enc_tree2 (x : PySem.Str) (t u : Tok) : «str.encode» ⟨[.str x t, .str (PySem.Str.ofString "ascii") u], []⟩ = (do ret (← _codecs.encodeRoad "str.encode" (.str x t) x (PySem.Str.ofString "ascii") none)) := by kernel_rfl!
noncomputable def Ascii (x : PySem.Str) : Prop := ∀ c ∈ x.cps, c < 128
noncomputable def encB (x : PySem.Str) : Array UInt8 := x.cps.map (·.toUInt8)
theorem enc_meets1 {x : PySem.Str} {t u : Tok} (hx : Ascii x) (hz : x.cps.size ≤ 16777216) : Meets («str.encode» ⟨[.str x t, .str (PySem.Str.ofString "iso-8859-1") u], []⟩) (fun _ R s => ∀ t' k, R (.ok (.ret (.bytes (encB x) t'))) { s with toks := k }) := by
  refine .of_wp fun prog w A R s hR => ?_
  rw [enc_tree1, road1]
  refine wpAny_bind (wpAny_bind (narrow hz (fun y hy => ?_) (fun y => rfl) (wpAny_mkBytes (wpAny_pure ⟨_, rfl, hR _ _⟩) ?_)))
  · have := hx y hy
    show decide (y ≥ 256) = false
    simp; lia
  · rw [Array.size_map, sizeLine_eq]; exact hz
theorem enc_meets2 {x : PySem.Str} {t u : Tok} (hx : Ascii x) (hz : x.cps.size ≤ 16777216) : Meets («str.encode» ⟨[.str x t, .str (PySem.Str.ofString "ascii") u], []⟩) (fun _ R s => ∀ t' k, R (.ok (.ret (.bytes (encB x) t'))) { s with toks := k }) := by
  refine .of_wp fun prog w A R s hR => ?_
  rw [enc_tree2, road2]
  refine wpAny_bind (wpAny_bind (narrow hz (fun y hy => ?_) (fun y => rfl) (wpAny_mkBytes (wpAny_pure ⟨_, rfl, hR _ _⟩) ?_)))
  · have := hx y hy
    show decide (y ≥ 128) = false
    simp; omega
  · rw [Array.size_map, sizeLine_eq]; exact hz
end Q
open Q
section
variable {prog : Program} {w : World} {K : Frag} {M : Addr → Prop} {h : Heap} {k : Nat}
theorem OpM.encode1 {x : PySem.Str} (hx : Ascii x) (hz : x.cps.size ≤ 16777216) : OpM prog w M h k "encode" (.str x) [.str (PySem.Str.ofString "iso-8859-1")] [] (.bytes (encB x)) := by
  refine OpM.builtin (T := "str") (fun s v kp r => by cases r using Rd.strE0; exact ⟨typeIs_str _ _ _, fun a e => nomatch e⟩) F.plainAttrs_str F.slot_str_encode F.type_str_encode (.of fun A s vs us rm kp r1 r2 => ?_)
  cases r2 using RdL.nilE
  cases r1 using RdL.consE with
  | cons r r' => cases r' using RdL.consE with
    | cons q q' =>
      cases q' using RdL.nilE; cases r using Rd.strE0; cases q using Rd.strE0
      exact call_meets F.slot_str_encode (typeIs_str _ _ _) F.entry_str_encode (F.args_str_encode_2 _ _) (enc_meets1 hx hz) fun t' k' => ⟨Kp.tok s _, .bytes _ _⟩
theorem OpM.encode2 {x : PySem.Str} (hx : Ascii x) (hz : x.cps.size ≤ 16777216) : OpM prog w M h k "encode" (.str x) [.str (PySem.Str.ofString "ascii")] [] (.bytes (encB x)) := by
  refine OpM.builtin (T := "str") (fun s v kp r => by cases r using Rd.strE0; exact ⟨typeIs_str _ _ _, fun a e => nomatch e⟩) F.plainAttrs_str F.slot_str_encode F.type_str_encode (.of fun A s vs us rm kp r1 r2 => ?_)
  cases r2 using RdL.nilE
  cases r1 using RdL.consE with
  | cons r r' => cases r' using RdL.consE with
    | cons q q' =>
      cases q' using RdL.nilE; cases r using Rd.strE0; cases q using Rd.strE0
      exact call_meets F.slot_str_encode (typeIs_str _ _ _) F.entry_str_encode (F.args_str_encode_2 _ _) (enc_meets2 hx hz) fun t' k' => ⟨Kp.tok s _, .bytes _ _⟩
end
end Mine
namespace Mine
open PySem PySem.W PySem.Calls PyProof.Rows PySem.Spec
noncomputable abbrev PR : Program := PySem.Challenge.rw_yh0021_01.row.prog
noncomputable def stmtAt : Nat → List Stmt → Stmt
  | _, [] => .Pass ⟨0, 0, 0, 0⟩
  | 0, s :: _ => s
  | n + 1, _ :: r => stmtAt n r
noncomputable def clsBody : Stmt → List Stmt
  | .ClassDef _ _ _ b .. => b
  | _ => []
noncomputable def st (i : Nat) : Stmt := stmtAt i PR.main.body
noncomputable def st2 (i j : Nat) : Stmt := stmtAt j (clsBody (st i))
noncomputable def fArgs : Stmt → Arguments
  | .FunctionDef _ a .. => a
  | _ => ⟨[], [], none, [], [], none, []⟩
noncomputable def fBody : Stmt → List Stmt
  | .FunctionDef _ _ b .. => b
  | _ => []
noncomputable def fScope : Stmt → Scope
  | .FunctionDef _ _ _ _ _ _ s .. => s
  | _ => PR.main.scope
noncomputable def K0 (P : Params) : Frag := [
  (2, ⟨.none, none, (.dict #[⟨(PySem.PyData.keyHash P ("\x69mport.loaded._sre" : Str)), (.str ("\x69mport.loaded._sre" : Str) 183), (.bool true)⟩, ⟨(PySem.PyData.keyHash P ("class._frozen_importlib.BuiltinImporter" : Str)), (.str ("class._frozen_importlib.BuiltinImporter" : Str) 185), (.ref 14)⟩, ⟨(PySem.PyData.keyHash P ("watched.\x69mport" : Str)), (.str ("watched.\x69mport" : Str) 206), (.ref 18)⟩, ⟨(PySem.PyData.keyHash P ("class._frozen_importlib.ModuleSpec" : Str)), (.str ("class._frozen_importlib.ModuleSpec" : Str) 216), (.ref 22)⟩, ⟨(PySem.PyData.keyHash P ("sys.modules.booked-epoch" : Str)), (.str ("sys.modules.booked-epoch" : Str) 245), (.int (3 : Int) 0)⟩, ⟨(PySem.PyData.keyHash P ("\x69mport.later-laid._sre" : Str)), (.str ("\x69mport.later-laid._sre" : Str) 270), (.bool true)⟩, ⟨(PySem.PyData.keyHash P ("watched.library" : Str)), (.str ("watched.library" : Str) 272), (.ref 27)⟩, ⟨(PySem.PyData.keyHash P ("watched.library-objects" : Str)), (.str ("watched.library-objects" : Str) 0), (.str ("\x0c" : Str) 0)⟩, ⟨(PySem.PyData.keyHash P ("watched.library-deep._sre" : Str)), (.str ("watched.library-deep._sre" : Str) 273), (.str ("\x04\x00\x00\x0b\x04\x00\x00\x0b\x04\x00\x00\x03\x04\x00\x00\x0b\x08\x04dict\x02" : Str) 0)⟩, ⟨(PySem.PyData.keyHash P ("type.__subclasses__.Exception.0" : Str)), (.str ("type.__subclasses__.Exception.0" : Str) 372), (.int (68 : Int) 0)⟩, ⟨(PySem.PyData.keyHash P ("type.__subclasses__.Exception.n" : Str)), (.str ("type.__subclasses__.Exception.n" : Str) 373), (.int (1 : Int) 0)⟩] 11), #[]⟩),
  (3, ⟨(.type "dict"), none, (.dict #[⟨(PySem.PyData.keyHash P ("__name__" : Str)), (.str ("__name__" : Str) 165), (.str ("law_yh0021_01" : Str) 687)⟩, ⟨(PySem.PyData.keyHash P ("__doc__" : Str)), (.str ("__doc__" : Str) 166), .none⟩, ⟨(PySem.PyData.keyHash P ("__package__" : Str)), (.str ("__package__" : Str) 167), .none⟩, ⟨(PySem.PyData.keyHash P ("__loader__" : Str)), (.str ("__loader__" : Str) 168), (.builtin "__main__.__loader__#opaque")⟩, ⟨(PySem.PyData.keyHash P ("__spec__" : Str)), (.str ("__spec__" : Str) 169), .none⟩, ⟨(PySem.PyData.keyHash P ("__annotations__" : Str)), (.str ("__annotations__" : Str) 170), (.ref 6)⟩, ⟨(PySem.PyData.keyHash P ("__builtins__" : Str)), (.str ("__builtins__" : Str) 171), (.ref 4)⟩, ⟨(PySem.PyData.keyHash P ("__file__" : Str)), (.str ("__file__" : Str) 173), (.str ("/claim/cut.py" : Str) 172)⟩, ⟨(PySem.PyData.keyHash P ("__cached__" : Str)), (.str ("__cached__" : Str) 174), .none⟩, ⟨(PySem.PyData.keyHash P ("_sre" : Str)), (.str ("_sre" : Str) 275), (.ref 12)⟩, ⟨(PySem.PyData.keyHash P ("_wall" : Str)), (.str ("_wall" : Str) 288), (.ref 38)⟩, ⟨(PySem.PyData.keyHash P ("_quoted" : Str)), (.str ("_quoted" : Str) 334), (.ref 43)⟩, ⟨(PySem.PyData.keyHash P ("_paren_depth" : Str)), (.str ("_paren_depth" : Str) 343), (.ref 51)⟩, ⟨(PySem.PyData.keyHash P ("Int2AP" : Str)), (.str ("Int2AP" : Str) 353), (.ref 58)⟩, ⟨(PySem.PyData.keyHash P ("Error" : Str)), (.str ("Error" : Str) 375), (.ref 68)⟩, ⟨(PySem.PyData.keyHash P ("error_reply" : Str)), (.str ("error_reply" : Str) 391), (.ref 81)⟩, ⟨(PySem.PyData.keyHash P ("error_proto" : Str)), (.str ("error_proto" : Str) 407), (.ref 93)⟩, ⟨(PySem.PyData.keyHash P ("parse229" : Str)), (.str ("parse229" : Str) 420), (.ref 102)⟩, ⟨(PySem.PyData.keyHash P ("tspecials" : Str)), (.str ("tspecials" : Str) 456), (.ref 107)⟩, ⟨(PySem.PyData.keyHash P ("_name_disallowed_re" : Str)), (.str ("_name_disallowed_re" : Str) 482), (.ref 112)⟩, ⟨(PySem.PyData.keyHash P ("_value_disallowed_re" : Str)), (.str ("_value_disallowed_re" : Str) 516), (.ref 117)⟩, ⟨(PySem.PyData.keyHash P ("_formatparam" : Str)), (.str ("_formatparam" : Str) 526), (.ref 125)⟩, ⟨(PySem.PyData.keyHash P ("Headers" : Str)), (.str ("Headers" : Str) 686), (.ref 248)⟩, ⟨(PySem.PyData.keyHash P ("_law_word" : Str)), (.str ("_law_word" : Str) 694), (.ref 257)⟩, ⟨(PySem.PyData.keyHash P ("_law_reply" : Str)), (.str ("_law_reply" : Str) 703), (.ref 264)⟩, ⟨(PySem.PyData.keyHash P ("_law_text" : Str)), (.str ("_law_text" : Str) 711), (.ref 271)⟩, ⟨(PySem.PyData.keyHash P ("_law_sent" : Str)), (.str ("_law_sent" : Str) 717), (.ref 276)⟩, ⟨(PySem.PyData.keyHash P ("_law_told" : Str)), (.str ("_law_told" : Str) 726), (.ref 283)⟩, ⟨(PySem.PyData.keyHash P ("_law_turned" : Str)), (.str ("_law_turned" : Str) 732), (.ref 288)⟩, ⟨(PySem.PyData.keyHash P ("_law_pairs" : Str)), (.str ("_law_pairs" : Str) 738), (.ref 293)⟩, ⟨(PySem.PyData.keyHash P ("law" : Str)), (.str ("law" : Str) 744), (.ref 298)⟩] 31), #[]⟩),
  (32, ⟨(.type "tuple"), none, (.seq #[] 0), #[]⟩),
  (34, ⟨(.type "tuple"), none, (.seq #[(.str ("k" : Str) 285)] 0), #[]⟩),
  (35, ⟨(.type "tuple"), none, (.seq #[] 0), #[]⟩),
  (37, ⟨(.type "code"), none, (.fields #[(.str ("_wall" : Str) 282), (.str ("_wall" : Str) 283), (.str ("/claim/cut.py" : Str) 284), (.int (2 : Int) 0), (.int (1 : Int) 0), (.int (0 : Int) 0), (.int (0 : Int) 0), (.int (3 : Int) 0), (.ref 32), (.bool true), (.int (276 : Int) 0), (.ref 33), .none, (.ref 34), (.ref 35), (.ref 36), (.int (286 : Int) 0), (.int (2 : Int) 0), (.str ("/claim/cut.py" : Str) 287)]), #[]⟩),
  (38, ⟨(.type "function"), none, (.func ⟨("_wall" : Str), ("_wall" : Str), (fArgs (st 1)), (.stmts (fBody (st 1))), (fScope (st 1)), 3, [], .none, .none, .none, (.str ("__main__" : Str) 164), none, (.ref 37), .none, 0⟩), #[]⟩),
  (42, ⟨(.type "tuple"), none, (.seq #[(.int (14 : Int) 0), (.int (8 : Int) 0), (.int (1 : Int) 0), (.int (2 : Int) 0), (.int (4294967295 : Int) 0), (.int (1 : Int) 0), (.int (1 : Int) 0), (.int (34 : Int) 0), (.int (0 : Int) 0), (.int (16 : Int) 0), (.int (34 : Int) 0), (.int (28 : Int) 0), (.int (22 : Int) 0), (.int (0 : Int) 0), (.int (4294967295 : Int) 0), (.int (7 : Int) 0), (.int (11 : Int) 0), (.int (13 : Int) 0), (.int (7 : Int) 0), (.int (21 : Int) 0), (.int (16 : Int) 0), (.int (34 : Int) 0), (.int (16 : Int) 0), (.int (92 : Int) 0), (.int (0 : Int) 0), (.int (15 : Int) 0), (.int (8 : Int) 0), (.int (6 : Int) 0), (.int (16 : Int) 0), (.int (92 : Int) 0), (.int (2 : Int) 0), (.int (15 : Int) 0), (.int (2 : Int) 0), (.int (0 : Int) 0), (.int (1 : Int) 0), (.int (16 : Int) 0), (.int (34 : Int) 0), (.int (1 : Int) 0)] 0), #[]⟩),
  (43, ⟨(.type "re.Pattern"), none, (.fields #[(.bytes #[(34 : UInt8), (40 : UInt8), (63 : UInt8), (58 : UInt8), (91 : UInt8), (94 : UInt8), (34 : UInt8), (92 : UInt8), (92 : UInt8), (93 : UInt8), (124 : UInt8), (92 : UInt8), (92 : UInt8), (46 : UInt8), (41 : UInt8), (42 : UInt8), (43 : UInt8), (34 : UInt8)] 292), (.int (0 : Int) 333), (.int (0 : Int) 0), .none, .none, (.ref 42), (.int (1 : Int) 0)]), #[]⟩),
  (44, ⟨(.type "tuple"), none, (.seq #[(.int (0 : Int) 335)] 0), #[]⟩),
  (45, ⟨(.type "tuple"), none, (.seq #[] 0), #[]⟩),
  (47, ⟨(.type "tuple"), none, (.seq #[(.str ("data" : Str) 339), (.str ("depth" : Str) 340)] 0), #[]⟩),
  (48, ⟨(.type "tuple"), none, (.seq #[] 0), #[]⟩),
  (50, ⟨(.type "code"), none, (.fields #[(.str ("_paren_depth" : Str) 336), (.str ("_paren_depth" : Str) 337), (.str ("/claim/cut.py" : Str) 338), (.int (7 : Int) 0), (.int (2 : Int) 0), (.int (0 : Int) 0), (.int (0 : Int) 0), (.int (3 : Int) 0), (.ref 45), (.bool true), (.int (276 : Int) 0), (.ref 46), .none, (.ref 47), (.ref 48), (.ref 49), (.int (341 : Int) 0), (.int (7 : Int) 0), (.str ("/claim/cut.py" : Str) 342)]), #[]⟩),
  (51, ⟨(.type "function"), none, (.func ⟨("_paren_depth" : Str), ("_paren_depth" : Str), (fArgs (st 4)), (.stmts (fBody (st 4))), (fScope (st 4)), 3, [], (.ref 44), .none, .none, (.str ("cpy313.imaplib" : Str) 289), none, (.ref 50), .none, 0⟩), #[]⟩),
  (52, ⟨(.type "tuple"), none, (.seq #[] 0), #[]⟩),
  (54, ⟨(.type "tuple"), none, (.seq #[(.str ("num" : Str) 347), (.str ("val" : Str) 348), (.str ("AP" : Str) 349), (.str ("mod" : Str) 350)] 0), #[]⟩),
  (55, ⟨(.type "tuple"), none, (.seq #[] 0), #[]⟩),
  (57, ⟨(.type "code"), none, (.fields #[(.str ("Int2AP" : Str) 344), (.str ("Int2AP" : Str) 345), (.str ("/claim/cut.py" : Str) 346), (.int (10 : Int) 0), (.int (1 : Int) 0), (.int (0 : Int) 0), (.int (0 : Int) 0), (.int (3 : Int) 0), (.ref 52), (.bool true), (.int (276 : Int) 0), (.ref 53), .none, (.ref 54), (.ref 55), (.ref 56), (.int (351 : Int) 0), (.int (10 : Int) 0), (.str ("/claim/cut.py" : Str) 352)]), #[]⟩),
  (58, ⟨(.type "function"), none, (.func ⟨("Int2AP" : Str), ("Int2AP" : Str), (fArgs (st 5)), (.stmts (fBody (st 5))), (fScope (st 5)), 3, [], .none, .none, .none, (.str ("cpy313.imaplib" : Str) 289), none, (.ref 57), .none, 0⟩), #[]⟩),
  (59, ⟨(.type "tuple"), none, (.seq #[(.type "Exception")] 0), #[]⟩),
  (66, ⟨(.type "tuple"), none, (.seq #[] 0), #[]⟩),
  (67, ⟨(.type "dict"), none, (.dict #[⟨(PySem.PyData.keyHash P ("__module__" : Str)), (.str ("__module__" : Str) 363), (.str ("cpy313.ftplib" : Str) 354)⟩, ⟨(PySem.PyData.keyHash P ("__firstlineno__" : Str)), (.str ("__firstlineno__" : Str) 367), (.int (19 : Int) 366)⟩, ⟨(PySem.PyData.keyHash P ("__static_attributes__" : Str)), (.str ("__static_attributes__" : Str) 368), (.ref 66)⟩, ⟨(PySem.PyData.keyHash P ("__weakref__" : Str)), (.str ("__weakref__" : Str) 370), (.ref 69)⟩, ⟨(PySem.PyData.keyHash P ("__doc__" : Str)), (.str ("__doc__" : Str) 371), .none⟩] 3), #[]⟩),
  (68, ⟨(.type "type"), none, (.cls ⟨("Error" : Str), [(.type "Exception")], [(.ref 68), (.type "Exception"), (.type "BaseException"), (.type "object")], 67, ("Error" : Str), true, [], [(.ref 81), (.ref 93)], false, none, false⟩), #[(some (.ref 59)), none, (some (.str ("Error" : Str) 356)), (some (.str ("Error" : Str) 364)), (some (.builtin "Exception.__new__")), (some (.bool true))]⟩),
  (69, ⟨(.type "getset_descriptor"), none, (.fields #[(.str ("__weakref__" : Str) 369), (.ref 68), (.builtin "ExceptionGroup.__weakref__"), .none]), #[]⟩),
  (72, ⟨(.type "tuple"), none, (.seq #[(.ref 68)] 0), #[]⟩),
  (79, ⟨(.type "tuple"), none, (.seq #[] 0), #[]⟩),
  (80, ⟨(.type "dict"), none, (.dict #[⟨(PySem.PyData.keyHash P ("__module__" : Str)), (.str ("__module__" : Str) 383), (.str ("cpy313.ftplib" : Str) 354)⟩, ⟨(PySem.PyData.keyHash P ("__firstlineno__" : Str)), (.str ("__firstlineno__" : Str) 387), (.int (21 : Int) 386)⟩, ⟨(PySem.PyData.keyHash P ("__static_attributes__" : Str)), (.str ("__static_attributes__" : Str) 388), (.ref 79)⟩, ⟨(PySem.PyData.keyHash P ("__doc__" : Str)), (.str ("__doc__" : Str) 389), .none⟩] 2), #[]⟩),
  (81, ⟨(.type "type"), none, (.cls ⟨("error_reply" : Str), [(.ref 68)], [(.ref 81), (.ref 68), (.type "Exception"), (.type "BaseException"), (.type "object")], 80, ("error_reply" : Str), true, [], [], false, none, false⟩), #[(some (.ref 72)), none, (some (.str ("error_reply" : Str) 376)), (some (.str ("error_reply" : Str) 384)), (some (.builtin "Exception.__new__")), (some (.bool true))]⟩),
  (84, ⟨(.type "tuple"), none, (.seq #[(.ref 68)] 0), #[]⟩),
  (91, ⟨(.type "tuple"), none, (.seq #[] 0), #[]⟩),
  (92, ⟨(.type "dict"), none, (.dict #[⟨(PySem.PyData.keyHash P ("__module__" : Str)), (.str ("__module__" : Str) 399), (.str ("cpy313.ftplib" : Str) 354)⟩, ⟨(PySem.PyData.keyHash P ("__firstlineno__" : Str)), (.str ("__firstlineno__" : Str) 403), (.int (23 : Int) 402)⟩, ⟨(PySem.PyData.keyHash P ("__static_attributes__" : Str)), (.str ("__static_attributes__" : Str) 404), (.ref 91)⟩, ⟨(PySem.PyData.keyHash P ("__doc__" : Str)), (.str ("__doc__" : Str) 405), .none⟩] 2), #[]⟩),
  (93, ⟨(.type "type"), none, (.cls ⟨("error_proto" : Str), [(.ref 68)], [(.ref 93), (.ref 68), (.type "Exception"), (.type "BaseException"), (.type "object")], 92, ("error_proto" : Str), true, [], [], false, none, false⟩), #[(some (.ref 84)), none, (some (.str ("error_proto" : Str) 392)), (some (.str ("error_proto" : Str) 400)), (some (.builtin "Exception.__new__")), (some (.bool true))]⟩),
  (96, ⟨(.type "tuple"), none, (.seq #[] 0), #[]⟩),
  (98, ⟨(.type "tuple"), none, (.seq #[(.str ("resp" : Str) 411), (.str ("peer" : Str) 412), (.str ("left" : Str) 413), (.str ("right" : Str) 414), (.str ("parts" : Str) 415), (.str ("host" : Str) 416), (.str ("port" : Str) 417)] 0), #[]⟩),
  (99, ⟨(.type "tuple"), none, (.seq #[] 0), #[]⟩),
  (101, ⟨(.type "code"), none, (.fields #[(.str ("parse229" : Str) 408), (.str ("parse229" : Str) 409), (.str ("/claim/cut.py" : Str) 410), (.int (25 : Int) 0), (.int (2 : Int) 0), (.int (0 : Int) 0), (.int (0 : Int) 0), (.int (3 : Int) 0), (.ref 96), (.bool true), (.int (276 : Int) 0), (.ref 97), .none, (.ref 98), (.ref 99), (.ref 100), (.int (418 : Int) 0), (.int (25 : Int) 0), (.str ("/claim/cut.py" : Str) 419)]), #[]⟩),
  (102, ⟨(.type "function"), none, (.func ⟨("parse229" : Str), ("parse229" : Str), (fArgs (st 10)), (.stmts (fBody (st 10))), (fScope (st 10)), 3, [], .none, .none, .none, (.str ("cpy313.ftplib" : Str) 354), none, (.ref 101), .none, 0⟩), #[]⟩),
  (106, ⟨(.type "tuple"), none, (.seq #[(.int (14 : Int) 0), (.int (14 : Int) 0), (.int (4 : Int) 0), (.int (1 : Int) 0), (.int (1 : Int) 0), (.int (9 : Int) 0), (.int (0 : Int) 0), (.int (4227896069 : Int) 0), (.int (939524097 : Int) 0), (.int (0 : Int) 0), (.int (0 : Int) 0), (.int (0 : Int) 0), (.int (0 : Int) 0), (.int (0 : Int) 0), (.int (0 : Int) 0), (.int (13 : Int) 0), (.int (11 : Int) 0), (.int (9 : Int) 0), (.int (0 : Int) 0), (.int (4227896069 : Int) 0), (.int (939524097 : Int) 0), (.int (0 : Int) 0), (.int (0 : Int) 0), (.int (0 : Int) 0), (.int (0 : Int) 0), (.int (0 : Int) 0), (.int (0 : Int) 0), (.int (1 : Int) 0)] 0), #[]⟩),
  (107, ⟨(.type "re.Pattern"), none, (.fields #[(.str ("[ \\(\\)<>@,;:\\\\\"/\\[\\]\\?=]" : Str) 424), (.int (32 : Int) 455), (.int (0 : Int) 0), .none, .none, (.ref 106), (.int (0 : Int) 0)]), #[]⟩),
  (111, ⟨(.type "tuple"), none, (.seq #[(.int (14 : Int) 0), (.int (10 : Int) 0), (.int (4 : Int) 0), (.int (1 : Int) 0), (.int (1 : Int) 0), (.int (22 : Int) 0), (.int (0 : Int) 0), (.int (31 : Int) 0), (.int (16 : Int) 0), (.int (127 : Int) 0), (.int (0 : Int) 0), (.int (13 : Int) 0), (.int (7 : Int) 0), (.int (22 : Int) 0), (.int (0 : Int) 0), (.int (31 : Int) 0), (.int (16 : Int) 0), (.int (127 : Int) 0), (.int (0 : Int) 0), (.int (1 : Int) 0)] 0), #[]⟩),
  (112, ⟨(.type "re.Pattern"), none, (.fields #[(.str ("[\\x00-\\x1F\\x7F]" : Str) 458), (.int (32 : Int) 481), (.int (0 : Int) 0), .none, .none, (.ref 111), (.int (0 : Int) 0)]), #[]⟩),
  (116, ⟨(.type "tuple"), none, (.seq #[(.int (14 : Int) 0), (.int (14 : Int) 0), (.int (4 : Int) 0), (.int (1 : Int) 0), (.int (1 : Int) 0), (.int (9 : Int) 0), (.int (4294966783 : Int) 0), (.int (0 : Int) 0), (.int (0 : Int) 0), (.int (2147483648 : Int) 0), (.int (0 : Int) 0), (.int (0 : Int) 0), (.int (0 : Int) 0), (.int (0 : Int) 0), (.int (0 : Int) 0), (.int (13 : Int) 0), (.int (11 : Int) 0), (.int (9 : Int) 0), (.int (4294966783 : Int) 0), (.int (0 : Int) 0), (.int (0 : Int) 0), (.int (2147483648 : Int) 0), (.int (0 : Int) 0), (.int (0 : Int) 0), (.int (0 : Int) 0), (.int (0 : Int) 0), (.int (0 : Int) 0), (.int (1 : Int) 0)] 0), #[]⟩),
  (117, ⟨(.type "re.Pattern"), none, (.fields #[(.str ("[\\x00-\\x08\\x0A-\\x1F\\x7F]" : Str) 484), (.int (32 : Int) 515), (.int (0 : Int) 0), .none, .none, (.ref 116), (.int (0 : Int) 0)]), #[]⟩),
  (118, ⟨(.type "tuple"), none, (.seq #[.none, (.int (1 : Int) 517)] 0), #[]⟩),
  (119, ⟨(.type "tuple"), none, (.seq #[] 0), #[]⟩),
  (121, ⟨(.type "tuple"), none, (.seq #[(.str ("param" : Str) 521), (.str ("value" : Str) 522), (.str ("quote" : Str) 523)] 0), #[]⟩),
  (122, ⟨(.type "tuple"), none, (.seq #[] 0), #[]⟩),
  (124, ⟨(.type "code"), none, (.fields #[(.str ("_formatparam" : Str) 518), (.str ("_formatparam" : Str) 519), (.str ("/claim/cut.py" : Str) 520), (.int (46 : Int) 0), (.int (3 : Int) 0), (.int (0 : Int) 0), (.int (0 : Int) 0), (.int (3 : Int) 0), (.ref 119), (.bool true), (.int (276 : Int) 0), (.ref 120), .none, (.ref 121), (.ref 122), (.ref 123), (.int (524 : Int) 0), (.int (46 : Int) 0), (.str ("/claim/cut.py" : Str) 525)]), #[]⟩),
  (125, ⟨(.type "function"), none, (.func ⟨("_formatparam" : Str), ("_formatparam" : Str), (fArgs (st 15)), (.stmts (fBody (st 15))), (fScope (st 15)), 3, [], (.ref 118), .none, .none, (.str ("cpy313.wsgiref.headers" : Str) 421), none, (.ref 124), .none, 0⟩), #[]⟩),
  (133, ⟨(.type "tuple"), none, (.seq #[.none] 0), #[]⟩),
  (134, ⟨(.type "tuple"), none, (.seq #[] 0), #[]⟩),
  (136, ⟨(.type "tuple"), none, (.seq #[(.str ("self" : Str) 542), (.str ("headers" : Str) 543), (.str ("k" : Str) 544), (.str ("v" : Str) 545)] 0), #[]⟩),
  (137, ⟨(.type "tuple"), none, (.seq #[] 0), #[]⟩),
  (139, ⟨(.type "code"), none, (.fields #[(.str ("__init__" : Str) 539), (.str ("Headers.__init__" : Str) 540), (.str ("/claim/cut.py" : Str) 541), (.int (57 : Int) 0), (.int (2 : Int) 0), (.int (0 : Int) 0), (.int (0 : Int) 0), (.int (3 : Int) 0), (.ref 134), (.bool true), (.int (276 : Int) 0), (.ref 135), .none, (.ref 136), (.ref 137), (.ref 138), (.int (546 : Int) 0), (.int (57 : Int) 0), (.str ("/claim/cut.py" : Str) 547)]), #[]⟩),
  (140, ⟨(.type "function"), none, (.func ⟨("__init__" : Str), ("Headers.__init__" : Str), (fArgs (st2 16 0)), (.stmts (fBody (st2 16 0))), (fScope (st2 16 0)), 3, [], (.ref 133), .none, .none, (.str ("cpy313.wsgiref.headers" : Str) 421), none, (.ref 139), .none, 0⟩), #[]⟩),
  (141, ⟨(.type "tuple"), none, (.seq #[] 0), #[]⟩),
  (143, ⟨(.type "tuple"), none, (.seq #[(.str ("self" : Str) 552), (.str ("value" : Str) 553), (.str ("name" : Str) 554), (.str ("regex" : Str) 555)] 0), #[]⟩),
  (144, ⟨(.type "tuple"), none, (.seq #[] 0), #[]⟩),
  (146, ⟨(.type "code"), none, (.fields #[(.str ("_convert_string_type" : Str) 549), (.str ("Headers._convert_string_type" : Str) 550), (.str ("/claim/cut.py" : Str) 551), (.int (67 : Int) 0), (.int (2 : Int) 0), (.int (0 : Int) 0), (.int (1 : Int) 0), (.int (3 : Int) 0), (.ref 141), (.bool true), (.int (276 : Int) 0), (.ref 142), .none, (.ref 143), (.ref 144), (.ref 145), (.int (556 : Int) 0), (.int (67 : Int) 0), (.str ("/claim/cut.py" : Str) 557)]), #[]⟩),
  (147, ⟨(.type "function"), none, (.func ⟨("_convert_string_type" : Str), ("Headers._convert_string_type" : Str), (fArgs (st2 16 1)), (.stmts (fBody (st2 16 1))), (fScope (st2 16 1)), 3, [], .none, .none, .none, (.str ("cpy313.wsgiref.headers" : Str) 421), none, (.ref 146), .none, 0⟩), #[]⟩),
  (148, ⟨(.type "tuple"), none, (.seq #[] 0), #[]⟩),
  (150, ⟨(.type "tuple"), none, (.seq #[(.str ("self" : Str) 562)] 0), #[]⟩),
  (151, ⟨(.type "tuple"), none, (.seq #[] 0), #[]⟩),
  (153, ⟨(.type "code"), none, (.fields #[(.str ("__len__" : Str) 559), (.str ("Headers.__len__" : Str) 560), (.str ("/claim/cut.py" : Str) 561), (.int (75 : Int) 0), (.int (1 : Int) 0), (.int (0 : Int) 0), (.int (0 : Int) 0), (.int (3 : Int) 0), (.ref 148), (.bool true), (.int (276 : Int) 0), (.ref 149), .none, (.ref 150), (.ref 151), (.ref 152), (.int (563 : Int) 0), (.int (75 : Int) 0), (.str ("/claim/cut.py" : Str) 564)]), #[]⟩),
  (154, ⟨(.type "function"), none, (.func ⟨("__len__" : Str), ("Headers.__len__" : Str), (fArgs (st2 16 2)), (.stmts (fBody (st2 16 2))), (fScope (st2 16 2)), 3, [], .none, .none, .none, (.str ("cpy313.wsgiref.headers" : Str) 421), none, (.ref 153), .none, 0⟩), #[]⟩),
  (155, ⟨(.type "tuple"), none, (.seq #[] 0), #[]⟩),
  (157, ⟨(.type "tuple"), none, (.seq #[(.str ("self" : Str) 569), (.str ("name" : Str) 570), (.str ("val" : Str) 571)] 0), #[]⟩),
  (158, ⟨(.type "tuple"), none, (.seq #[] 0), #[]⟩),
  (160, ⟨(.type "code"), none, (.fields #[(.str ("__setitem__" : Str) 566), (.str ("Headers.__setitem__" : Str) 567), (.str ("/claim/cut.py" : Str) 568), (.int (78 : Int) 0), (.int (3 : Int) 0), (.int (0 : Int) 0), (.int (0 : Int) 0), (.int (3 : Int) 0), (.ref 155), (.bool true), (.int (276 : Int) 0), (.ref 156), .none, (.ref 157), (.ref 158), (.ref 159), (.int (572 : Int) 0), (.int (78 : Int) 0), (.str ("/claim/cut.py" : Str) 573)]), #[]⟩),
  (161, ⟨(.type "function"), none, (.func ⟨("__setitem__" : Str), ("Headers.__setitem__" : Str), (fArgs (st2 16 3)), (.stmts (fBody (st2 16 3))), (fScope (st2 16 3)), 3, [], .none, .none, .none, (.str ("cpy313.wsgiref.headers" : Str) 421), none, (.ref 160), .none, 0⟩), #[]⟩),
  (162, ⟨(.type "tuple"), none, (.seq #[] 0), #[]⟩),
  (165, ⟨(.type "code"), none, (.fields #[(.str ("__delitem__" : Str) 575), (.str ("Headers.__delitem__" : Str) 576), (.str ("/claim/cut.py" : Str) 577), (.int (82 : Int) 0), (.int (2 : Int) 0), (.int (0 : Int) 0), (.int (0 : Int) 0), (.int (3 : Int) 0), (.ref 162), (.bool true), (.int (276 : Int) 0), (.ref 163), .none, .none, .none, (.ref 164), (.int (578 : Int) 0), (.int (82 : Int) 0), (.str ("/claim/cut.py" : Str) 579)]), #[]⟩),
  (166, ⟨(.type "function"), none, (.func ⟨("__delitem__" : Str), ("Headers.__delitem__" : Str), (fArgs (st2 16 4)), (.stmts (fBody (st2 16 4))), (fScope (st2 16 4)), 3, [], .none, .none, .none, (.str ("cpy313.wsgiref.headers" : Str) 421), none, (.ref 165), .none, 0⟩), #[]⟩),
  (167, ⟨(.type "tuple"), none, (.seq #[] 0), #[]⟩),
  (169, ⟨(.type "tuple"), none, (.seq #[(.str ("self" : Str) 584), (.str ("name" : Str) 585)] 0), #[]⟩),
  (170, ⟨(.type "tuple"), none, (.seq #[] 0), #[]⟩),
  (172, ⟨(.type "code"), none, (.fields #[(.str ("__getitem__" : Str) 581), (.str ("Headers.__getitem__" : Str) 582), (.str ("/claim/cut.py" : Str) 583), (.int (86 : Int) 0), (.int (2 : Int) 0), (.int (0 : Int) 0), (.int (0 : Int) 0), (.int (3 : Int) 0), (.ref 167), (.bool true), (.int (276 : Int) 0), (.ref 168), .none, (.ref 169), (.ref 170), (.ref 171), (.int (586 : Int) 0), (.int (86 : Int) 0), (.str ("/claim/cut.py" : Str) 587)]), #[]⟩),
  (173, ⟨(.type "function"), none, (.func ⟨("__getitem__" : Str), ("Headers.__getitem__" : Str), (fArgs (st2 16 5)), (.stmts (fBody (st2 16 5))), (fScope (st2 16 5)), 3, [], .none, .none, .none, (.str ("cpy313.wsgiref.headers" : Str) 421), none, (.ref 172), .none, 0⟩), #[]⟩),
  (174, ⟨(.type "tuple"), none, (.seq #[] 0), #[]⟩),
  (176, ⟨(.type "tuple"), none, (.seq #[(.str ("self" : Str) 592), (.str ("name" : Str) 593)] 0), #[]⟩),
  (177, ⟨(.type "tuple"), none, (.seq #[] 0), #[]⟩),
  (179, ⟨(.type "code"), none, (.fields #[(.str ("__contains__" : Str) 589), (.str ("Headers.__contains__" : Str) 590), (.str ("/claim/cut.py" : Str) 591), (.int (89 : Int) 0), (.int (2 : Int) 0), (.int (0 : Int) 0), (.int (0 : Int) 0), (.int (3 : Int) 0), (.ref 174), (.bool true), (.int (276 : Int) 0), (.ref 175), .none, (.ref 176), (.ref 177), (.ref 178), (.int (594 : Int) 0), (.int (89 : Int) 0), (.str ("/claim/cut.py" : Str) 595)]), #[]⟩),
  (180, ⟨(.type "function"), none, (.func ⟨("__contains__" : Str), ("Headers.__contains__" : Str), (fArgs (st2 16 6)), (.stmts (fBody (st2 16 6))), (fScope (st2 16 5)), 3, [], .none, .none, .none, (.str ("cpy313.wsgiref.headers" : Str) 421), none, (.ref 179), .none, 0⟩), #[]⟩),
  (181, ⟨(.type "tuple"), none, (.seq #[] 0), #[]⟩),
  (183, ⟨(.type "tuple"), none, (.seq #[(.str ("self" : Str) 600), (.str ("name" : Str) 601)] 0), #[]⟩),
  (184, ⟨(.type "tuple"), none, (.seq #[] 0), #[]⟩),
  (186, ⟨(.type "code"), none, (.fields #[(.str ("get_all" : Str) 597), (.str ("Headers.get_all" : Str) 598), (.str ("/claim/cut.py" : Str) 599), (.int (92 : Int) 0), (.int (2 : Int) 0), (.int (0 : Int) 0), (.int (0 : Int) 0), (.int (3 : Int) 0), (.ref 181), (.bool true), (.int (276 : Int) 0), (.ref 182), .none, (.ref 183), (.ref 184), (.ref 185), (.int (602 : Int) 0), (.int (92 : Int) 0), (.str ("/claim/cut.py" : Str) 603)]), #[]⟩),
  (187, ⟨(.type "function"), none, (.func ⟨("get_all" : Str), ("Headers.get_all" : Str), (fArgs (st2 16 7)), (.stmts (fBody (st2 16 7))), (fScope (st2 16 7)), 3, [], .none, .none, .none, (.str ("cpy313.wsgiref.headers" : Str) 421), none, (.ref 186), .none, 0⟩), #[]⟩),
  (188, ⟨(.type "tuple"), none, (.seq #[.none] 0), #[]⟩),
  (189, ⟨(.type "tuple"), none, (.seq #[] 0), #[]⟩),
  (191, ⟨(.type "tuple"), none, (.seq #[(.str ("self" : Str) 608), (.str ("name" : Str) 609), (.str ("default" : Str) 610), (.str ("k" : Str) 611), (.str ("v" : Str) 612)] 0), #[]⟩),
  (192, ⟨(.type "tuple"), none, (.seq #[] 0), #[]⟩),
  (194, ⟨(.type "code"), none, (.fields #[(.str ("get" : Str) 605), (.str ("Headers.get" : Str) 606), (.str ("/claim/cut.py" : Str) 607), (.int (95 : Int) 0), (.int (3 : Int) 0), (.int (0 : Int) 0), (.int (0 : Int) 0), (.int (3 : Int) 0), (.ref 189), (.bool true), (.int (276 : Int) 0), (.ref 190), .none, (.ref 191), (.ref 192), (.ref 193), (.int (613 : Int) 0), (.int (95 : Int) 0), (.str ("/claim/cut.py" : Str) 614)]), #[]⟩),
  (195, ⟨(.type "function"), none, (.func ⟨("get" : Str), ("Headers.get" : Str), (fArgs (st2 16 8)), (.stmts (fBody (st2 16 8))), (fScope (st2 16 8)), 3, [], (.ref 188), .none, .none, (.str ("cpy313.wsgiref.headers" : Str) 421), none, (.ref 194), .none, 0⟩), #[]⟩),
  (196, ⟨(.type "tuple"), none, (.seq #[] 0), #[]⟩),
  (199, ⟨(.type "code"), none, (.fields #[(.str ("keys" : Str) 616), (.str ("Headers.keys" : Str) 617), (.str ("/claim/cut.py" : Str) 618), (.int (102 : Int) 0), (.int (1 : Int) 0), (.int (0 : Int) 0), (.int (0 : Int) 0), (.int (3 : Int) 0), (.ref 196), (.bool true), (.int (276 : Int) 0), (.ref 197), .none, .none, .none, (.ref 198), (.int (619 : Int) 0), (.int (102 : Int) 0), (.str ("/claim/cut.py" : Str) 620)]), #[]⟩),
  (200, ⟨(.type "function"), none, (.func ⟨("keys" : Str), ("Headers.keys" : Str), (fArgs (st2 16 9)), (.stmts (fBody (st2 16 9))), (fScope (st2 16 9)), 3, [], .none, .none, .none, (.str ("cpy313.wsgiref.headers" : Str) 421), none, (.ref 199), .none, 0⟩), #[]⟩),
  (201, ⟨(.type "tuple"), none, (.seq #[] 0), #[]⟩),
  (204, ⟨(.type "code"), none, (.fields #[(.str ("values" : Str) 622), (.str ("Headers.values" : Str) 623), (.str ("/claim/cut.py" : Str) 624), (.int (105 : Int) 0), (.int (1 : Int) 0), (.int (0 : Int) 0), (.int (0 : Int) 0), (.int (3 : Int) 0), (.ref 201), (.bool true), (.int (276 : Int) 0), (.ref 202), .none, .none, .none, (.ref 203), (.int (625 : Int) 0), (.int (105 : Int) 0), (.str ("/claim/cut.py" : Str) 626)]), #[]⟩),
  (205, ⟨(.type "function"), none, (.func ⟨("values" : Str), ("Headers.values" : Str), (fArgs (st2 16 10)), (.stmts (fBody (st2 16 10))), (fScope (st2 16 9)), 3, [], .none, .none, .none, (.str ("cpy313.wsgiref.headers" : Str) 421), none, (.ref 204), .none, 0⟩), #[]⟩),
  (206, ⟨(.type "tuple"), none, (.seq #[] 0), #[]⟩),
  (208, ⟨(.type "tuple"), none, (.seq #[(.str ("self" : Str) 631)] 0), #[]⟩),
  (209, ⟨(.type "tuple"), none, (.seq #[] 0), #[]⟩),
  (211, ⟨(.type "code"), none, (.fields #[(.str ("items" : Str) 628), (.str ("Headers.items" : Str) 629), (.str ("/claim/cut.py" : Str) 630), (.int (108 : Int) 0), (.int (1 : Int) 0), (.int (0 : Int) 0), (.int (0 : Int) 0), (.int (3 : Int) 0), (.ref 206), (.bool true), (.int (276 : Int) 0), (.ref 207), .none, (.ref 208), (.ref 209), (.ref 210), (.int (632 : Int) 0), (.int (108 : Int) 0), (.str ("/claim/cut.py" : Str) 633)]), #[]⟩),
  (212, ⟨(.type "function"), none, (.func ⟨("items" : Str), ("Headers.items" : Str), (fArgs (st2 16 11)), (.stmts (fBody (st2 16 11))), (fScope (st2 16 11)), 3, [], .none, .none, .none, (.str ("cpy313.wsgiref.headers" : Str) 421), none, (.ref 211), .none, 0⟩), #[]⟩),
  (213, ⟨(.type "tuple"), none, (.seq #[] 0), #[]⟩),
  (215, ⟨(.type "tuple"), none, (.seq #[(.str ("self" : Str) 638)] 0), #[]⟩),
  (216, ⟨(.type "tuple"), none, (.seq #[] 0), #[]⟩),
  (218, ⟨(.type "code"), none, (.fields #[(.str ("__repr__" : Str) 635), (.str ("Headers.__repr__" : Str) 636), (.str ("/claim/cut.py" : Str) 637), (.int (111 : Int) 0), (.int (1 : Int) 0), (.int (0 : Int) 0), (.int (0 : Int) 0), (.int (3 : Int) 0), (.ref 213), (.bool true), (.int (276 : Int) 0), (.ref 214), .none, (.ref 215), (.ref 216), (.ref 217), (.int (639 : Int) 0), (.int (111 : Int) 0), (.str ("/claim/cut.py" : Str) 640)]), #[]⟩),
  (219, ⟨(.type "function"), none, (.func ⟨("__repr__" : Str), ("Headers.__repr__" : Str), (fArgs (st2 16 12)), (.stmts (fBody (st2 16 12))), (fScope (st2 16 11)), 3, [], .none, .none, .none, (.str ("cpy313.wsgiref.headers" : Str) 421), none, (.ref 218), .none, 0⟩), #[]⟩),
  (220, ⟨(.type "tuple"), none, (.seq #[] 0), #[]⟩),
  (223, ⟨(.type "code"), none, (.fields #[(.str ("__str__" : Str) 642), (.str ("Headers.__str__" : Str) 643), (.str ("/claim/cut.py" : Str) 644), (.int (114 : Int) 0), (.int (1 : Int) 0), (.int (0 : Int) 0), (.int (0 : Int) 0), (.int (3 : Int) 0), (.ref 220), (.bool true), (.int (276 : Int) 0), (.ref 221), .none, .none, .none, (.ref 222), (.int (645 : Int) 0), (.int (114 : Int) 0), (.str ("/claim/cut.py" : Str) 646)]), #[]⟩),
  (224, ⟨(.type "function"), none, (.func ⟨("__str__" : Str), ("Headers.__str__" : Str), (fArgs (st2 16 13)), (.stmts (fBody (st2 16 13))), (fScope (st2 16 13)), 3, [], .none, .none, .none, (.str ("cpy313.wsgiref.headers" : Str) 421), none, (.ref 223), .none, 0⟩), #[]⟩),
  (225, ⟨(.type "tuple"), none, (.seq #[] 0), #[]⟩),
  (227, ⟨(.type "tuple"), none, (.seq #[(.str ("self" : Str) 651)] 0), #[]⟩),
  (228, ⟨(.type "tuple"), none, (.seq #[] 0), #[]⟩),
  (230, ⟨(.type "code"), none, (.fields #[(.str ("__bytes__" : Str) 648), (.str ("Headers.__bytes__" : Str) 649), (.str ("/claim/cut.py" : Str) 650), (.int (117 : Int) 0), (.int (1 : Int) 0), (.int (0 : Int) 0), (.int (0 : Int) 0), (.int (3 : Int) 0), (.ref 225), (.bool true), (.int (276 : Int) 0), (.ref 226), .none, (.ref 227), (.ref 228), (.ref 229), (.int (652 : Int) 0), (.int (117 : Int) 0), (.str ("/claim/cut.py" : Str) 653)]), #[]⟩),
  (231, ⟨(.type "function"), none, (.func ⟨("__bytes__" : Str), ("Headers.__bytes__" : Str), (fArgs (st2 16 14)), (.stmts (fBody (st2 16 14))), (fScope (st2 16 14)), 3, [], .none, .none, .none, (.str ("cpy313.wsgiref.headers" : Str) 421), none, (.ref 230), .none, 0⟩), #[]⟩),
  (232, ⟨(.type "tuple"), none, (.seq #[] 0), #[]⟩),
  (234, ⟨(.type "tuple"), none, (.seq #[(.str ("self" : Str) 658), (.str ("name" : Str) 659), (.str ("value" : Str) 660), (.str ("result" : Str) 661)] 0), #[]⟩),
  (235, ⟨(.type "tuple"), none, (.seq #[] 0), #[]⟩),
  (237, ⟨(.type "code"), none, (.fields #[(.str ("setdefault" : Str) 655), (.str ("Headers.setdefault" : Str) 656), (.str ("/claim/cut.py" : Str) 657), (.int (120 : Int) 0), (.int (3 : Int) 0), (.int (0 : Int) 0), (.int (0 : Int) 0), (.int (3 : Int) 0), (.ref 232), (.bool true), (.int (276 : Int) 0), (.ref 233), .none, (.ref 234), (.ref 235), (.ref 236), (.int (662 : Int) 0), (.int (120 : Int) 0), (.str ("/claim/cut.py" : Str) 663)]), #[]⟩),
  (238, ⟨(.type "function"), none, (.func ⟨("setdefault" : Str), ("Headers.setdefault" : Str), (fArgs (st2 16 15)), (.stmts (fBody (st2 16 15))), (fScope (st2 16 15)), 3, [], .none, .none, .none, (.str ("cpy313.wsgiref.headers" : Str) 421), none, (.ref 237), .none, 0⟩), #[]⟩),
  (239, ⟨(.type "tuple"), none, (.seq #[] 0), #[]⟩),
  (241, ⟨(.type "tuple"), none, (.seq #[(.str ("self" : Str) 668), (.str ("_name" : Str) 669), (.str ("_value" : Str) 670), (.str ("_params" : Str) 671), (.str ("parts" : Str) 672), (.str ("k" : Str) 673), (.str ("v" : Str) 674)] 0), #[]⟩),
  (242, ⟨(.type "tuple"), none, (.seq #[] 0), #[]⟩),
  (244, ⟨(.type "code"), none, (.fields #[(.str ("add_header" : Str) 665), (.str ("Headers.add_header" : Str) 666), (.str ("/claim/cut.py" : Str) 667), (.int (128 : Int) 0), (.int (3 : Int) 0), (.int (0 : Int) 0), (.int (0 : Int) 0), (.int (11 : Int) 0), (.ref 239), (.bool true), (.int (276 : Int) 0), (.ref 240), .none, (.ref 241), (.ref 242), (.ref 243), (.int (675 : Int) 0), (.int (128 : Int) 0), (.str ("/claim/cut.py" : Str) 676)]), #[]⟩),
  (245, ⟨(.type "function"), none, (.func ⟨("add_header" : Str), ("Headers.add_header" : Str), (fArgs (st2 16 16)), (.stmts (fBody (st2 16 16))), (fScope (st2 16 16)), 3, [], .none, .none, .none, (.str ("cpy313.wsgiref.headers" : Str) 421), none, (.ref 244), .none, 0⟩), #[]⟩),
  (246, ⟨(.type "tuple"), none, (.seq #[(.str ("_headers" : Str) 678)] 0), #[]⟩),
  (247, ⟨(.type "dict"), none, (.dict #[⟨(PySem.PyData.keyHash P ("__module__" : Str)), (.str ("__module__" : Str) 534), (.str ("cpy313.wsgiref.headers" : Str) 421)⟩, ⟨(PySem.PyData.keyHash P ("__firstlineno__" : Str)), (.str ("__firstlineno__" : Str) 538), (.int (55 : Int) 537)⟩, ⟨(PySem.PyData.keyHash P ("__init__" : Str)), (.str ("__init__" : Str) 548), (.ref 140)⟩, ⟨(PySem.PyData.keyHash P ("_convert_string_type" : Str)), (.str ("_convert_string_type" : Str) 558), (.ref 147)⟩, ⟨(PySem.PyData.keyHash P ("__len__" : Str)), (.str ("__len__" : Str) 565), (.ref 154)⟩, ⟨(PySem.PyData.keyHash P ("__setitem__" : Str)), (.str ("__setitem__" : Str) 574), (.ref 161)⟩, ⟨(PySem.PyData.keyHash P ("__delitem__" : Str)), (.str ("__delitem__" : Str) 580), (.ref 166)⟩, ⟨(PySem.PyData.keyHash P ("__getitem__" : Str)), (.str ("__getitem__" : Str) 588), (.ref 173)⟩, ⟨(PySem.PyData.keyHash P ("__contains__" : Str)), (.str ("__contains__" : Str) 596), (.ref 180)⟩, ⟨(PySem.PyData.keyHash P ("get_all" : Str)), (.str ("get_all" : Str) 604), (.ref 187)⟩, ⟨(PySem.PyData.keyHash P ("get" : Str)), (.str ("get" : Str) 615), (.ref 195)⟩, ⟨(PySem.PyData.keyHash P ("keys" : Str)), (.str ("keys" : Str) 621), (.ref 200)⟩, ⟨(PySem.PyData.keyHash P ("values" : Str)), (.str ("values" : Str) 627), (.ref 205)⟩, ⟨(PySem.PyData.keyHash P ("items" : Str)), (.str ("items" : Str) 634), (.ref 212)⟩, ⟨(PySem.PyData.keyHash P ("__repr__" : Str)), (.str ("__repr__" : Str) 641), (.ref 219)⟩, ⟨(PySem.PyData.keyHash P ("__str__" : Str)), (.str ("__str__" : Str) 647), (.ref 224)⟩, ⟨(PySem.PyData.keyHash P ("__bytes__" : Str)), (.str ("__bytes__" : Str) 654), (.ref 231)⟩, ⟨(PySem.PyData.keyHash P ("setdefault" : Str)), (.str ("setdefault" : Str) 664), (.ref 238)⟩, ⟨(PySem.PyData.keyHash P ("add_header" : Str)), (.str ("add_header" : Str) 677), (.ref 245)⟩, ⟨(PySem.PyData.keyHash P ("__static_attributes__" : Str)), (.str ("__static_attributes__" : Str) 679), (.ref 246)⟩, ⟨(PySem.PyData.keyHash P ("__dict__" : Str)), (.str ("__dict__" : Str) 681), (.ref 249)⟩, ⟨(PySem.PyData.keyHash P ("__weakref__" : Str)), (.str ("__weakref__" : Str) 683), (.ref 250)⟩, ⟨(PySem.PyData.keyHash P ("__doc__" : Str)), (.str ("__doc__" : Str) 684), .none⟩] 4), #[]⟩),
  (248, ⟨(.type "type"), none, (.cls ⟨("Headers" : Str), [(.type "object")], [(.ref 248), (.type "object")], 247, ("Headers" : Str), true, [], [], false, none, false⟩), #[none, none, (some (.str ("Headers" : Str) 527)), (some (.str ("Headers" : Str) 535)), (some (.builtin "object.__new__")), (some (.bool true))]⟩),
  (249, ⟨(.type "getset_descriptor"), none, (.fields #[(.str ("__dict__" : Str) 680), (.ref 248), (.builtin "function.__dict__"), (.builtin "function.__dict__#set")]), #[]⟩),
  (250, ⟨(.type "getset_descriptor"), none, (.fields #[(.str ("__weakref__" : Str) 682), (.ref 248), (.builtin "ExceptionGroup.__weakref__"), .none]), #[]⟩),
  (253, ⟨(.type "tuple"), none, (.seq #[] 0), #[]⟩),
  (256, ⟨(.type "code"), none, (.fields #[(.str ("_law_word" : Str) 689), (.str ("_law_word" : Str) 690), (.str ("/claim/cut.py" : Str) 691), (.int (142 : Int) 0), (.int (2 : Int) 0), (.int (0 : Int) 0), (.int (0 : Int) 0), (.int (3 : Int) 0), (.ref 253), (.bool true), (.int (276 : Int) 0), (.ref 254), .none, .none, .none, (.ref 255), (.int (692 : Int) 0), (.int (142 : Int) 0), (.str ("/claim/cut.py" : Str) 693)]), #[]⟩),
  (257, ⟨(.type "function"), none, (.func ⟨("_law_word" : Str), ("_law_word" : Str), (fArgs (st 18)), (.stmts (fBody (st 18))), (fScope (st 18)), 3, [], .none, .none, .none, (.str ("law_yh0021_01" : Str) 687), none, (.ref 256), .none, 0⟩), #[]⟩),
  (258, ⟨(.type "tuple"), none, (.seq #[] 0), #[]⟩),
  (260, ⟨(.type "tuple"), none, (.seq #[(.str ("place" : Str) 698), (.str ("figure" : Str) 699), (.str ("mark" : Str) 700)] 0), #[]⟩),
  (261, ⟨(.type "tuple"), none, (.seq #[] 0), #[]⟩),
  (263, ⟨(.type "code"), none, (.fields #[(.str ("_law_reply" : Str) 695), (.str ("_law_reply" : Str) 696), (.str ("/claim/cut.py" : Str) 697), (.int (145 : Int) 0), (.int (2 : Int) 0), (.int (0 : Int) 0), (.int (0 : Int) 0), (.int (3 : Int) 0), (.ref 258), (.bool true), (.int (276 : Int) 0), (.ref 259), .none, (.ref 260), (.ref 261), (.ref 262), (.int (701 : Int) 0), (.int (145 : Int) 0), (.str ("/claim/cut.py" : Str) 702)]), #[]⟩),
  (264, ⟨(.type "function"), none, (.func ⟨("_law_reply" : Str), ("_law_reply" : Str), (fArgs (st 19)), (.stmts (fBody (st 19))), (fScope (st 19)), 3, [], .none, .none, .none, (.str ("law_yh0021_01" : Str) 687), none, (.ref 263), .none, 0⟩), #[]⟩),
  (265, ⟨(.type "tuple"), none, (.seq #[] 0), #[]⟩),
  (267, ⟨(.type "tuple"), none, (.seq #[(.str ("figure" : Str) 707), (.str ("pieces" : Str) 708)] 0), #[]⟩),
  (268, ⟨(.type "tuple"), none, (.seq #[] 0), #[]⟩),
  (270, ⟨(.type "code"), none, (.fields #[(.str ("_law_text" : Str) 704), (.str ("_law_text" : Str) 705), (.str ("/claim/cut.py" : Str) 706), (.int (148 : Int) 0), (.int (1 : Int) 0), (.int (0 : Int) 0), (.int (0 : Int) 0), (.int (3 : Int) 0), (.ref 265), (.bool true), (.int (276 : Int) 0), (.ref 266), .none, (.ref 267), (.ref 268), (.ref 269), (.int (709 : Int) 0), (.int (148 : Int) 0), (.str ("/claim/cut.py" : Str) 710)]), #[]⟩),
  (271, ⟨(.type "function"), none, (.func ⟨("_law_text" : Str), ("_law_text" : Str), (fArgs (st 20)), (.stmts (fBody (st 20))), (fScope (st 20)), 3, [], .none, .none, .none, (.str ("law_yh0021_01" : Str) 687), none, (.ref 270), .none, 0⟩), #[]⟩),
  (272, ⟨(.type "tuple"), none, (.seq #[] 0), #[]⟩),
  (275, ⟨(.type "code"), none, (.fields #[(.str ("_law_sent" : Str) 712), (.str ("_law_sent" : Str) 713), (.str ("/claim/cut.py" : Str) 714), (.int (151 : Int) 0), (.int (3 : Int) 0), (.int (0 : Int) 0), (.int (0 : Int) 0), (.int (3 : Int) 0), (.ref 272), (.bool true), (.int (276 : Int) 0), (.ref 273), .none, .none, .none, (.ref 274), (.int (715 : Int) 0), (.int (151 : Int) 0), (.str ("/claim/cut.py" : Str) 716)]), #[]⟩),
  (276, ⟨(.type "function"), none, (.func ⟨("_law_sent" : Str), ("_law_sent" : Str), (fArgs (st 21)), (.stmts (fBody (st 21))), (fScope (st 21)), 3, [], .none, .none, .none, (.str ("law_yh0021_01" : Str) 687), none, (.ref 275), .none, 0⟩), #[]⟩),
  (277, ⟨(.type "tuple"), none, (.seq #[] 0), #[]⟩),
  (279, ⟨(.type "tuple"), none, (.seq #[(.str ("reply" : Str) 721), (.str ("peer" : Str) 722), (.str ("fault" : Str) 723)] 0), #[]⟩),
  (280, ⟨(.type "tuple"), none, (.seq #[] 0), #[]⟩),
  (282, ⟨(.type "code"), none, (.fields #[(.str ("_law_told" : Str) 718), (.str ("_law_told" : Str) 719), (.str ("/claim/cut.py" : Str) 720), (.int (155 : Int) 0), (.int (2 : Int) 0), (.int (0 : Int) 0), (.int (0 : Int) 0), (.int (3 : Int) 0), (.ref 277), (.bool true), (.int (276 : Int) 0), (.ref 278), .none, (.ref 279), (.ref 280), (.ref 281), (.int (724 : Int) 0), (.int (155 : Int) 0), (.str ("/claim/cut.py" : Str) 725)]), #[]⟩),
  (283, ⟨(.type "function"), none, (.func ⟨("_law_told" : Str), ("_law_told" : Str), (fArgs (st 22)), (.stmts (fBody (st 22))), (fScope (st 22)), 3, [], .none, .none, .none, (.str ("law_yh0021_01" : Str) 687), none, (.ref 282), .none, 0⟩), #[]⟩),
  (284, ⟨(.type "tuple"), none, (.seq #[] 0), #[]⟩),
  (287, ⟨(.type "code"), none, (.fields #[(.str ("_law_turned" : Str) 727), (.str ("_law_turned" : Str) 728), (.str ("/claim/cut.py" : Str) 729), (.int (162 : Int) 0), (.int (3 : Int) 0), (.int (0 : Int) 0), (.int (0 : Int) 0), (.int (3 : Int) 0), (.ref 284), (.bool true), (.int (276 : Int) 0), (.ref 285), .none, .none, .none, (.ref 286), (.int (730 : Int) 0), (.int (162 : Int) 0), (.str ("/claim/cut.py" : Str) 731)]), #[]⟩),
  (288, ⟨(.type "function"), none, (.func ⟨("_law_turned" : Str), ("_law_turned" : Str), (fArgs (st 23)), (.stmts (fBody (st 23))), (fScope (st 23)), 3, [], .none, .none, .none, (.str ("law_yh0021_01" : Str) 687), none, (.ref 287), .none, 0⟩), #[]⟩),
  (289, ⟨(.type "tuple"), none, (.seq #[] 0), #[]⟩),
  (292, ⟨(.type "code"), none, (.fields #[(.str ("_law_pairs" : Str) 733), (.str ("_law_pairs" : Str) 734), (.str ("/claim/cut.py" : Str) 735), (.int (196 : Int) 0), (.int (1 : Int) 0), (.int (0 : Int) 0), (.int (0 : Int) 0), (.int (3 : Int) 0), (.ref 289), (.bool true), (.int (276 : Int) 0), (.ref 290), .none, .none, .none, (.ref 291), (.int (736 : Int) 0), (.int (196 : Int) 0), (.str ("/claim/cut.py" : Str) 737)]), #[]⟩),
  (293, ⟨(.type "function"), none, (.func ⟨("_law_pairs" : Str), ("_law_pairs" : Str), (fArgs (st 24)), (.stmts (fBody (st 24))), (fScope (st 24)), 3, [], .none, .none, .none, (.str ("law_yh0021_01" : Str) 687), none, (.ref 292), .none, 0⟩), #[]⟩),
  (294, ⟨(.type "tuple"), none, (.seq #[] 0), #[]⟩),
  (297, ⟨(.type "code"), none, (.fields #[(.str ("law" : Str) 739), (.str ("law" : Str) 740), (.str ("/claim/cut.py" : Str) 741), (.int (200 : Int) 0), (.int (1 : Int) 0), (.int (0 : Int) 0), (.int (0 : Int) 0), (.int (3 : Int) 0), (.ref 294), (.bool true), (.int (276 : Int) 0), (.ref 295), .none, .none, .none, (.ref 296), (.int (742 : Int) 0), (.int (200 : Int) 0), (.str ("/claim/cut.py" : Str) 743)]), #[]⟩),
  (298, ⟨(.type "function"), none, (.func ⟨("law" : Str), ("law" : Str), (fArgs (st 25)), (.stmts (fBody (st 25))), (fScope (st 25)), 3, [], .none, .none, .none, (.str ("law_yh0021_01" : Str) 687), none, (.ref 297), .none, 0⟩), #[]⟩)]
noncomputable def asL : List Addr := [2, 3, 32, 34, 35, 37, 38, 42, 43, 44, 45, 47, 48, 50, 51, 52, 54, 55, 57, 58, 59, 66, 67, 68, 69, 72, 79, 80, 81, 84, 91, 92, 93, 96, 98, 99, 101, 102, 106, 107, 111, 112, 116, 117, 118, 119, 121, 122, 124, 125, 133, 134, 136, 137, 139, 140, 141, 143, 144, 146, 147, 148, 150, 151, 153, 154, 155, 157, 158, 160, 161, 162, 165, 166, 167, 169, 170, 172, 173, 174, 176, 177, 179, 180, 181, 183, 184, 186, 187, 188, 189, 191, 192, 194, 195, 196, 199, 200, 201, 204, 205, 206, 208, 209, 211, 212, 213, 215, 216, 218, 219, 220, 223, 224, 225, 227, 228, 230, 231, 232, 234, 235, 237, 238, 239, 241, 242, 244, 245, 246, 247, 248, 249, 250, 253, 256, 257, 258, 260, 261, 263, 264, 265, 267, 268, 270, 271, 272, 275, 276, 277, 279, 280, 282, 283, 284, 287, 288, 289, 292, 293, 294, 297, 298]
noncomputable def keepL : List Nat := [0, 1, 2, 5, 6, 7, 8, 9, 10, 11, 16, 17, 18, 19, 20, 21, 22, 23, 24, 25]
noncomputable def lz : List Str := ["_quoted", "_paren_depth", "tspecials", "_name_disallowed_re", "_value_disallowed_re", "_formatparam"]
noncomputable def XT (s : Shared) : Bool := xlAt (view PR keepL) [] s && recOk (RowW.records PySem.Challenge.rw_yh0021_01.row.toRowW) s
noncomputable def HK : Hook := kHook K0 asL fun _ => rfl
theorem left0 : LeftO PR (view PR keepL) lz XT HK.obs HK.val 4290 := by
  intro w
  unfold openEnds fencedOpening topFrom
  rw [PySem.W.Fast.te14364793385576792824, PySem.W.Fast.te14082659384304107361, PySem.W.Fast.te10274390034422433532, PySem.W.Fast.te1435165496053646825, PySem.W.Fast.te14289696077712309145, PySem.W.Fast.te4187177175401517315]
  kernel_rfl
end Mine
namespace Mine
open PySem PySem.W PySem.Calls PyProof.Rows PySem.Spec
noncomputable abbrev FK (w : World) : Frag := K0 w.params
noncomputable abbrev PP : Program := PySem.Challenge.rw_yh0021_01.row.prog
theorem g_quoted (w : World) : nsIn (FK w) mainGlobals "_quoted" = some (some (.ref 43)) := by kernel_rfl
theorem g_paren_depth (w : World) : nsIn (FK w) mainGlobals "_paren_depth" = some (some (.ref 51)) := by kernel_rfl
theorem g_Int2AP (w : World) : nsIn (FK w) mainGlobals "Int2AP" = some (some (.ref 58)) := by kernel_rfl
theorem g_error_reply (w : World) : nsIn (FK w) mainGlobals "error_reply" = some (some (.ref 81)) := by kernel_rfl
theorem g_error_proto (w : World) : nsIn (FK w) mainGlobals "error_proto" = some (some (.ref 93)) := by kernel_rfl
theorem g_parse229 (w : World) : nsIn (FK w) mainGlobals "parse229" = some (some (.ref 102)) := by kernel_rfl
theorem g_name_disallowed_re (w : World) : nsIn (FK w) mainGlobals "_name_disallowed_re" = some (some (.ref 112)) := by kernel_rfl
theorem g_value_disallowed_re (w : World) : nsIn (FK w) mainGlobals "_value_disallowed_re" = some (some (.ref 117)) := by kernel_rfl
theorem g_formatparam (w : World) : nsIn (FK w) mainGlobals "_formatparam" = some (some (.ref 125)) := by kernel_rfl
theorem g_Headers (w : World) : nsIn (FK w) mainGlobals "Headers" = some (some (.ref 248)) := by kernel_rfl
theorem g_law_word (w : World) : nsIn (FK w) mainGlobals "_law_word" = some (some (.ref 257)) := by kernel_rfl
theorem g_law_reply (w : World) : nsIn (FK w) mainGlobals "_law_reply" = some (some (.ref 264)) := by kernel_rfl
theorem g_law_text (w : World) : nsIn (FK w) mainGlobals "_law_text" = some (some (.ref 271)) := by kernel_rfl
theorem g_law_sent (w : World) : nsIn (FK w) mainGlobals "_law_sent" = some (some (.ref 276)) := by kernel_rfl
theorem g_law_told (w : World) : nsIn (FK w) mainGlobals "_law_told" = some (some (.ref 283)) := by kernel_rfl
theorem g_law_turned (w : World) : nsIn (FK w) mainGlobals "_law_turned" = some (some (.ref 288)) := by kernel_rfl
theorem g_law_pairs (w : World) : nsIn (FK w) mainGlobals "_law_pairs" = some (some (.ref 293)) := by kernel_rfl
theorem n_str (w : World) : nsIn (FK w) mainGlobals "str" = some none := by kernel_rfl
theorem b_str : bootBuiltins "str" = some (.type "str") := by kernel_rfl
theorem n_range (w : World) : nsIn (FK w) mainGlobals "range" = some none := by kernel_rfl
theorem b_range : bootBuiltins "range" = some (.type "range") := by kernel_rfl
theorem n_len (w : World) : nsIn (FK w) mainGlobals "len" = some none := by kernel_rfl
theorem b_len : bootBuiltins "len" = some (.builtin "len") := by kernel_rfl
theorem n_sorted (w : World) : nsIn (FK w) mainGlobals "sorted" = some none := by kernel_rfl
theorem b_sorted : bootBuiltins "sorted" = some (.builtin "sorted") := by kernel_rfl
theorem n_sum (w : World) : nsIn (FK w) mainGlobals "sum" = some none := by kernel_rfl
theorem b_sum : bootBuiltins "sum" = some (.builtin "sum") := by kernel_rfl
theorem n_bytes (w : World) : nsIn (FK w) mainGlobals "bytes" = some none := by kernel_rfl
theorem b_bytes : bootBuiltins "bytes" = some (.type "bytes") := by kernel_rfl
theorem n_divmod (w : World) : nsIn (FK w) mainGlobals "divmod" = some none := by kernel_rfl
theorem b_divmod : bootBuiltins "divmod" = some (.builtin "divmod") := by kernel_rfl
theorem n_abs (w : World) : nsIn (FK w) mainGlobals "abs" = some none := by kernel_rfl
theorem b_abs : bootBuiltins "abs" = some (.builtin "abs") := by kernel_rfl
theorem n_int (w : World) : nsIn (FK w) mainGlobals "int" = some none := by kernel_rfl
theorem b_int : bootBuiltins "int" = some (.type "int") := by kernel_rfl
theorem n_type (w : World) : nsIn (FK w) mainGlobals "type" = some none := by kernel_rfl
theorem b_type : bootBuiltins "type" = some (.type "type") := by kernel_rfl
theorem n_list (w : World) : nsIn (FK w) mainGlobals "list" = some none := by kernel_rfl
theorem b_list : bootBuiltins "list" = some (.type "list") := by kernel_rfl
theorem kp_51 {w : World} {M : Addr → Prop} {h : Heap} (S : Sc (FK w) M h) : Looks (model PP w) h (keeperOf (.ref 51)) .frame := keep_fn S (by with_unfolding_all rfl)
theorem kp_58 {w : World} {M : Addr → Prop} {h : Heap} (S : Sc (FK w) M h) : Looks (model PP w) h (keeperOf (.ref 58)) .frame := keep_fn S (by with_unfolding_all rfl)
theorem kp_102 {w : World} {M : Addr → Prop} {h : Heap} (S : Sc (FK w) M h) : Looks (model PP w) h (keeperOf (.ref 102)) .frame := keep_fn S (by with_unfolding_all rfl)
theorem kp_125 {w : World} {M : Addr → Prop} {h : Heap} (S : Sc (FK w) M h) : Looks (model PP w) h (keeperOf (.ref 125)) .frame := keep_fn S (by with_unfolding_all rfl)
theorem kp_147 {w : World} {M : Addr → Prop} {h : Heap} (S : Sc (FK w) M h) : Looks (model PP w) h (keeperOf (.ref 147)) .frame := keep_fn S (by with_unfolding_all rfl)
theorem kp_195 {w : World} {M : Addr → Prop} {h : Heap} (S : Sc (FK w) M h) : Looks (model PP w) h (keeperOf (.ref 195)) .frame := keep_fn S (by with_unfolding_all rfl)
theorem kp_200 {w : World} {M : Addr → Prop} {h : Heap} (S : Sc (FK w) M h) : Looks (model PP w) h (keeperOf (.ref 200)) .frame := keep_fn S (by with_unfolding_all rfl)
theorem kp_238 {w : World} {M : Addr → Prop} {h : Heap} (S : Sc (FK w) M h) : Looks (model PP w) h (keeperOf (.ref 238)) .frame := keep_fn S (by with_unfolding_all rfl)
theorem kp_245 {w : World} {M : Addr → Prop} {h : Heap} (S : Sc (FK w) M h) : Looks (model PP w) h (keeperOf (.ref 245)) .frame := keep_fn S (by with_unfolding_all rfl)
theorem kp_257 {w : World} {M : Addr → Prop} {h : Heap} (S : Sc (FK w) M h) : Looks (model PP w) h (keeperOf (.ref 257)) .frame := keep_fn S (by with_unfolding_all rfl)
theorem kp_264 {w : World} {M : Addr → Prop} {h : Heap} (S : Sc (FK w) M h) : Looks (model PP w) h (keeperOf (.ref 264)) .frame := keep_fn S (by with_unfolding_all rfl)
theorem kp_271 {w : World} {M : Addr → Prop} {h : Heap} (S : Sc (FK w) M h) : Looks (model PP w) h (keeperOf (.ref 271)) .frame := keep_fn S (by with_unfolding_all rfl)
theorem kp_276 {w : World} {M : Addr → Prop} {h : Heap} (S : Sc (FK w) M h) : Looks (model PP w) h (keeperOf (.ref 276)) .frame := keep_fn S (by with_unfolding_all rfl)
theorem kp_283 {w : World} {M : Addr → Prop} {h : Heap} (S : Sc (FK w) M h) : Looks (model PP w) h (keeperOf (.ref 283)) .frame := keep_fn S (by with_unfolding_all rfl)
theorem kp_288 {w : World} {M : Addr → Prop} {h : Heap} (S : Sc (FK w) M h) : Looks (model PP w) h (keeperOf (.ref 288)) .frame := keep_fn S (by with_unfolding_all rfl)
theorem kp_293 {w : World} {M : Addr → Prop} {h : Heap} (S : Sc (FK w) M h) : Looks (model PP w) h (keeperOf (.ref 293)) .frame := keep_fn S (by with_unfolding_all rfl)
end Mine
set_option linter.unusedVariables false
namespace Mine
open PySem PySem.W PySem.Calls PyProof.Rows PySem.Spec
theorem c_ga (w : World) : findIn (FK w) (.ref 248) "__getattribute__" = some (some (.builtin "object.__getattribute__")) := by kernel_rfl
theorem c_gattr (w : World) : findIn (FK w) (.ref 248) "__getattr__" = some none := by kernel_rfl
theorem c_hd (w : World) : findIn (FK w) (.ref 248) "_headers" = some none := by kernel_rfl
theorem c_dict (w : World) : hasDictIn (FK w) 248 = true := by kernel_rfl
theorem c_noseq (w : World) : noSeq (FK w) 248 = true := by kernel_rfl
theorem c_makes (w : World) : makesIn (FK w) 248 = true := by kernel_rfl
theorem c_sa (w : World) : findIn (FK w) (.ref 248) "__setattr__" = some (some (.builtin "object.__setattr__")) := by kernel_rfl
theorem c_over (w : World) : plainOver (FK w) 248 = true := by kernel_rfl
theorem c_taker (w : World) : takerIn (FK w) 248 "_headers" = some none := by kernel_rfl
theorem c_init (w : World) : findIn (FK w) (.ref 248) "__init__" = some (some (.ref 140)) := by kernel_rfl
theorem t_init (w : World) : typeIn (FK w) (.ref 140) = some (.type "function") := by kernel_rfl
theorem c_conv (w : World) : findIn (FK w) (.ref 248) "_convert_string_type" = some (some (.ref 147)) := by kernel_rfl
theorem t_conv (w : World) : typeIn (FK w) (.ref 147) = some (.type "function") := by kernel_rfl
theorem c_len (w : World) : findIn (FK w) (.ref 248) "__len__" = some (some (.ref 154)) := by kernel_rfl
theorem t_len (w : World) : typeIn (FK w) (.ref 154) = some (.type "function") := by kernel_rfl
theorem c_delitem (w : World) : findIn (FK w) (.ref 248) "__delitem__" = some (some (.ref 166)) := by kernel_rfl
theorem t_delitem (w : World) : typeIn (FK w) (.ref 166) = some (.type "function") := by kernel_rfl
theorem c_getitem (w : World) : findIn (FK w) (.ref 248) "__getitem__" = some (some (.ref 173)) := by kernel_rfl
theorem t_getitem (w : World) : typeIn (FK w) (.ref 173) = some (.type "function") := by kernel_rfl
theorem c_get (w : World) : findIn (FK w) (.ref 248) "get" = some (some (.ref 195)) := by kernel_rfl
theorem t_get (w : World) : typeIn (FK w) (.ref 195) = some (.type "function") := by kernel_rfl
theorem c_keys (w : World) : findIn (FK w) (.ref 248) "keys" = some (some (.ref 200)) := by kernel_rfl
theorem t_keys (w : World) : typeIn (FK w) (.ref 200) = some (.type "function") := by kernel_rfl
theorem c_str (w : World) : findIn (FK w) (.ref 248) "__str__" = some (some (.ref 224)) := by kernel_rfl
theorem t_str (w : World) : typeIn (FK w) (.ref 224) = some (.type "function") := by kernel_rfl
theorem c_bytes (w : World) : findIn (FK w) (.ref 248) "__bytes__" = some (some (.ref 231)) := by kernel_rfl
theorem t_bytes (w : World) : typeIn (FK w) (.ref 231) = some (.type "function") := by kernel_rfl
theorem c_setdefault (w : World) : findIn (FK w) (.ref 248) "setdefault" = some (some (.ref 238)) := by kernel_rfl
theorem t_setdefault (w : World) : typeIn (FK w) (.ref 238) = some (.type "function") := by kernel_rfl
theorem c_add_header (w : World) : findIn (FK w) (.ref 248) "add_header" = some (some (.ref 245)) := by kernel_rfl
theorem t_add_header (w : World) : typeIn (FK w) (.ref 245) = some (.type "function") := by kernel_rfl
section
variable {prog : Program} {w : World} {K : Frag} {M : Addr → Prop} {h : Heap} {k : Nat} {env : Env} {vm : List (Str × D)} {A : Around} {E : Value → Shared → Prop} {s : Shared}
theorem HdrAt.inst {x dd l : Addr} (I : HdrAt h x dd l) : ∃ hs tk n, InstAt h x (instObj 248 dd) 248 (some (dictOf [⟨hs, .str "_headers" tk, .ref l⟩] n)) := by
  obtain ⟨a, hs, tk, n, b⟩ := I
  exact ⟨hs, tk, n, a, rfl, rfl, b⟩
theorem get_hd {x dd l : Addr} {Q : Value → Shared → Prop} {e : Bool} (X : (FK w).In s.heap) (I : HdrAt s.heap x dd l) (hq : Q (.ref l) { s with toks := s.toks + 1 }) : wpAny (model prog w) A (getAttr (.ref x) "_headers" e) Q E s := by
  obtain ⟨hs, tk, n, I⟩ := I.inst
  exact get_value X I (c_ga w) (findObj_own (c_dict w) (c_hd w) rfl (by kernel_rfl!)) rfl hq
theorem PE.attrH {sx : Str} {p pos : Pos} {l : Addr} {es : List (Str × Str)} (S : Sc (FK w) M h) (F : Fm M env vm h) (e : vm.lookup sx = some (.hdr l es)) (hd : (sx == ("__debug__" : Str)) = false) :
    PE prog w M h k (eval (.Attribute (.Name sx p) "_headers" pos) env) (.lst (es.map hdD)) := by
  refine .of fun A s rm kp => Attribute_any_ ((PE.nameF F e hd).use rm kp fun v s1 k1 r => ?_)
  cases r using Rd.hdrE with
  | hdr n1 n2 n3 I hl hr => exact get_hd (S.keep (kp.trans k1.heap)).inn I ⟨k1.trans (Kp.tok _ _), .lst n3 hl hr⟩
theorem shadow {x dd l : Addr} {hs : Int} {tk : Tok} {n : Nat} {name : Str} (hn : (("_headers" : Str) == name) = false) : shadowIn (some (dictOf [⟨hs, .str "_headers" tk, .ref l⟩] n)) name = some false := by
  have h1 : (Value.str ("_headers" : Str) tk).isStr name = false := hn
  unfold shadowIn lookIn
  simp [List.find?, h1, DictEntry.refKey]
theorem OpM.inst {f : Addr} {l : Addr} {es : List (Str × Str)} {name : Str} {as : List D} {ks : List (Str × D)} {d : D} {j : Nat} (S : Sc (FK w) M h) (hf : findIn (FK w) (.ref 248) name = some (some (.ref f))) (ht : typeIn (FK w) (.ref f) = some (.type "function"))
    (hn : (("_headers" : Str) == name) = false) (kp : ∀ {M : Addr → Prop} {h : Heap}, Sc (FK w) M h → Looks (model prog w) h (keeperOf (.ref f)) .frame) (F : FnP prog w (FK w) f (.hdr l es :: as) ks d j) (hj : j ≤ k) : OpM prog w M h k name (.hdr l es) as ks d := by
  refine .of fun A s v pl rm kp' r => ?_
  cases r using Rd.hdrE with
  | @hdr x dd _ _ vs n1 n2 n3 I hl hr =>
    have S' := S.keep kp'
    obtain ⟨hs, tk, n, I'⟩ := I.inst
    refine ⟨.ref f, [.ref x], .frame, fun Q E hq => method_fn S'.inn I' (c_ga w) (c_gattr w) hf ht (shadow (x := x) (dd := dd) hn) (hq s.toks), kp S', fun s' vs' us k1 r1 r2 => ?_⟩
    exact (F.opN S hj).go A s' (.ref x :: vs') us rm (kp'.trans k1.heap) (.cons ((Rd.hdr n1 n2 n3 I hl hr).keep k1.heap) r1) r2
end
end Mine
set_option linter.unusedVariables false
namespace Mine
open PySem PySem.W PySem.Calls PyProof.Rows PySem.Spec
section
variable {prog : Program} {w : World} {K : Frag} {M : Addr → Prop} {h : Heap} {k : Nat} {env : Env} {vm : List (Str × D)}
theorem OpN.len_lst {ds : List D} (hz : ds.length ≤ 100000) : OpN prog w M h k (.builtin "len") [.lst ds] [] (.int ds.length) := .of fun A s vs us rm kp r1 r2 => by
  cases r2 using RdL.nilE
  cases r1 using RdL.consE with
  | cons r r' =>
    cases r' using RdL.nilE
    cases r using Rd.lstE with
    | @lst a us' _ n hl hr =>
      have e := hr.length
      refine call_len_list hl.isList (by simp; lia) ?_
      rw [show us'.toArray.size = ds.length by simpa using e]
      exact ⟨Kp.tok s _, .int _ _⟩
theorem Op2.add_lst {ds es : List D} (S : Sc K M h) (hz : ds.length + es.length ≤ 100000) : Op2 prog w M h k (binaryOp .Add) (.lst ds) (.lst es) (.lst (ds ++ es)) := .of fun A s u v rm kp r1 r2 => by
  cases r1 using Rd.lstE with
  | @lst a us _ n1 h1 q1 =>
    cases r2 using Rd.lstE with
    | @lst b vs _ n2 h2 q2 =>
      have l1 := q1.length
      have l2 := q2.length
      obtain ⟨c1, o1⟩ := h1
      obtain ⟨c2, o2⟩ := h2
      refine P.add_list o1 o2 ⟨Kp.hp _ _ (keep_push _ _), ?_⟩ (by rw [sizeLine_eq]; simp; lia)
      refine .lst (vs := us ++ vs) (S.keep kp).size ⟨0, ?_⟩ ((q1.append q2).keep (keep_push _ _))
      rw [Heap.get?_push_size _ rfl]
      simp
theorem OpN.str_hdr {l : Addr} {es : List (Str × Str)} {x : Str} {j : Nat} (S : Sc (FK w) M h) (F : FnP prog w (FK w) 224 [.hdr l es] [] (.str x) j) (hj : j + 1 ≤ k) : OpN prog w M h k (.type "str") [.hdr l es] [] (.str x) := .of fun A s vs us rm kp r1 r2 => by
  cases r2 using RdL.nilE
  cases r1 using RdL.consE with
  | cons r r' =>
    cases r' using RdL.nilE
    have r0 := r
    cases r using Rd.hdrE with
    | @hdr a dd _ _ us' n1 n2 n3 I hl hr =>
      have S' := S.keep kp
      obtain ⟨hs, tk, n, I'⟩ := I.inst
      have rm' : Room j A.in1.in1 := ⟨rm.handled, by have := rm.depth; show A.depth + _ + _ ≤ _; lia, by have := rm.units; show A.units + 1 + 1 + _ + _ ≤ _; lia⟩
      refine kso_call (by have := rm.units; have : cLine = 9900 := rfl; show A.units + 1 + 1 < _; lia) S'.inn I' (c_str w) (by show isFn (FK w) (.ref 224) = true; exact beq_iff_eq.mpr (t_str w)) ?_
      refine wpAny_mono ((F.opN S (Nat.le_refl _)).go A.in1.in1 s [.ref a] [] rm' kp (.cons r0 .nil) .nil) (fun v s' q => ?_) fun _ _ f => f.elim
      obtain ⟨k1, rv⟩ := q
      cases rv using Rd.strE0
      exact ⟨k1, .str _ _⟩
theorem Room.in1 {j k : Nat} {A : Around} (r : Room k A) (h : j + 1 ≤ k) : Room j A.in1 := ⟨r.handled, by have := r.depth; show A.depth + _ + _ ≤ _; lia, by have := r.units; show A.units + 1 + _ + _ ≤ _; lia⟩
theorem fn_in (w : World) : fnIn (FK w) 173 = true := by kernel_rfl
theorem getitem_hdr {value slice : Expr} {l : Addr} {es : List (Str × Str)} {n : Str} {d : D} {j : Nat} (S : Sc (FK w) M h) (F : FnP prog w (FK w) 173 [.hdr l es, .str n] [] d j) (hj : j + 1 ≤ k)
    (hsl : ∀ x i, subscripted slice true (.ref x) i = runValue (.builtin "lifetime.subscript" ⟨[.ref x, i], []⟩)) :
    Op2 prog w M h k (subscriptTail value slice) (.hdr l es) (.str n) d := .of fun A s u v rm kp r1 r2 => by
  have r0 := r1
  cases r1 using Rd.hdrE with
  | @hdr a dd _ _ us' n1 n2 n3 I hl hr =>
    have S' := S.keep kp
    obtain ⟨hss, tk, nn, I'⟩ := I.inst
    have hf := fn_in w
    unfold fnIn at hf
    split at hf
    · rename_i e
      unfold subscriptTail getitemInPython
      refine wpAny_bind (wpAny_bind (wpAny_bind (I'.type.here ((looks_findIn S'.inn (c_getitem w)).here ?_))))
      dsimp only
      refine wpAny_bind (wpAny_load (S'.inn _ _ e) (wpAny_pure ?_))
      dsimp only
      rw [hsl]
      refine wpAny_bind (wpAny_runValue (codeAny_builtin entry_sub ?_))
      unfold Builtin.«lifetime.subscript»
      refine wpAny_bind (special_fn S'.inn I' (c_getitem w) (t_getitem w) (wpAny_mono ((F.opN S (Nat.le_refl _)).go A.in1 s [.ref a, v] [] (rm.in1 hj) kp (.cons r0 (.cons r2 .nil)) .nil) (fun v s' z => ?_) fun _ _ z => z.elim))
      refine wpAny_pure ?_
      show wpAny (model prog w) A (letTemporaryGo value (.ref a) v >>= fun _ => pure v) _ _ s'
      exact wpAny_bind (wpAny_letTemporaryGo (wpAny_pure z))
    · cases hf
theorem OpN.len_hdr {l : Addr} {es : List (Str × Str)} {n : Nat} {j : Nat} (S : Sc (FK w) M h) (F : FnP prog w (FK w) 154 [.hdr l es] [] (.int n) j) (hj : j + 1 ≤ k) (hn : n ≤ 100000) : OpN prog w M h k (.builtin "len") [.hdr l es] [] (.int n) := .of fun A s vs us rm kp r1 r2 => by
  cases r2 using RdL.nilE
  cases r1 using RdL.consE with
  | cons r r' =>
    cases r' using RdL.nilE
    have r0 := r
    cases r using Rd.hdrE with
    | @hdr a dd _ _ us' n1 n2 n3 I hl hr =>
      have S' := S.keep kp
      obtain ⟨hs, tk, nn, I'⟩ := I.inst
      refine Calls.call_function_entry kind_len plain_len entry_len (args_len1 _) ?_
      unfold Builtin.«len»
      refine wpAny_bind (m := oneArg "len" _) (wpAny_pure ?_)
      refine wpAny_bind (m := callSpecial? (.ref a) (Str.ofString "__len__")) (special_fn S'.inn I' (c_len w) (t_len w) (wpAny_mono ((F.opN S (Nat.le_refl _)).go A.in1 s [.ref a] [] (rm.in1 hj) kp (.cons r0 .nil) .nil) (fun r s' hr => ?_) fun _ _ y => y.elim))
      obtain ⟨k1, rv⟩ := hr
      cases rv using Rd.intE with
      | int _ u =>
        refine wpAny_bind (wpAny_holding (wpAny_pure ?_))
        refine wpAny_bind (wpAny_letGo ?_)
        show wpAny _ _ (if (n : Int) < 0 then _ else _) _ _ _
        rw [if_neg (by lia)]
        show wpAny _ _ (if (n : Int) ≥ 2 ^ 63 then _ else _) _ _ _
        rw [if_neg (by lia)]
        exact wpAny_bind (wpAny_mkInt (wpAny_pure ⟨_, rfl, k1.trans (Kp.tok _ _), .int _ _⟩))
theorem OpN.bytes_hdr {l : Addr} {es : List (Str × Str)} {b : Array UInt8} {j : Nat} (S : Sc (FK w) M h) (F : FnP prog w (FK w) 231 [.hdr l es] [] (.bytes b) j) (hj : j + 2 ≤ k) : OpN prog w M h k (.type "bytes") [.hdr l es] [] (.bytes b) := .of fun A s vs us rm kp r1 r2 => by
  cases r2 using RdL.nilE
  cases r1 using RdL.consE with
  | cons r r' =>
    cases r' using RdL.nilE
    have r0 := r
    cases r using Rd.hdrE with
    | @hdr a dd _ _ us' n1 n2 n3 I hl hr =>
      have S' := S.keep kp
      obtain ⟨hs, tk, nn, I'⟩ := I.inst
      refine callType_codes (T := "bytes") (Bi := Builtin.«object.__init__») (Q₁ := fun r s₁ => ∃ u, r = .bytes b u ∧ Kp s s₁) PySem.F.bm_called (PySem.F.bm_typeCall _) PySem.F.entry_object_init ?_ ?_
      · refine codeAny_of_tree ?_
        show wpAny _ A.in1.in1 (do checkBuiltinCall "bytes.__new__" ⟨[.type "bytes", .ref a], []⟩; again (.builtin "bytes.__new__" ⟨[.type "bytes", .ref a], []⟩)) _ _ s
        refine wpAny_bind (wpAny_of_eq (PySem.F.bm_newCall _) (wpAny_pure ⟨plainId_quiet (by decide +kernel) _, codeAny_builtin PySem.F.bm_entry ?_⟩))
        rw [Around.under_plainId (by decide +kernel) _]
        unfold Builtin.«bytes.__new__»
        refine wpAny_bind (wpAny_of_eq (a := true) rfl ?_)
        refine bm_if_false rfl ?_
        refine wpAny_bind (wpAny_of_eq PySem.F.bm_sub ?_)
        refine bm_if_false rfl ?_
        refine wpAny_bind (wpAny_of_eq (PySem.F.bm_bind _) ?_)
        refine wpAny_bind (wpAny_of_eq (a := ()) rfl ?_)
        refine wpAny_bind (wpAny_of_eq (a := ()) rfl ?_)
        refine bm_if_false rfl ?_
        refine wpAny_bind (wpAny_bind (I'.type.here ((looks_findIn S'.inn (c_bytes w)).here ?_)))
        dsimp only
        refine wpAny_bind (wpAny_rule ?_)
        refine wpAny_bind (special_fn S'.inn I' (c_bytes w) (t_bytes w) (wpAny_mono ((F.opN S (Nat.le_refl _)).go A.in1.in1 s [.ref a] [] ((rm.in1 (j := j + 1) (by omega)).in1 (by exact Nat.le_refl _)) kp (.cons r0 .nil) .nil) (fun r s' hr => ?_) fun _ _ y => y.elim))
        obtain ⟨k1, rv⟩ := hr
        cases rv using Rd.bytesE with
        | bytes _ u =>
          dsimp only
          refine wpAny_bind (wpAny_of_eq Q.isi_bytes ?_)
          refine bm_if_false rfl ?_
          exact wpAny_bind (wpAny_bind (wpAny_pure (wpAny_pure (wpAny_pure ⟨u, rfl, k1⟩))))
      · rintro obj s₁ ⟨u, rfl, hq⟩
        exact ⟨typeIs_bytes _ _ _, PySem.F.args_object_init_2 _ _, object_init_meets PySem.F.bm_called.init.lookup PySem.F.bm_called.made (by decide) prog w A.in1 _ s₁ ⟨typeIs_bytes _ _ _, rfl, hq, .bytes _ _⟩⟩
end
end Mine
set_option linter.unusedVariables false
namespace Mine
open PySem PySem.W PySem.Calls PyProof.Rows PySem.Spec
section
variable {prog : Program} {w : World} {K : Frag} {W M : Addr → Prop} {h : Heap} {k : Nat} {env : Env} {vm : List (Str × D)} {A : Around} {E : Value → Shared → Prop} {s₀ s : Shared}
noncomputable def Turn (prog : Program) (w : World) (A : Around) (M : Addr → Prop) (Inv : Nat → Shared → Prop) (j : Nat) (rest : List Stmt) (env : Env) (Q : Flow → Shared → Prop) (E : Value → Shared → Prop) (s' : Shared) (f : Flow) (s3 : Shared) : Prop := match f with
  | .next => Inv (j + 1) s3 ∧ Ext M s'.heap s3.heap
  | .cont => Inv (j + 1) s3 ∧ Ext M s'.heap s3.heap
  | .brk => Go (model prog w) A (execs rest env) Q E s3
  | .ret v => Q (.ret v) s3
theorem run_for {target iter : Expr} {body rest : List Stmt} {pos : Pos} {src : D} {ds : List D} {Inv : Nat → Shared → Prop} {Q : Flow → Shared → Prop} (rm : Room k A) (S : Sc K M s.heap) (hi : PE prog w M s.heap k (eval iter env) src) (hit : OpIter prog w M s.heap k src ds)
    (h0 : ∀ s', Kp s s' → Inv 0 s')
    (hst : ∀ I j s' h' tk, s.heap.get? I = none → Inv j s' → (∀ b o, b ≠ I → s'.heap.get? b = some o → h'.get? b = some o) → (∃ o fs, s'.heap.get? I = some o ∧ o.data = .fields fs ∧ ¬ Solid o) → Inv j { s' with heap := h', toks := tk })
    (hb : ∀ j d s' v, ds[j]? = some d → Inv j s' → Rd M s'.heap v d → wpAny (model prog w) A (assign target env v) (fun _ s2 => Go (model prog w) A (execs body env) (Turn prog w A M Inv j rest env Q E s') NoE s2) NoE s')
    (fin : ∀ s', Inv ds.length s' → Go (model prog w) A (execs rest env) Q E s')
    (hs : ∀ x, foldedSetIterable iter env x = pure x := by intro _; rfl) :
    Go (model prog w) A (execs (.For target iter body [] pos :: rest) env) Q E s := by
  refine .of (wpAny_execs_cons (then_run (wpAny_For (hi.use rm (Keep.refl _) fun xv s₁ k1 r1 => ?_) hs)))
  refine wpAny_mono (hit.go A s₁ xv rm k1.heap r1) (fun it s₂ q => ?_) fun _ _ f => f.elim
  obtain ⟨k2, I, rfl, J⟩ := q
  have f1 : s₁.heap.get? I = none := J.fresh
  have f0 : s.heap.get? I = none := by
    cases q : s.heap.get? I with
    | none => rfl
    | some o => rw [k1.heap _ _ q] at f1; cases f1
  have nW : ¬ M I := S.dead f0
  obtain ⟨fp, P, St, T, Wk, st0, falive, foff, hP, hty, hT, hT2⟩ := J.ex
  refine codeAny_forLoop_any (fun n s' => ∃ j, n = ds.length - j ∧ j ≤ ds.length ∧ Inv j s' ∧ St j s'.heap ∧ (∀ j v, P j v → ∃ d, ds[j]? = some d ∧ Rd M s'.heap v d)) ?_ ds.length ⟨0, by lia, by exact Nat.le_add_left _ _, h0 _ (k1.trans k2), st0, hP⟩
  rintro n s' ⟨j, rfl, hj, iv, st, hPs⟩
  obtain ⟨oI, fs, hoI, hcI, hdI⟩ := hty j _ st
  have nsI := not_solid hcI hdI hT2
  by_cases hlt : j < ds.length
  · refine Wk.item j s' _ _ hlt st fun v h' tk hv st' he => ?_
    have he' : ∀ b o, b ≠ I → s'.heap.get? b = some o → h'.get? b = some o := fun b o hb => he b o (by simpa using hb)
    have iv' := hst I j s' h' tk f0 iv he' ⟨oI, fs, hoI, hdI, nsI⟩
    have hPs' : ∀ j v, P j v → ∃ d, ds[j]? = some d ∧ Rd M h' v d := fun j v z => by
      obtain ⟨d, hd, r⟩ := hPs j v z
      exact ⟨d, hd, Rd.iter he' (fun o' z => by rw [hoI] at z; cases z; exact nsI) r⟩
    obtain ⟨d, hd, rv⟩ := hPs' j v hv
    obtain ⟨oJ, fj, hoJ, hcJ, hdJ⟩ := hty (j + 1) _ st'
    refine let_owned (s := { s' with heap := h', toks := tk }) hoJ hcJ hdJ hT ?_
    have step : ∀ s4, Inv (j + 1) s4 ∧ Ext M h' s4.heap → ∃ m, m < ds.length - j ∧ ∃ j', m = ds.length - j' ∧ j' ≤ ds.length ∧ Inv j' s4 ∧ St j' s4.heap ∧ (∀ j v, P j v → ∃ d, ds[j]? = some d ∧ Rd M s4.heap v d) := by
      rintro s4 ⟨iv4, x4⟩
      refine ⟨ds.length - (j + 1), by exact ar16 (by assumption), j + 1, rfl, by assumption, iv4, ?_, fun j v z => ?_⟩
      · refine Wk.frame (j + 1) _ _ st' fun b hb o q => x4 b o (fun z => ?_) q
        by_cases hbI : b = I
        · exact nW (hbI ▸ z)
        · exact (foff b hb hbI).1 z
      · obtain ⟨d, a, r⟩ := hPs' j v z
        exact ⟨d, a, r.ext x4⟩
    refine wpAny_mono (hb j d { s' with heap := h', toks := tk } v hd iv' rv) (fun _ s2 h2 => ?_) fun _ _ f => f.elim
    refine wpAny_mono h2.run (fun f s3 h3 => ?_) fun _ _ f => f.elim
    cases f with
    | next => exact step s3 h3
    | cont => exact step s3 h3
    | brk => exact h3
    | ret v => exact h3
  · have hjn : j = ds.length := by lia
    subst hjn
    refine Wk.done s' _ _ st fun h' tk he => ?_
    have he' : ∀ b o, b ≠ I → s'.heap.get? b = some o → h'.get? b = some o := fun b o hb => he b o (by simpa using hb)
    exact wpAny_execs_nil (fin _ (hst I _ s' h' tk f0 iv he' ⟨oI, fs, hoI, hdI, nsI⟩))
theorem Run.iter {I : Addr} {h' : Heap} {tk : Nat} (R : Run K s₀ W M env vm s) (f₀ : s₀.heap.get? I = none) (nW : ¬ M I) (nK : K.lookup I = none) (nB : I ≠ builtinsNs) (nS : I ≠ cStatics) (he : ∀ b o, b ≠ I → s.heap.get? b = some o → h'.get? b = some o)
    (ho : ∃ o fs, s.heap.get? I = some o ∧ o.data = .fields fs ∧ ¬ Solid o) : Run K s₀ W M env vm { s with heap := h', toks := tk } := by
  obtain ⟨o, fs, ho, hd, hn⟩ := ho
  obtain ⟨⟨h1, t1, rfl⟩, a, b, c, d⟩ := R
  exact ⟨⟨h', tk, rfl⟩, fun x q n z => he x q (fun e => by rw [e, f₀] at z; cases z) (a x q n z), b.iter he nW nK nB nS, c.iter he ho hd hn, d⟩
end
end Mine
set_option linter.unusedVariables false
namespace Mine
open PySem PySem.W PySem.Calls PyProof.Rows PySem.Spec
noncomputable def atomD : D → Bool
  | .none | .bool _ | .int _ | .str _ | .bytes _ | .ref _ | .bi _ | .ty _ => true
  | _ => false
theorem Rd.atom {M N : Addr → Prop} {h h' : Heap} {v : Value} {d : D} (r : Rd M h v d) (a : atomD d = true) : Rd N h' v d := by
  cases r <;> first | (cases a; done) | constructor
structure Off (K : Frag) (a : Addr) : Prop where
  k : K.lookup a = none
  b : a ≠ builtinsNs
  s : a ≠ cStatics
section
variable {prog : Program} {w : World} {K : Frag} {W M : Addr → Prop} {h : Heap} {k : Nat} {env : Env} {vm : List (Str × D)} {A : Around} {E : Value → Shared → Prop} {s₀ s : Shared}
theorem ty_ne {a b : String} (h : a ≠ b) (e : Value.type a = Value.type b) : False := h (by injection e)
theorem RdL.hd_but {h' : Heap} {l : Addr} {lo : Obj} (hl : h.get? l = some lo) (hc : lo.cls = .type "list") (hs : Heap.SameBut l h h') : ∀ {vs : List Value} {es : List (Str × Str)}, RdL M h vs (es.map hdD) → RdL M h' vs (es.map hdD)
  | _, [], r => by cases r using RdL.nilE; exact .nil
  | _, p :: es, r => by
    rw [List.map_cons] at r ⊢
    cases r using RdL.consE with
    | cons q qq =>
      refine .cons ?_ (RdL.hd_but hl hc hs qq)
      cases q using Rd.tupE with
      | @tup a _ _ n ht hr =>
        refine .tup n (ht.at fun o e => ?_) ?_
        · skip
          rw [hs.2 a (fun z => ?_)]
          · exact e
          · subst z
            obtain ⟨c, ho⟩ := ht
            rw [hl] at ho
            obtain rfl := Option.some.inj ho
            exact ty_ne (by decide) hc
        · cases hr using RdL.consE with
          | cons z zz => cases zz using RdL.consE with
            | cons y yy => cases yy using RdL.nilE; cases z using Rd.strE; cases y using Rd.strE; exact .cons (.str _ _) (.cons (.str _ _) .nil)
theorem hdr_but {h' : Heap} {x l : Addr} {es es' : List (Str × Str)} {vs' : List Value} (H : Rd M h (.ref x) (.hdr l es)) (hs : Heap.SameBut l h h') (hl' : h'.PlainList l vs'.toArray) (hr' : RdL M h vs' (es'.map hdD)) : Rd M h' (.ref x) (.hdr l es') := by
  cases H with
  | @hdr _ dd _ _ vs n1 n2 n3 I hl hr =>
    obtain ⟨c, ho⟩ := hl
    obtain ⟨hx, hh, tk, n, hd⟩ := I
    have hxl : x ≠ l := fun z => by
      rw [z, ho] at hx
      exact nomatch congrArg Obj.cls (Option.some.inj hx)
    have hdl : dd ≠ l := fun z => by
      rw [z, ho] at hd
      exact ty_ne (by decide) (congrArg Obj.cls (Option.some.inj hd))
    exact .hdr n1 n2 n3 ⟨by rw [hs.2 x hxl]; exact hx, hh, tk, n, by rw [hs.2 dd hdl]; exact hd⟩ hl' (hr'.hd_but ho rfl hs)
theorem Fm.alt {y : Str} {x : Addr} {d : D} (F : Fm M env vm h) (e : vm.lookup y = some (.ref x)) (r : Rd M h (.ref x) d) : Fm M env ((y, d) :: vm) h where
  kind := F.kind
  inL := F.inL
  inC := F.inC
  loc := by
    obtain ⟨m, hn, hm⟩ := F.loc
    refine ⟨m, hn, fun z d' hk q => ?_⟩
    by_cases n : z = y
    · subst n
      obtain rfl := lookup_cons_self' q rfl
      obtain ⟨v, ev, rv⟩ := hm z _ hk e
      cases rv using Rd.refE0
      exact ⟨_, ev, r⟩
    · exact hm z d' hk (lookup_cons_ne q n)
  cel c a hc := by
    obtain ⟨ov, ho, hd⟩ := F.cel c a hc
    refine ⟨ov, ho, fun d' q => ?_⟩
    by_cases n : c = y
    · subst n
      obtain rfl := lookup_cons_self' q rfl
      obtain ⟨v, ev, rv⟩ := hd _ e
      cases rv using Rd.refE0
      exact ⟨_, ev, r⟩
    · exact hd d' (lookup_cons_ne q n)
  celK := F.celK
  apart := F.apart
  vis z d' q := by
    by_cases n : z = y
    · subst n; exact F.vis z _ e
    · exact F.vis z d' (lookup_cons_ne q n)
theorem Run.weak {W' : Addr → Prop} (R : Run K s₀ W M env vm s) (i : ∀ a, W a → W' a) : Run K s₀ W' M env vm s := ⟨R.same, R.keep.mono i, R.sc, R.fm, R.own⟩
theorem Fm.atoms {h' : Heap} {l : Addr} (F : Fm M env vm h) (ha : ∀ p ∈ vm, atomD p.2 = true) (hs : Heap.SameBut l h h') (hL : env.locals ≠ l) (hC : ∀ x c, env.cells.lookup x = some c → c ≠ l) : Fm M env vm h' where
  kind := F.kind
  inL := F.inL
  inC := F.inC
  loc := let ⟨m, hn, hm⟩ := F.loc; ⟨m, hn.sameBut hs hL, fun x d a b => let ⟨v, e, r⟩ := hm x d a b; ⟨v, e, r.atom (ha _ (mem_of_lookup b))⟩⟩
  cel x c e := let ⟨ov, hc, hd⟩ := F.cel x c e; ⟨ov, hc.sameBut hs (hC x c e), fun d q => let ⟨v, e, r⟩ := hd d q; ⟨v, e, r.atom (ha _ (mem_of_lookup q))⟩⟩
  celK := F.celK
  apart := F.apart
  vis := F.vis
theorem Run.mut {l : Addr} {vmA : List (Str × D)} {h' : Heap} {tk : Nat} (R : Run K s₀ W M env vm s) (hW : W l) (off : Off K l) (nM : ¬ M l) (sub : ∀ x d, vmA.lookup x = some d → vm.lookup x = some d) (ha : ∀ p ∈ vmA, atomD p.2 = true) (hs : Heap.SameBut l s.heap h') : Run K s₀ W M env vmA { s with heap := h', toks := tk } := by
  obtain ⟨⟨h1, t1, rfl⟩, a, b, c, d⟩ := R
  refine ⟨⟨h', tk, rfl⟩, fun x o n e => ?_, b.iter (fun x o hx e => by rw [hs.2 x hx]; exact e) nM off.k off.b off.s, (c.sub sub).atoms ha hs (fun z => nM (z ▸ c.inL)) (fun x y e z => nM (z ▸ c.inC x y e)), d⟩
  rw [hs.2 x (fun z => n (z ▸ hW))]
  exact a x o n e
theorem run_append {x l : Addr} {es : List (Str × Str)} {a b : Str} {e : Expr} {p1 p2 p3 p4 p5 : Pos} {vmA : List (Str × D)} {rest : List Stmt} {Q : Flow → Shared → Prop} {K : Frag} (hK : K = FK w) (R : Run K s₀ W M env vm s) (rm : Room k A) (hself : vm.lookup ("self" : Str) = some (.ref x)) (H : Rd M s.heap (.ref x) (.hdr l es)) (off : Off K l) (hW : W l)
    (sub : ∀ x d, vmA.lookup x = some d → vm.lookup x = some d) (ha : ∀ p ∈ vmA, atomD p.2 = true) (pe : PE prog w M s.heap k (eval e env) (.tup [.str a, .str b])) (hz : es.length ≤ 1000)
    (nx : ∀ s', Run K s₀ W M env vmA s' → Rd M s'.heap (.ref x) (.hdr l (es ++ [(a, b)])) → Go (model prog w) A (execs rest env) Q E s')
    (hi : interactive env = false) (hsw : swapsWith (.Call (.Attribute (.Attribute (.Name "self" p1) "_headers" p2) "append" p3) [e] [] p4) none p5.line env = pure false)
    (hst : starEach [e] env = [(false, eval e env)])
    (hbase : attributeBase (.Attribute (.Name "self" p1) "_headers" p2) "append" env (eval (.Attribute (.Name "self" p1) "_headers" p2) env) = eval (.Attribute (.Name "self" p1) "_headers" p2) env) (hline : (p3.endLine == p4.line) = true) :
    Go (model prog w) A (execs (.Expr (.Call (.Attribute (.Attribute (.Name "self" p1) "_headers" p2) "append" p3) [e] [] p4) p5 :: rest) env) Q E s := by
  subst hK
  refine .of (wpAny_execs_cons (wpAny_Expr ?_ hi hsw))
  have H0 := H
  cases H with
  | @hdr _ dd _ _ vs n1 n2 n3 I hl hr =>
    rw [arm_eval_Call, hbase]
    refine wpAny_bind (Attribute_any_ ((PE.nameF R.fm hself (by kernel_rfl!)).use rm (Keep.refl _) fun v s1 k1 r1 => ?_))
    cases r1 using Rd.refE0
    have R1 := R.pure k1
    obtain ⟨hx, hh, tk, n, hd⟩ := I
    refine get_hd R1.sc.inn ⟨k1.heap _ _ hx, hh, tk, n, k1.heap _ _ hd⟩ ?_
    refine wpAny_bind (wpAny_standAt ?_)
    unfold methodCall
    rw [show methodCallForm ([e].length + ([] : List Keyword).length) (backTo p4 (starEach [e] env)) (backToKw p4 (keywordEach [] env)) = true from by rw [hst]; rfl]
    refine wpAny_bind (wpAny_holding ?_)
    show wpAny _ _ (getMethod (.ref l) "append" (do return (← importBound (.Attribute (.Name "self" p1) "_headers" p2) env).getD true)) _ _ _
    have hl1 : s1.heap.PlainList l vs.toArray := hl.at fun o q => k1.heap _ o q
    refine getMethod_builtin (s := { s1 with toks := s1.toks + 1 }) hl1.isList.typeIs F.plainAttrs_list slot_list_append F.type_list_append (fun a e => by cases e; obtain ⟨c, ho⟩ := hl1; exact ⟨_, ho, rfl⟩) ?_
    unfold methodCallPos
    rw [hline]
    refine wpAny_bind (wpAny_pure ?_)
    have kk : Kp s { s1 with toks := s1.toks + 1 } := k1.trans (Kp.tok _ _)
    refine any_callWith (h := s.heap) (as := [.tup [.str a, .str b]]) (ks := []) rm kk.heap (by rw [hst]; rfl) (PLs.cons pe PLs.nil hst) PKw.nil keep_bi fun vs' us' s2 k2 q1 q2 => ?_
    cases q2 using RdL.nilE
    cases q1 using RdL.consE with
    | cons rt rr =>
      cases rr using RdL.nilE
      have k3 := kk.trans k2
      have hl2 : s2.heap.PlainList l vs.toArray := hl.at fun o q => k3.heap _ o q
      have H2 : Rd M s2.heap (.ref x) (.hdr l es) := H0.keep k3.heap
      have hlen := hr.length
      rw [List.length_map] at hlen
      refine wpAny_list_append_plain hl2 (fun h' hl' hs' => ?_) (by rw [List.size_toArray, sizeLine_eq]; lia)
      have R2 := R.pure k3
      have R3 := R2.mut (tk := s2.toks) hW off n3 sub ha hs'
      refine (nx _ R3 ?_).run
      rw [List.push_toArray] at hl'
      refine hdr_but H2 hs' hl' ?_
      rw [List.map_append]
      exact (hr.keep k3.heap).append (.cons rt .nil)
end
end Mine
set_option linter.unusedVariables false
namespace Mine
open PySem PySem.W PySem.Calls PyProof.Rows PySem.Spec
section
variable {prog : Program} {w : World} {K : Frag} {W M : Addr → Prop} {h : Heap} {k : Nat} {env : Env} {vm : List (Str × D)} {A : Around} {E : Value → Shared → Prop} {s₀ s : Shared}
structure FnM (prog : Program) (w : World) (K : Frag) (f : Addr) (as : List D) (ks : List (Str × D)) (d : D) (es es' : List (Str × Str)) (k : Nat) : Prop where
  mk ::
  go : ∀ (M : Addr → Prop) (A : Around) (s : Shared) (vs us : List Value) (x l : Addr), Room k A → Sc K M s.heap → Off K l → Rd M s.heap (.ref x) (.hdr l es) → RdL M s.heap vs as → RdL M s.heap us (ks.map (·.2)) →
    codeAny (model prog w) A (.call (.ref f) ⟨.ref x :: vs, (ks.map (·.1)).zip us⟩) (fun r s' => ∃ v, r = .ok (.ret v) ∧ (∃ h t, s' = { s with heap := h, toks := t }) ∧ Ext (· = l) s.heap s'.heap ∧ Rd M s'.heap v d ∧ Rd M s'.heap (.ref x) (.hdr l es')) s
theorem FnM.by {f : Addr} {fd : FuncData} {body : List Stmt} {oc : Value} {od : Option Addr} {osl : Array (Option Value)} {names : List Str} {as bds : List D} {ks : List (Str × D)} {d : D} {es es' : List (Str × Str)}
    (ho : K.lookup f = some ⟨oc, od, .func fd, osl⟩) (hbody : fd.body = .stmts body) (hcd : codeIn K fd.code fd.qualname = true) (O : FnOk fd names) (h2 : fd.globals = mainGlobals) (h3 : fd.builtins = builtinsNs)
    (hbind : ∀ (M : Addr → Prop) (s : Shared) (x : Addr) (vs us : List Value), Sc K M s.heap → RdL M s.heap vs as → RdL M s.heap us (ks.map (·.2)) → ∃ bvs, BindsTo s fd ⟨.ref x :: vs, (ks.map (·.1)).zip us⟩ (names.zip (.ref x :: bvs)) ∧ RdL M s.heap bvs bds) (hlen : names.length = bds.length + 1)
    (hat : atomD d = true)
    (nx : ∀ M env A s s₁ x l, EnvIs env fd.scope → Room k A → Off K l → s.heap.get? l ≠ none → Run K s (· = l) (Mof M env) env (names.zip (.ref x :: bds)) s₁ → Rd (Mof M env) s₁.heap (.ref x) (.hdr l es) →
      Go (model prog w) A (execs body env) (fun fl s' => (∃ vm', Run K s (· = l) (Mof M env) env vm' s') ∧ Rd (Mof M env) s'.heap (match fl with | .ret v => v | _ => .none) d ∧ Rd (Mof M env) s'.heap (.ref x) (.hdr l es')) NoE s₁) :
    FnM prog w K f as ks d es es' (k + 1) := by
  refine .mk ?_
  intro M A s vs us x l rm S off H r1 r2
  obtain ⟨bvs, hb, hr⟩ := hbind M s x vs us S r1 r2
  have hla : s.heap.get? l ≠ none := by
    cases H with
    | hdr n1 n2 n3 I hl hr => obtain ⟨c, ho⟩ := hl; rw [ho]; exact fun e => nomatch e
  refine fn_enter (k := k) (bds := .ref x :: bds) rm S ho hbody hcd O hb (.cons (.ref x) hr) (by simpa using hlen) fun L s₁ R hown => ?_
  have hsw : ∀ a, (s.heap.get? a).isSome = true → ¬ M a → ¬ Mof M (envAt fd L f) a := fun a ha hm hM => hM.elim hm fun o => by
    rw [hown a o] at ha; cases ha
  have H1 : Rd (Mof M (envAt fd L f)) s₁.heap (.ref x) (.hdr l es) := (H.swap hsw).keep fun b o e => R.keep b o (fun z => z) e
  refine wpAny_mono (nx M _ _ s s₁ x l (EnvIs.fn h2 h3) (rm.deeper _) off hla (R.weak fun a z => z.elim) H1).run (fun fl s' q => ?_) fun _ _ z => z
  obtain ⟨⟨vm', R'⟩, r, H'⟩ := q
  exact ⟨_, rfl, R'.same, R'.keep, r.atom hat, H'.swap fun a _ hm hM => hm (.inl hM)⟩
theorem EnvIs.inter {sc : Scope} (I : EnvIs env sc) (hk : sc.kind = .function) : interactive env = false := by
  have h : env.scope.kind = .function := by rw [I.scope]; exact hk
  unfold interactive
  simp [h]
end
end Mine
set_option linter.unusedVariables false
namespace Mine
open PySem PySem.W PySem.Calls PyProof.Rows PySem.Spec
section
variable {prog : Program} {w : World} {K : Frag} {M : Addr → Prop} {h : Heap} {k : Nat} {env : Env} {vm : List (Str × D)} {A A₀ : Around} {E : Value → Shared → Prop} {s s₀ s₁ s' : Shared}
structure RunX (K : Frag) (A₀ : Around) (s₀ : Shared) (M : Addr → Prop) (env : Env) (vm : List (Str × D)) (s : Shared) : Prop where
  run : Run K s₀ (· ∈ frL A₀) M env vm s
  up : ∀ b ∈ frL A₀, ∀ o, s₀.heap.get? b = some o → (∀ vs, o.data ≠ .fields vs) → ∃ sl, s.heap.get? b = some { o with slots := sl }
theorem RunX.xk (R : RunX K A₀ s₀ M env vm s) : XK A₀ s₀ s := ⟨R.run.same, fun b o n e => R.run.keep b o n e, R.up⟩
theorem RunX.of (R : Run K s₀ (fun _ => False) M env vm s) : RunX K A₀ s₀ M env vm s := ⟨R.weak fun _ z => z.elim, fun b _ o e _ => ⟨o.slots, R.keep b o (fun z => z) e⟩⟩
theorem RunX.to {vm' : List (Str × D)} {X : Addr → Prop} (R : RunX K A₀ s₀ M env vm s) (R' : Run K s₀ (· ∈ frL A₀) M env vm' s') (e : Ext X s.heap s'.heap) (hX : ∀ a, X a → s₀.heap.get? a = none) : RunX K A₀ s₀ M env vm' s' :=
  ⟨R', fun b hb o ho hd => by
    obtain ⟨sl, hs⟩ := R.up b hb o ho hd
    exact ⟨sl, e b _ (fun z => by rw [hX b z] at ho; cases ho) hs⟩⟩
theorem RunX.own {vm' : List (Str × D)} (R : RunX K A₀ s₀ M env vm s) (R' : Run K s₀ (· ∈ frL A₀) M env vm' s') (e : Ext (Own env) s.heap s'.heap) : RunX K A₀ s₀ M env vm' s' := R.to R' e fun a z => R.run.own a z
theorem RunX.pure (R : RunX K A₀ s₀ M env vm s) (k : Kp s s') : RunX K A₀ s₀ M env vm s' := R.to (R.run.pure k) (X := fun _ => False) k.heap.ext fun _ z => z.elim
theorem RunX.sub {vm' : List (Str × D)} (R : RunX K A₀ s₀ M env vm s) (i : ∀ x d, vm'.lookup x = some d → vm.lookup x = some d) : RunX K A₀ s₀ M env vm' s := ⟨R.run.sub i, R.up⟩
structure Fra (A₀ A : Around) (M : Addr → Prop) (env : Env) (s₀ : Shared) : Prop where
  st : A.frames = some (env :: A₀.frames.getD [])
  fr : env.frame = some env.locals
  kind : env.scope.kind = .function
  out : Frs A₀ M s₀.heap
theorem Fra.frL (F : Fra A₀ A M env s₀) : frL A = env.locals :: frL A₀ := by
  unfold Mine.frL
  rw [F.st]
  simp [F.fr]
theorem Fra.frs (F : Fra A₀ A M env s₀) (i : ∀ a, M a → Mof M env a) (R : RunX K A₀ s₀ (Mof M env) env vm s) : Frs A (Mof M env) s.heap := by
  refine ⟨by rw [F.st]; rfl, fun x hx => ?_⟩
  rw [F.st] at hx
  rcases List.mem_cons.mp hx with rfl | hx
  · obtain ⟨m, hm, _⟩ := R.run.fm.loc
    exact ⟨by rw [F.kind]; decide, _, m, F.fr, .inr (.inl rfl), hm⟩
  · obtain ⟨a, L', m', b, c, d⟩ := F.out.all x hx
    exact ⟨a, L', m', b, .inl c, ns_slots d (R.up L' (List.mem_filterMap.mpr ⟨x, hx, b⟩))⟩
theorem RunX.slots {h' : Heap} {tk : Nat} (R : RunX K A₀ s₀ (Mof M env) env vm s) (F : Fra A₀ A M env s₀) (st : (grd A s.heap).StaysIn h') (up : s.heap.UpToSlots h') : RunX K A₀ s₀ (Mof M env) env vm { s with heap := h', toks := tk } := by
  have fr := F.frs (fun _ => .inl) R
  have keepN : ∀ b o, b ∉ Mine.frL A → s.heap.get? b = some o → h'.get? b = some o := fun b o n e => st b o (hideAll_get _ e n)
  have ext : Ext (Mof M env) s.heap h' := fun b o n e => keepN b o (fun hb => n (fr.mem hb).1) e
  have ns : ∀ b m, s.heap.Ns b m → h'.Ns b m := fun b m n => up.ns n
  obtain ⟨⟨hx, tx, rfl⟩, a, b, c, d⟩ := R.run
  refine ⟨⟨⟨h', tk, rfl⟩, fun x o n e => ?_, ?_, ?_, d⟩, fun x hx o ho hd => ?_⟩
  · refine keepN x o (fun z => ?_) (a x o n e)
    rw [F.frL] at z
    rcases List.mem_cons.mp z with rfl | z
    · rw [d _ (.inl rfl)] at e; cases e
    · exact n z
  · exact b.ext ext fun x m => by
      have := b.alive x m
      cases q : hx.get? x with
      | none => exact absurd this (by show ¬ (hx.get? x).isSome = true; rw [q]; decide)
      | some o =>
        by_cases z : x ∈ Mine.frL A
        · obtain ⟨m, hm⟩ := (fr.mem z).2
          obtain ⟨o', _, _, ho', _⟩ := ns x m hm
          rw [ho']; rfl
        · rw [keepN x o z q]; rfl
  · refine ⟨c.kind, c.inL, c.inC, ?_, fun x y e => ?_, c.celK, c.apart, c.vis⟩
    · obtain ⟨m, hn, hm⟩ := c.loc
      exact ⟨m, ns _ _ hn, fun x d a b => let ⟨v, e, r⟩ := hm x d a b; ⟨v, e, r.ext ext⟩⟩
    · obtain ⟨ov, ⟨o, ho, hdd⟩, hd⟩ := c.cel x y e
      refine ⟨ov, ⟨o, keepN y o (fun z => ?_) ho, hdd⟩, fun d q => let ⟨v, e, r⟩ := hd d q; ⟨v, e, r.ext ext⟩⟩
      obtain ⟨m, ⟨o', _, _, ho', hd', _⟩⟩ := (fr.mem z).2
      rw [ho] at ho'; cases ho'; rw [hdd] at hd'; cases hd'
  · obtain ⟨sl, hs⟩ := R.up x hx o ho hd
    obtain ⟨sl', hs'⟩ := up x _ hs hd
    exact ⟨sl', hs'⟩
structure FnX (prog : Program) (w : World) (K : Frag) (f : Addr) (as : List D) (d : D) (k : Nat) : Prop where
  mk ::
  go : ∀ (M : Addr → Prop) (A : Around) (s : Shared) (vs : List Value), Room k A → Sc K M s.heap → Frs A M s.heap → RdL M s.heap vs as →
    codeAny (model prog w) A (.call (.ref f) ⟨vs, []⟩) (fun r s' => ∃ v, r = .ok (.ret v) ∧ XK A s s' ∧ Rd M s'.heap v d) s
theorem FnX.by {f : Addr} {fd : FuncData} {body : List Stmt} {oc : Value} {od : Option Addr} {osl : Array (Option Value)} {names : List Str} {as bds : List D} {d : D}
    (ho : K.lookup f = some ⟨oc, od, .func fd, osl⟩) (hbody : fd.body = .stmts body) (hcd : codeIn K fd.code fd.qualname = true) (O : FnOk fd names) (h2 : fd.globals = mainGlobals) (h3 : fd.builtins = builtinsNs)
    (hbind : ∀ (M : Addr → Prop) (s : Shared) (vs : List Value), Sc K M s.heap → RdL M s.heap vs as → ∃ bvs, BindsTo s fd ⟨vs, []⟩ (names.zip bvs) ∧ RdL M s.heap bvs bds) (hlen : names.length = bds.length)
    (nx : ∀ M env A₀ A s s₁, EnvIs env fd.scope → Room k A → Fra A₀ A M env s → RunX K A₀ s (Mof M env) env (names.zip bds) s₁ →
      Go (model prog w) A (execs body env) (fun fl s' => ∃ vm', RunX K A₀ s (Mof M env) env vm' s' ∧ Rd (Mof M env) s'.heap (match fl with | .ret v => v | _ => .none) d) NoE s₁) :
    FnX prog w K f as d (k + 1) := by
  refine .mk ?_
  intro M A s vs rm S Fr r1
  obtain ⟨bvs, hb, hr⟩ := hbind M s vs S r1
  refine fn_enter_x (k := k) rm S ho hbody hcd O hb hr hlen fun L s₁ R hown => ?_
  refine wpAny_mono (nx M _ A _ s s₁ (EnvIs.fn h2 h3) (rm.deeper _) ⟨Around.frames_deeper Fr.eq, rfl, O.kind, Fr⟩ (.of R)).run (fun fl s' q => ?_) fun _ _ q => q.elim
  obtain ⟨vm', R', r⟩ := q
  exact ⟨_, rfl, R'.xk, r.swap fun a _ hm hM => hm (.inl hM)⟩
theorem eval_call1 {x y : Str} {q rp p : Pos} {f v : Value} {Q : Value → Shared → Prop} (hf : Looks (model prog w) s.heap (loadName env x) f) (hx : (x == ("__debug__" : Str)) = false) (hv : Looks (model prog w) s.heap (loadName env y) v) (hy : (y == ("__debug__" : Str)) = false)
    (hkeep : Looks (model prog w) s.heap (keeperOf f) .machine) (hc : wpAny (model prog w) A (call f [v]) Q E s) : wpAny (model prog w) A (eval (.Call (.Name x q) [.Name y rp] [] p) env) Q E s := by
  refine wpAny_Call_Name_kw (wpAny_Name (hf.here ?_) hx)
  unfold callWith
  refine wpAny_bind (wpAny_holding ?_)
  show wpAny _ _ (evalArgs f true (backTo p (starEach [.Name y rp] env)) []) _ _ _
  refine Calls.evalArgs_plain ?_
  show wpAny _ _ (spliced [(false, eval (.Name y rp) env)]) _ _ _
  unfold spliced
  refine wpAny_bind (wpAny_Name (hv.here ?_) hy)
  refine wpAny_bind (wpAny_pure ?_)
  refine wpAny_bind (wpAny_holding ?_)
  unfold spliced
  refine wpAny_pure (wpAny_pure ?_)
  refine wpAny_bind (wpAny_standAt ?_)
  refine wpAny_bind (hkeep.here ?_)
  show wpAny _ _ (call f [v] >>= fun r => holding [r] point >>= fun _ => pure r) _ _ _
  exact wpAny_bind (wpAny_mono hc (fun r s₂ hr => wpAny_bind (wpAny_holding (wpAny_point (wpAny_pure hr)))) fun _ _ x => x)
theorem eval_raises {x : Str} {q p : Pos} {es : List Expr} {f : Addr} {as : List D} {C : Addr} {y : Str} {Q : Value → Shared → Prop} (rm : Room k A) (S : Sc K M s.heap) (Fr : Frs A M s.heap) (hf : Looks (model prog w) s.heap (loadName env x) (.ref f)) (hx : (x == ("__debug__" : Str)) = false)
    (hkeep : Looks (model prog w) s.heap (keeperOf (.ref f)) .frame) (ha : PLs prog w M s.heap k env es as) (F : FnR prog w K f as C y k) (hst : (starEach es env).any (·.1) = false)
    (hE : ∀ s1 e t u h' tk, Kp s s1 → Heap.FlyingW (grd A s1.heap) (A.frames.getD []) e (.ref C) (.ref t) h' → h'.TupAt t [.str y u] → (grd A s1.heap).get? t = none → s1.heap.UpToSlots h' → E (.ref e) { s1 with heap := h', toks := tk }) :
    wpAny (model prog w) A (eval (.Call (.Name x q) es [] p) env) Q E s := by
  refine wpAny_Call_Name_kw (wpAny_Name (hf.here ?_) hx)
  refine any_callWith (h := s.heap) (M := M) rm (Keep.refl _) hst ha PKw.nil hkeep fun vs us s1 k1 r1 r2 => ?_
  cases r2 using RdL.nilE
  refine wpAny_call (codeAny_mono (F.go M A s1 vs rm (S.keep k1.heap) (Fr.keep k1.heap) r1) fun r s' q => ?_)
  obtain ⟨e, t, u, rfl, ⟨hh, tk, rfl⟩, a, b, c, d⟩ := q
  exact hE s1 e t u hh tk k1 a b c d
end
end Mine
set_option linter.unusedVariables false
namespace Mine
open PySem PySem.W PySem.Calls PyProof.Rows PySem.Spec
section
variable {prog : Program} {w : World} {K : Frag} {M : Addr → Prop} {h : Heap} {k : Nat} {env : Env} {vm : List (Str × D)}
structure PEt (prog : Program) (w : World) (M : Addr → Prop) (h : Heap) (k : Nat) (t : Sem Value) (d : D) : Prop where
  of ::
  go : ∀ A s, Room k A → Keep h s.heap → 1 ≤ s.toks → wpAny (model prog w) A t (fun v s' => Kp s s' ∧ Rd M s'.heap v d ∧ 1 ≤ s'.toks) NoE s
theorem PEt.name {x : Str} {p : Pos} {d : D} (F : Fm M env vm h) (e : vm.lookup x = some d) (hd : (x == ("__debug__" : Str)) = false) : PEt prog w M h k (eval (.Name x p) env) d := by
  refine .of ?_
  intro A s r kp ps
  obtain ⟨v, l, q⟩ := (F.vars (prog := prog) (w := w)) x d e
  exact wpAny_Name (l A _ _ s kp ⟨Kp.refl s, q.keep kp, ps⟩) hd
theorem two_lits {A : Around} {E : Value → Shared → Prop} {s : Shared} {y z : Str} {n n' : Nat} {q q' p : Pos} {Q : List Value → Shared → Prop}
    (hq : Q [.str y s.toks, .str z (s.toks + 1)] { s with toks := s.toks + 2 }) :
    wpAny (model prog w) A (spliced (backTo p (starEach [.Constant (.str y) n q, .Constant (.str z) n' q'] env))) Q E s := by
  show wpAny _ _ (spliced [(false, eval (.Constant (.str y) n q) env), (false, eval (.Constant (.str z) n' q') env)]) _ _ _
  unfold spliced
  refine wpAny_bind (m := mkText y) (wpAny_mkText ?_)
  refine wpAny_bind (wpAny_pure ?_)
  refine wpAny_bind (wpAny_holding ?_)
  unfold spliced
  refine wpAny_bind (m := mkText z) (wpAny_mkText ?_)
  refine wpAny_bind (wpAny_pure ?_)
  refine wpAny_bind (wpAny_holding ?_)
  unfold spliced
  exact wpAny_pure (wpAny_pure (wpAny_pure hq))
open PySem.Builtin.Str in
theorem call_replace {A : Around} {E : Value → Shared → Prop} {s : Shared} {x y z : Str} {t u v : Tok} {Q : Value → Shared → Prop} (hu : u ≠ 0) (hv : v ≠ 0) (huv : u ≠ v) (hyz : (y == z) = false) (hb : x.length + (x.length + 1) * z.length ≤ 16777216)
    (hq : ∀ t' k, s.toks ≤ k → Q (.str (Txt.replace x y z) t') { s with toks := k }) : wpAny (model prog w) A (call (.builtin "str.replace") [.str x t, .str y u, .str z v]) Q E s := by
  have e : (2 : Nat) ^ 24 = 16777216 := by decide
  have hl : tooLong (x.length + (occurrences x y 0 x.length (x.length + 1)).length * z.length) = false := by
    have h1 := StrLaws.occ_length_le x y 0 x.length (x.length + 1)
    have h2 : (occurrences x y 0 x.length (x.length + 1)).length * z.length ≤ (x.length + 1) * z.length := Nat.mul_le_mul_right _ h1
    unfold tooLong sizeLine
    exact decide_eq_false (by omega)
  refine call_gives F.slot_str_replace (typeIs_str _ _ _) F.entry_str_replace (F.args_str_replace_3 _ _ _)
    (gives_str_replace x y z t u v fun _ => ⟨by simp [hu, hv], by simp [huv], hyz, hl⟩) ?_
  have hq' := hq
  unfold Txt.replace at hq'
  cases hc : ((occurrences x y 0 x.length (x.length + 1)).isEmpty || (y.length == 0 && z.length == 0))
  · rw [hc] at hq'
    simp only [Bool.false_eq_true, if_false] at hq' ⊢
    exact ⟨fits_replaced y hb, hq' _ _ (Nat.le_succ _)⟩
  · rw [hc] at hq'
    simp only [if_true] at hq' ⊢
    exact hq' t s.toks (Nat.le_refl _)
theorem PEt.replace {o : Expr} {apos p : Pos} {x y z : Str} {n n' : Nat} {q q' : Pos}
    (ho : PEt prog w M h k (eval o env) (.str x)) (hyz : (y == z) = false) (hb : x.length + (x.length + 1) * z.length ≤ 16777216)
    (hbase : attributeBase o "replace" env (eval o env) = eval o env := by rfl)
    (hfew : methodCallForm (([.Constant (.str y) n q, .Constant (.str z) n' q'] : List Expr).length + ([] : List Keyword).length) (backTo p (starEach [.Constant (.str y) n q, .Constant (.str z) n' q'] env)) (backToKw p (keywordEach [] env)) = true := by rfl)
    (hline : (apos.endLine == p.line) = true := by rfl) : PEt prog w M h k (eval (.Call (.Attribute o "replace" apos) [.Constant (.str y) n q, .Constant (.str z) n' q'] [] p) env) (.str (Txt.replace x y z)) := by
  refine .of ?_
  intro A s rm kp ps
  rw [arm_eval_Call, hbase]
  refine wpAny_bind (wpAny_mono (ho.go A s rm kp ps) (fun ov s1 g => ?_) fun _ _ f => f.elim)
  obtain ⟨k1, r1, p1⟩ := g
  cases r1 using Rd.strE with | str _ t => ?_
  refine wpAny_bind (wpAny_standAt ?_)
  unfold methodCall
  rw [hfew]
  refine wpAny_bind (wpAny_holding ?_)
  show wpAny _ _ (getMethod (.str x t) "replace" (do return (← importBound o env).getD true)) _ _ _
  refine GM.replace ?_
  unfold methodCallPos
  rw [hline]
  refine wpAny_bind (wpAny_pure ?_)
  unfold callWith
  refine wpAny_bind (wpAny_holding ?_)
  unfold evalArgs
  dsimp only
  split
  · rename_i u e; cases e
  refine wpAny_bind (two_lits ?_)
  refine wpAny_bind (wpAny_pure (wpAny_holding ?_))
  refine wpAny_bind (m := evalAll []) (wpAny_pure (wpAny_bind (wpAny_pure (wpAny_pure ?_))))
  refine wpAny_bind (wpAny_standAt ?_)
  refine wpAny_bind (m := keeperOf (.builtin "str.replace")) (wpAny_pure ?_)
  have tail : ∀ {t' : Sem Value} {s₁ : Shared}, wpAny (model prog w) A t' (fun v s' => Kp s s' ∧ Rd M s'.heap v (D.str (Txt.replace x y z)) ∧ 1 ≤ s'.toks) NoE s₁ → wpAny (model prog w) A (t' >>= fun r => holding [r] point >>= fun _ => pure r) (fun v s' => Kp s s' ∧ Rd M s'.heap v (D.str (Txt.replace x y z)) ∧ 1 ≤ s'.toks) NoE s₁ :=
    fun ht => wpAny_bind (wpAny_mono ht (fun r s₂ hr => wpAny_bind (wpAny_holding (wpAny_point (wpAny_pure hr)))) fun _ _ x => x)
  refine tail ?_
  show wpAny _ _ (call (.builtin "str.replace") [.str x t, .str y s1.toks, .str z (s1.toks + 1)]) _ _ _
  exact call_replace (Nat.ne_of_gt p1) (Nat.succ_ne_zero _) (Nat.ne_of_lt (Nat.lt_succ_self _)) hyz hb fun t' kk le => ⟨k1.trans (Kp.tok s1 kk), .str _ _, by exact Nat.le_trans (Nat.le_trans p1 (Nat.le_add_right _ 2)) le⟩
structure PBt (prog : Program) (w : World) (h : Heap) (k n : Nat) (t : Sem Bool) (b : Bool) : Prop where
  of ::
  go : ∀ A s, Room k A → Keep h s.heap → n ≤ s.toks → wpAny (model prog w) A t (fun v s' => Kp s s' ∧ v = b ∧ 1 ≤ s'.toks) NoE s
theorem PBt.gt_lit {l : Expr} {p q : Pos} {n : Nat} {a b : Int} {c : Bool} {wh : Sem Value} (ha : PE prog w M h k (eval l env) (.int a)) (e : decide (a > b) = c) :
    PBt prog w h k 0 (isTrue (.Compare l [.Gt] [.Constant (.int b) n q] p) env wh) c := by
  subst e
  refine .of ?_
  intro A s rm kp ps
  refine wpAny_isTrue_Compare1 (ha.use rm kp fun u s1 k1 r1 => wpAny_mkInt ?_) (by rfl)
  cases r1 using Rd.intE0
  refine P.gt_int ?_
  exact wpAny_truthy_bool ⟨k1.trans (Kp.tok _ _), rfl, Nat.succ_pos _⟩
theorem PBt.and2 {x y : Expr} {p : Pos} {wh : Sem Value} {d : Bool} (hx : PB prog w h k (isTrue x env (eval x env)) true) (hy : PBt prog w h k 0 (isTrue y env (eval y env)) d) :
    PBt prog w h k 0 (isTrue (.BoolOp .And [x, y] p) env wh) d := by
  refine .of ?_
  intro A s rm kp ps
  refine isTrue_and (hx.use rm kp fun s1 k1 => ?_)
  refine isTrue_and (wpAny_mono (hy.go A s1 rm (kp.trans k1.heap) (Nat.zero_le _)) (fun b s2 z => ?_) fun _ _ f => f.elim)
  obtain ⟨k2, rfl, p2⟩ := z
  cases b with
  | false => exact ⟨k1.trans k2, rfl, p2⟩
  | true => exact isTrue_and_nil ⟨k1.trans k2, rfl, p2⟩
theorem PBt.or_one {x : Str} {y : Expr} {p q : Pos} {wh : Sem Value} (F : Fm M env vm h) (e : vm.lookup x = some (.int 1)) (hd : (x == ("__debug__" : Str)) = false) :
    PBt prog w h k 1 (isTrue (.BoolOp .Or [.Name x q, y] p) env wh) true := by
  refine .of ?_
  intro A s rm kp ps
  rw [arm_isTrue_BoolOp, arm_allTrue_cons]
  obtain ⟨v, l, r⟩ := (F.vars (prog := prog) (w := w)) x _ e
  cases r using Rd.intE with | int _ t => ?_
  refine wpAny_bind ?_
  refine isTrue_plain (wpAny_Name (l A _ _ s kp ?_) hd) rfl
  exact P.truthy_int (wpAny_pure ⟨Kp.refl s, rfl, ps⟩)
variable {s s₀ : Shared} {A : Around} {W : Addr → Prop} {E : Value → Shared → Prop}
theorem run_ift {pos : Pos} {t : Expr} {body orelse rest : List Stmt} {c : Bool} {n : Nat} {Q : Flow → Shared → Prop} (rm : Room k A) (pb : PBt prog w s.heap k n (isTrue t env (eval t env)) c) (ps : n ≤ s.toks)
    (h1 : c = true → ∀ s', Kp s s' → 1 ≤ s'.toks → Go (model prog w) A (execs body env) (Then (model prog w) A rest env Q E) E s')
    (h2 : c = false → ∀ s', Kp s s' → 1 ≤ s'.toks → Go (model prog w) A (execs orelse env) (Then (model prog w) A rest env Q E) E s') :
    Go (model prog w) A (execs (.If t body orelse pos :: rest) env) Q E s := by
  refine .of (wpAny_execs_cons (then_run (wpAny_If (wpAny_mono (pb.go A s rm (Keep.refl _) ps) (fun b s1 z => ?_) fun _ _ f => f.elim))))
  obtain ⟨k1, rfl, p1⟩ := z
  cases b with
  | true => exact (h1 rfl s1 k1 p1).run
  | false => exact (h2 rfl s1 k1 p1).run
theorem run_assignt {x : Str} {p pos : Pos} {e : Expr} {rest : List Stmt} {d : D} {Q : Flow → Shared → Prop} (R : Run K s₀ W M env vm s) (rm : Room k A) (pe : PEt prog w M s.heap k (eval e env) d) (ps : 1 ≤ s.toks) (hk : KindOk env x)
    (hs : swapsWith e (some (.Name x p)) pos.line env = pure false) (nx : ∀ s', Run K s₀ W M env ((x, d) :: vm) s' → Ext (Own env) s.heap s'.heap → Go (model prog w) A (execs rest env) Q E s') :
    Go (model prog w) A (execs (.Assign [.Name x p] e pos :: rest) env) Q E s := by
  refine .of (wpAny_execs_cons (wpAny_Assign_Name (wpAny_mono (pe.go A s rm (Keep.refl _) ps) (fun v s1 z => ?_) fun _ _ f => f.elim) hs))
  exact run_store (R.pure z.1) z.2.1 hk fun s' R' e' => (nx s' R' (z.1.heap.ext.trans e')).run
theorem OpN.len_str {x : Str} (hz : x.length ≤ 1000000) : OpN prog w M h k (.builtin "len") [.str x] [] (.int x.length) := .of fun A s vs us rm kp r1 r2 => by
  cases r2 using RdL.nilE
  cases r1 using RdL.consE with
  | cons r r' =>
    cases r' using RdL.nilE; cases r using Rd.strE0
    exact P.len_str (by lia) ⟨Kp.tok s _, .int _ _⟩
theorem PE.fmt_s {e : Expr} {pos : Pos} {x : Str} (he : PE prog w M h k (eval e env) (.str x)) (hz : x.length ≤ 1000000) : PE prog w M h k (eval (.FormattedValue e 115 none pos) env) (.str x) := by
  refine .of ?_
  intro A s rm kp
  refine wpAny_FormattedValue_s (he.use rm kp fun v s1 k1 r1 => ?_)
  cases r1 using Rd.strE0
  have hz' : x.length ≤ sizeLine := by rw [sizeLine_eq]; lia
  exact SB.convS_str (fun t' kk => SB.field_str (fun t2 k2 => ⟨k1.trans ((Kp.tok _ _).trans (Kp.tok _ _)), .str _ _⟩) hz') hz'
structure PJ (prog : Program) (w : World) (M : Addr → Prop) (h : Heap) (k : Nat) (env : Env) (es : List Expr) (out r : Str) : Prop where
  of ::
  go : ∀ A s, Room k A → Keep h s.heap → wpAny (model prog w) A (joinParts out (evalEach es env)) (fun v s' => Kp s s' ∧ Rd M s'.heap v (.str r)) NoE s
theorem PJ.nil {out : Str} (hz : out.length ≤ 1000000) : PJ prog w M h k env [] out out := .of fun A s _ _ => PyProof.Rows.joinParts_nil ⟨Kp.tok s _, .str _ _⟩ (by rw [sizeLine_eq]; lia)
theorem PJ.cons {e : Expr} {es : List Expr} {x out r : Str} (he : PE prog w M h k (eval e env) (.str x)) (hz : (out ++ x).length ≤ 1000000) (hr : PJ prog w M h k env es (out ++ x) r) : PJ prog w M h k env (e :: es) out r := by
  refine .of ?_
  intro A s rm kp
  show wpAny _ _ (joinParts out (eval e env :: evalEach es env)) _ _ _
  refine PyProof.Rows.joinParts_cons (he.use rm kp fun v s1 k1 r1 => ?_)
  cases r1 using Rd.strE0
  exact ⟨by rw [sizeLine_eq]; lia, wpAny_mono (hr.go A s1 rm (kp.trans k1.heap)) (fun _ _ z => ⟨k1.trans z.1, z.2⟩) fun _ _ f => f⟩
theorem PE.joined {e e' : Expr} {es : List Expr} {pos : Pos} {r : Str} (hj : PJ prog w M h k env (e :: e' :: es) Str.empty r) : PE prog w M h k (eval (.JoinedStr (e :: e' :: es) pos) env) (.str r) :=
  .of fun A s rm kp => PyProof.Rows.JoinedStr_many (hj.go A s rm kp)
end
end Mine
set_option linter.unusedVariables false
namespace Mine
open PySem PySem.W PySem.Calls PyProof.Rows PySem.Spec
section
variable {prog : Program} {w : World} {A : Around} {E : Value → Shared → Prop} {s : Shared}
theorem set_slice {l sl d : Addr} {vs us : List Value} {Q : Unit → Shared → Prop} (hl : s.heap.PlainList l vs.toArray) (hd : s.heap.PlainList d us.toArray) (hs : s.heap.IsSliceOf sl .none .none .none) (hz : vs.length ≤ 100000) (hz' : us.length ≤ 100000) (hld : l ≠ d)
    (hq : ∀ h', h'.PlainList l us.toArray → Heap.SameBut l s.heap h' → Q () { s with heap := h' }) : wpAny (model prog w) A (setItem (.ref l) (.ref sl) (.ref d)) Q E s := by
  obtain ⟨c1, ho⟩ := id hl
  obtain ⟨c2, hod⟩ := id hd
  obtain ⟨os, hos, hcs, hds⟩ := id hs
  have hTs : s.TypeIs (.ref sl) "slice" := ⟨os, hos, hcs⟩
  unfold setItem
  refine wpAny_holding ?_
  refine wpAny_bind (wpAny_sequenceKey hl.isList.typeIs (by decide) ?_)
  refine wpAny_bind (wpAny_callSpecial?_slot (name := Str.ofString "__setitem__") hl.isList.typeIs slot_list_setitem
    (wpAny_call_entry slot_list_setitem hl.isList.typeIs entry_list_setitem ?_ (args_list_setitem _ _ _)))
  show wpAny _ _ (Builtin.List.listSubscript? (.ref sl) >>= _) _ _ s
  refine wpAny_bind ?_
  unfold Builtin.List.listSubscript?
  refine wpAny_bind (wpAny_specialOf hTs slice_no_index ?_)
  simp only [Option.isNone_none, if_true]
  refine wpAny_pure ?_
  show wpAny _ _ (typeOf (.ref sl) >>= _) _ _ s
  refine wpAny_bind (wpAny_typeOf hTs ?_)
  rw [if_neg (by decide)]
  rw [listSliceParts_eq]
  have hstep : ¬ ((rawPart none == rawInt 0) = true) := Bool.false_ne_true
  refine wpAny_bind (wpAny_bind (wpAny_field hos hds (x := .none) rfl (wpAny_bind (wpAny_listPart .none ?_))))
  rw [if_neg hstep]
  refine wpAny_bind (wpAny_field hos hds (x := .none) rfl (wpAny_bind (wpAny_listPart .none ?_)))
  refine wpAny_bind (wpAny_field hos hds (x := .none) rfl (wpAny_bind (wpAny_listPart .none (wpAny_pure ?_))))
  dsimp only
  refine Mine.Q.skip_if (by show ¬ ((l == d) = true); simpa using hld) ?_
  refine wpAny_bind ?_
  unfold Builtin.List.listAllItems
  refine wpAny_bind (wpAny_typeOf hd.isList.typeIs ?_)
  refine Mine.Q.take_if (by decide) ?_
  unfold Builtin.List.listItems
  refine wpAny_bind (wpAny_seqItems hod rfl (wpAny_pure ?_))
  refine wpAny_bind (wpAny_bind (wpAny_seqItems ho rfl (wpAny_pure ?_)))
  refine wpAny_bind (wpAny_of_eq (sliceIndices_raw none none none vs.toArray.size (fun e => nomatch e)) ?_)
  have hb : sliceBounds none none none vs.toArray.size = (0, (vs.toArray.size : Int), 1) := by unfold sliceBounds; simp
  rw [hb]
  dsimp only
  refine Mine.Q.take_if (by decide) (wpAny_bind (wpAny_rule ?_))
  refine Mine.Q.skip_if (by unfold Builtin.List.listTooLong; rw [sizeLine_eq]; simp; lia) ?_
  have hmax : (max (0 : Int) (vs.toArray.size : Int)).toNat = vs.toArray.size := by rw [Int.max_eq_right (Int.natCast_nonneg _)]; simp
  have hf : ∀ xs : Array Value, xs.size = vs.toArray.size → xs.extract 0 (0 : Int).toNat ++ us.toArray ++ xs.extract (max (0 : Int) (vs.toArray.size : Int)).toNat xs.size = us.toArray := by
    intro xs hx
    rw [hmax, ← hx]
    apply Array.toList_inj.mp
    simp
  refine wpAny_bind ?_
  show wpAny _ _ (updateSeq l _) _ _ _
  refine wpAny_updateSeq ho rfl ?_ (by rw [List.size_toArray, sizeLine_eq]; lia) (by rw [hf vs.toArray rfl, List.size_toArray, sizeLine_eq]; lia)
  refine wpAny_bind (wpAny_letGo ?_)
  have hget : (s.heap.update l (Obj.mapSeq fun xs => xs.extract 0 (0 : Int).toNat ++ us.toArray ++ xs.extract (max (0 : Int) (vs.toArray.size : Int)).toNat xs.size)).get? l = some (Obj.mapSeq (fun xs => xs.extract 0 (0 : Int).toNat ++ us.toArray ++ xs.extract (max (0 : Int) (vs.toArray.size : Int)).toNat xs.size) { cls := .type "list", data := .seq vs.toArray c1 }) := Heap.get?_update_self _ ho rfl
  have hPl : (s.heap.update l (Obj.mapSeq fun xs => xs.extract 0 (0 : Int).toNat ++ us.toArray ++ xs.extract (max (0 : Int) (vs.toArray.size : Int)).toNat xs.size)).PlainList l us.toArray := by
    refine ⟨if (us.toArray.size == vs.toArray.size) = true then c1 else c1 + 1, hget.trans ?_⟩
    unfold Obj.mapSeq
    dsimp only
    rw [hf vs.toArray rfl]
  exact wpAny_pure ⟨.none, rfl, wpAny_pure (hq _ hPl (Heap.SameBut.update ..))⟩
variable {K : Frag} {W M : Addr → Prop} {h : Heap} {k : Nat} {env : Env} {vm : List (Str × D)} {s₀ : Shared}
structure PN (prog : Program) (w : World) (M : Addr → Prop) (h : Heap) (k : Nat) (t : Sem Value) (d : D) : Prop where
  of ::
  go : ∀ A s, Room k A → Keep h s.heap → wpAny (model prog w) A t (fun v s' => Kp s s' ∧ Rd M s'.heap v d ∧ ∃ a, v = .ref a ∧ h.get? a = none) NoE s
theorem PN.comp1 {elt tgt iter : Expr} {ifs : List Expr} {scope : Scope} {p : Pos} {src : D} {ds : List D} {vmF : List (Str × D)} {bs : D → List (Str × D)} {g : D → List D}
    (S : Sc K M h) (F : Fm M env vm h) (O : CompOk scope env) (hi : PE prog w M h k (eval iter env) src) (hit : OpIter prog w M h k src ds)
    (hvm : ∀ x d, vmF.lookup x = some d → vm.lookup x = some d ∧ scope.names.lookup x = some .free)
    (hasg : ∀ d ∈ ds, ∀ C, Asg prog w K k (cenvOf scope env C) (fun a => a = C) tgt d (bs d)) (hbs : ∀ d ∈ ds, ∀ x e, vmF.lookup x = some e → (bs d).lookup x = none)
    (hitem : ∀ d ∈ ds, ∀ W h' C, (∀ a, M a → W a) → Sc K W h' → Fm W (cenvOf scope env C) (bs d ++ vmF) h' →
      ∃ b, PT prog w h' k (cenvOf scope env C) ifs b ∧ (b = true → ∃ y, PE prog w W h' k (eval elt (cenvOf scope env C)) y ∧ g d = [y]) ∧ (b = false → g d = []))
    (hlen : (ds.flatMap g).length ≤ 100000)
    (hfold : ∀ x, foldedSetIterable iter env x = pure x := by intro _; rfl) :
    PN prog w M h k (eval (.ListComp elt [⟨tgt, iter, ifs, 0⟩] scope p) env) (.lst (ds.flatMap g)) := by
  refine .of fun A s rm kp => ?_
  rw [eval_ListComp]
  refine comp1_pipe S F O hi hit hvm hasg hbs hitem hlen hfold rm kp fun s₁ C D₀ s' k1 hDC fC fD C' => ?_
  obtain ⟨m, hn, _⟩ := C'.fm.loc
  refine ⟨m, hn, fun h' hs => ?_⟩
  have := comp_result (S.keep (kp.trans k1.heap)) hDC fC fD C' hs
  refine ⟨k1.trans this.1, this.2.1, D₀, rfl, ?_⟩
  cases q : h.get? D₀ with
  | none => rfl
  | some o => rw [k1.heap _ _ (kp _ _ q)] at fD; cases fD
theorem PN.comp1f {α : Type} (ι : α → D) (inj : ∀ a b, ι a = ι b → a = b) (xs : List α) (q : α → Bool) (f : α → D) {elt tgt iter c : Expr} {scope : Scope} {p : Pos} {src : D} {vmF : List (Str × D)} {bs : D → List (Str × D)}
    (S : Sc K M h) (F : Fm M env vm h) (O : CompOk scope env) (hi : PE prog w M h k (eval iter env) src) (hit : OpIter prog w M h k src (xs.map ι)) (hvm : HV vm scope vmF)
    (hasg : ∀ x ∈ xs, ∀ C, Asg prog w K k (cenvOf scope env C) (fun a => a = C) tgt (ι x) (bs (ι x))) (hbs : ∀ d ∈ xs.map ι, ∀ x e, vmF.lookup x = some e → (bs d).lookup x = none)
    (hitem : ∀ x ∈ xs, ∀ W h' C, (∀ a, M a → W a) → Sc K W h' → Fm W (cenvOf scope env C) (bs (ι x) ++ vmF) h' → PB prog w h' k (isTrue c (cenvOf scope env C) (eval c (cenvOf scope env C))) (q x) ∧ (q x = true → PE prog w W h' k (eval elt (cenvOf scope env C)) (f x)))
    (hlen : xs.length ≤ 100000)
    (hfold : ∀ x, foldedSetIterable iter env x = pure x := by intro _; rfl) :
    PN prog w M h k (eval (.ListComp elt [⟨tgt, iter, [c], 0⟩] scope p) env) (.lst ((xs.filter q).map f)) := by
  have e : ∀ l : List α, l.flatMap (fun x => if q x then [f x] else []) = (l.filter q).map f := by
    intro l
    induction l with
    | nil => rfl
    | cons a l ih =>
      rw [List.flatMap_cons, ih]
      cases hq : q a with
      | true => rw [List.filter_cons_of_pos hq]; rfl
      | false => rw [List.filter_cons_of_neg (by rw [hq]; exact Bool.false_ne_true)]; rfl
  obtain ⟨g', e'⟩ := back_of ι inj fun x => if q x then [f x] else []
  have e2 : (xs.map ι).flatMap g' = (xs.filter q).map f := (flatMap_back e' xs).trans (e xs)
  have hl : ((xs.filter q).map f).length ≤ 100000 := by rw [List.length_map]; exact Nat.le_trans (List.length_filter_le _ _) hlen
  have := PN.comp1 (ifs := [c]) (p := p) (bs := bs) (g := g') S F O hi hit hvm.go (fun d hd => by obtain ⟨x, hx, rfl⟩ := List.mem_map.mp hd; exact hasg x hx) hbs (fun d hd => by
    obtain ⟨x, hx, rfl⟩ := List.mem_map.mp hd
    intro W h' C a b d
    obtain ⟨h1, h2⟩ := hitem x hx W h' C a b d
    rw [e']
    exact ⟨q x, PT.one h1, fun z => ⟨_, h2 z, by rw [if_pos z]⟩, fun z => by rw [if_neg (by rw [z]; exact Bool.false_ne_true)]⟩) (by rw [e2]; exact hl) hfold
  rwa [e2] at this
theorem run_slice {x l : Addr} {es es' : List (Str × Str)} {e : Expr} {p1 p2 p3 p4 p5 : Pos} {vmA : List (Str × D)} {rest : List Stmt} {Q : Flow → Shared → Prop} {K : Frag} (hK : K = FK w) (R : Run K s₀ W M env vm s) (rm : Room k A) (hself : vm.lookup ("self" : Str) = some (.ref x)) (H : Rd M s.heap (.ref x) (.hdr l es)) (off : Off K l) (hW : W l)
    (sub : ∀ x d, vmA.lookup x = some d → vm.lookup x = some d) (ha : ∀ p ∈ vmA, atomD p.2 = true) (pe : PN prog w M s.heap k (eval e env) (.lst (es'.map hdD))) (hz : es.length ≤ 1000) (hz' : es'.length ≤ 1000)
    (nx : ∀ s', Run K s₀ W M env vmA s' → Rd M s'.heap (.ref x) (.hdr l es') → Go (model prog w) A (execs rest env) Q E s')
    (hs : swapsWith e (some (.Subscript (.Attribute (.Name "self" p1) "_headers" p2) (.Slice none none none p3) p4)) p5.line env = pure false) (hsw : swappedStores [.Subscript (.Attribute (.Name "self" p1) "_headers" p2) (.Slice none none none p3) p4] e env = pure none) :
    Go (model prog w) A (execs (.Assign [.Subscript (.Attribute (.Name "self" p1) "_headers" p2) (.Slice none none none p3) p4] e p5 :: rest) env) Q E s := by
  subst hK
  refine .of (wpAny_execs_cons ?_)
  show wpAny _ _ (do
    standAt p5
    if ← swapsWith e (some (.Subscript (.Attribute (.Name "self" p1) "_headers" p2) (.Slice none none none p3) p4)) p5.line env then do
      evalThenUse e env fun v => assignAll v ((assignEach [.Subscript (.Attribute (.Name "self" p1) "_headers" p2) (.Slice none none none p3) p4] env).map (·.2))
      pure .next
    else do
      let v ← eval e env
      assignStores env v (← swappedStores [.Subscript (.Attribute (.Name "self" p1) "_headers" p2) (.Slice none none none p3) p4] e env) ((assignEach [.Subscript (.Attribute (.Name "self" p1) "_headers" p2) (.Slice none none none p3) p4] env).map (·.2))) _ _ _
  refine wpAny_bind (wpAny_standAt (wpAny_bind (wpAny_of_eq hs ?_)))
  rw [if_neg Bool.false_ne_true]
  refine wpAny_bind (wpAny_mono (pe.go A s rm (Keep.refl _)) (fun v s1 q => ?_) fun _ _ f => f.elim)
  obtain ⟨k1, r1, d, rfl, fd⟩ := q
  refine wpAny_bind (wpAny_of_eq hsw ?_)
  unfold assignStores
  refine wpAny_bind ?_
  show wpAny _ _ (assign (.Subscript (.Attribute (.Name "self" p1) "_headers" p2) (.Slice none none none p3) p4) env (.ref d)) _ _ _
  rw [assign_Subscript]
  have R1 := R.pure k1
  have H1 := H.keep k1.heap
  have H0 := H1
  cases H1 using Rd.hdrE with
  | @hdr _ dd _ _ vs n1 n2 n3 I hl hr =>
    refine wpAny_bind (wpAny_holding (Attribute_any_ ((PE.nameF R1.fm hself (by kernel_rfl!)).use rm (Keep.refl _) fun v s2 k2 r2 => ?_)))
    cases r2 using Rd.refE0
    have R2 := R1.pure k2
    obtain ⟨hx, hh, tk, n, hd⟩ := I
    refine get_hd R2.sc.inn ⟨k2.heap _ _ hx, hh, tk, n, k2.heap _ _ hd⟩ ?_
    refine wpAny_bind (wpAny_holding ?_)
    show wpAny _ _ (do
      let l ← valueOrNone (evalOpt none env)
      let u ← holding [l] (valueOrNone (evalOpt none env))
      let s ← holding [l, u] (valueOrNone (evalOpt none env))
      newFields "slice" [l, u, s]) _ _ _
    refine wpAny_bind (wpAny_pure (wpAny_bind (wpAny_holding (wpAny_pure (wpAny_bind (wpAny_holding (wpAny_pure ?_)))))))
    show wpAny _ _ (newObj (.type "slice") (.fields _)) _ _ _
    refine wpAny_newObj_type ?_
    refine wpAny_bind (wpAny_standAt (wpAny_bind (wpAny_holding ?_)))
    have k3 : Kp s2 { s2 with heap := s2.heap.push { cls := .type "slice", data := .fields #[.none, .none, .none] }, toks := s2.toks + 1 } := Kp.both _ _ _ (keep_push _ _)
    have kk := k2.trans k3
    cases r1 using Rd.lstE with
    | @lst _ us _ nd hdl hdr =>
      have hll : s1.heap.PlainList l vs.toArray := hl
      have hld : l ≠ d := fun z => by
        cases H with
        | hdr m1 m2 m3 J jl jr =>
          obtain ⟨c, ho⟩ := jl
          rw [z, fd] at ho; cases ho
      have e1 := hr.length
      have e2 := hdr.length
      rw [List.length_map] at e1 e2
      refine set_slice (s := { s2 with heap := s2.heap.push { cls := .type "slice", data := .fields #[.none, .none, .none] }, toks := s2.toks + 1 }) (hll.at fun o q => kk.heap _ o q) (hdl.at fun o q => kk.heap _ o q) (Heap.IsSliceOf.new _ _ _ _) (by lia) (by lia) hld fun h' hl' hs' => ?_
      refine any_release (wpAny_pure ?_)
      have R3 := (R2.pure k3).mut (tk := s2.toks + 1) hW off n3 sub ha hs'
      refine (nx _ R3 ?_).run
      exact hdr_but (H0.keep kk.heap) hs' hl' (hdr.keep kk.heap)
end
end Mine
set_option linter.unusedVariables false
namespace Mine
open PySem PySem.W PySem.Calls PyProof.Rows PySem.Spec
section
variable {prog : Program} {w : World} {K : Frag} {W M : Addr → Prop} {h : Heap} {k : Nat} {env : Env} {vm : List (Str × D)} {A : Around} {E : Value → Shared → Prop} {s₀ s : Shared}
theorem PN.list {es : List Expr} {p : Pos} {ds : List D} (S : Sc K M h) (hl : PLs prog w M h k env es ds) (hz : ds.length ≤ 1000) : PN prog w M h k (eval (.List es p) env) (.lst ds) := by
  refine .of ?_
  intro A s rm kp
  refine List_ ((hl.go p).use rm kp fun vs s1 k1 r1 => ?_)
  have f : h.get? s1.heap.objs.size = none := by
    cases q : h.get? s1.heap.objs.size with
    | none => rfl
    | some o => exact absurd (Heap.lt_size (k1.heap _ _ (kp _ _ q))) (Nat.lt_irrefl _)
  refine wpAny_newList ⟨k1.trans (Kp.hp _ _ (keep_push _ _)), .lst ?_ ⟨_, Heap.get?_push_size _ rfl⟩ (r1.keep (keep_push _ _)), _, rfl, f⟩ ?_
  · exact (S.keep (kp.trans k1.heap)).size
  · have := r1.length; rw [sizeLine_eq]; lia
theorem PN.iteF {t b o : Expr} {p : Pos} {d : D} (ht : PB prog w h k (isTrue t env (eval t env)) false) (ho : PN prog w M h k (eval o env) d) : PN prog w M h k (eval (.IfExp t b o p) env) d := by
  refine .of ?_
  intro A s rm kp
  rw [arm_eval_IfExp]
  refine wpAny_bind (ht.use rm kp fun s1 k1 => ?_)
  exact wpAny_mono (ho.go A s1 rm (kp.trans k1.heap)) (fun v s' q => ⟨k1.trans q.1, q.2⟩) fun _ _ f => f
theorem run_assignN {x : Str} {p pos : Pos} {e : Expr} {rest : List Stmt} {d : D} {Q : Flow → Shared → Prop} (R : Run K s₀ W M env vm s) (rm : Room k A) (pe : PN prog w M s.heap k (eval e env) d) (hk : KindOk env x)
    (hs : swapsWith e (some (.Name x p)) pos.line env = pure false) (nx : ∀ s' l, Run K s₀ W M env ((x, .ref l) :: vm) s' → Ext (Own env) s.heap s'.heap → s.heap.get? l = none → Rd M s'.heap (.ref l) d → Go (model prog w) A (execs rest env) Q E s') :
    Go (model prog w) A (execs (.Assign [.Name x p] e pos :: rest) env) Q E s := by
  refine .of (wpAny_execs_cons (wpAny_Assign_Name (wpAny_mono (pe.go A s rm (Keep.refl _)) (fun v s1 q => ?_) fun _ _ f => f.elim) hs))
  obtain ⟨k1, r1, l, rfl, fl⟩ := q
  have R1 := R.pure k1
  refine R1.fm.store R1.sc (.ref l) hk.1 hk.2 fun h' tk F S e => ?_
  have eo : Ext (Own env) s1.heap h' := e.mono fun a => own_sto
  have R2 := R1.frame (tk := tk) F S eo fun a z => z
  refine (nx _ l R2 (k1.heap.ext.trans eo) fl (r1.ext (e.mono fun a q => ?_))).run
  exact R1.fm.sto q
theorem set_hd {x dd : Addr} {v : Value} {Q : Unit → Shared → Prop} (X : (FK w).In s.heap) (hx : s.heap.get? x = some (instObj 248 dd)) (D : s.heap.get? dd = some emptyDict)
    (hq : ∀ h' t, Heap.SameBut dd s.heap h' → (∃ hs tk n, h'.get? dd = some (dictOf [⟨hs, .str "_headers" tk, v⟩] n)) → Q () { s with heap := h', toks := t }) : wpAny (model prog w) A (setAttr (.ref x) "_headers" v) Q E s := by
  have I : InstAt s.heap x (instObj 248 dd) 248 (some emptyDict) := ⟨hx, rfl, rfl, D⟩
  refine set_plain X I (c_sa w) (osa_open (s := { s with toks := s.toks + 1 }) X I (c_over w) (c_taker w) fun b => ?_)
  obtain ⟨cd, hc, hd'⟩ := any_some (c_dict w)
  refine wpAny_bind (wpAny_pure (wpAny_bind (wpAny_bind (wpAny_loadPart hx (wpAny_bind (looks_clsIn X hc A.in1 _ _ _ (fun _ _ e => e) ?_))))))
  rw [hd']
  refine wpAny_pure (a := some dd) (wpAny_bind (wpAny_pure (wpAny_bind ?_)))
  unfold nsSet
  refine wpAny_bind (wpAny_bind (wpAny_askSetting (wpAny_pure (wpAny_bind (wpAny_mkText (wpAny_bind (wpAny_loadPart D ?_)))))))
  refine Mine.Q.skip_if (show ¬ (aRefKeyMayBeTheName ("_headers" : Str) #[] = true) from by decide +kernel) ?_
  refine wpAny_updatePart D ?_
  have hget := Heap.get?_update_self (h := s.heap) (a := dd) (Obj.putName (Str.ofString "_headers") (PyData.keyHash w.params (Str.ofString "_headers")) (.str (Str.ofString "_headers") (s.toks + 1)) v) D (by rfl)
  have e : Obj.putName (Str.ofString "_headers") (PyData.keyHash w.params (Str.ofString "_headers")) (.str (Str.ofString "_headers") (s.toks + 1)) v emptyDict = dictOf [⟨PyData.keyHash w.params (Str.ofString "_headers"), .str (Str.ofString "_headers") (s.toks + 1), v⟩] (putN (Str.ofString "_headers") [] 0) := by
    rw [show emptyDict = dictOf [] 0 from rfl, putName_dict]; rfl
  rw [e] at hget
  refine wpAny_bind (wpAny_lookBehind hget (pastItsLine_dict (by rw [List.size_toArray, sizeLine_eq]; simp)) ?_)
  exact wpAny_pure (hq _ _ (Heap.SameBut.update ..) ⟨_, _, _, hget⟩)
theorem enter_by {f : Addr} {fd : FuncData} {body : List Stmt} {oc : Value} {od : Option Addr} {osl : Array (Option Value)} {args : Args} {names : List Str} {bvs : List Value} {bds : List D} {R : Result → Shared → Prop}
    (rm : Room (k + 1) A) (S : Sc K M s.heap) (ho : K.lookup f = some ⟨oc, od, .func fd, osl⟩) (hbody : fd.body = .stmts body) (hcd : codeIn K fd.code fd.qualname = true) (O : FnOk fd names) (h2 : fd.globals = mainGlobals) (h3 : fd.builtins = builtinsNs)
    (hbind : BindsTo s fd args (names.zip bvs)) (hr : RdL M s.heap bvs bds) (hlen : names.length = bds.length)
    (nx : ∀ A' env s₁, EnvIs env fd.scope → Room k A' → Run K s (fun _ => False) (Mof M env) env (names.zip bds) s₁ → (∀ a, Own env a → s.heap.get? a = none) →
      Go (model prog w) A' (execs body env) (fun fl s' => R (.ok (.ret (match fl with | .ret v => v | _ => .none))) s') NoE s₁) :
    codeAny (model prog w) A (.call (.ref f) args) R s :=
  fn_enter rm S ho hbody hcd O hbind hr hlen fun L s₁ R' hown => (nx _ _ s₁ (EnvIs.fn h2 h3) (rm.deeper _) R' hown).run
theorem run_new_hd {x dd l : Addr} {px p0 pv pos : Pos} {vmA : List (Str × D)} {rest : List Stmt} {Q : Flow → Shared → Prop} {K : Frag} (hK : K = FK w) (R : Run K s₀ W M env vm s) (rm : Room k A) (hself : vm.lookup ("self" : Str) = some (.ref x)) (hh : vm.lookup ("headers" : Str) = some (.ref l))
    (hx : s.heap.get? x = some (instObj 248 dd)) (hd : s.heap.get? dd = some emptyDict) (off : Off K dd) (nd : ¬ M dd) (hW : W dd) (sub : ∀ x d, vmA.lookup x = some d → vm.lookup x = some d) (ha : ∀ p ∈ vmA, atomD p.2 = true)
    (hs : swapsWith (.Name "headers" pv) (some (.Attribute (.Name "self" px) "_headers" p0)) pos.line env = pure false)
    (nx : ∀ s', Run K s₀ W M env vmA s' → HdrAt s'.heap x dd l → Ext (· = dd) s.heap s'.heap → Go (model prog w) A (execs rest env) Q E s') :
    Go (model prog w) A (execs (.Assign [.Attribute (.Name "self" px) "_headers" p0] (.Name "headers" pv) pos :: rest) env) Q E s := by
  subst hK
  refine .of (wpAny_execs_cons ?_)
  rw [plainObj_exec_Assign_Attribute _ _ _ _ _ hs]
  refine wpAny_bind (wpAny_standAt (wpAny_bind ((PE.nameF R.fm hh (by kernel_rfl!)).use rm (Keep.refl _) fun v s1 k1 r1 => ?_)))
  cases r1 using Rd.refE0
  have R1 := R.pure k1
  rw [assign_Attribute]
  refine wpAny_bind (wpAny_bind (wpAny_holding ((PE.nameF R1.fm hself (by kernel_rfl!)).use rm (Keep.refl _) fun v s2 k2 r2 => ?_)))
  cases r2 using Rd.refE0
  have R2 := R1.pure k2
  refine wpAny_bind (wpAny_standAt (wpAny_bind (wpAny_holding ?_)))
  have kk := k1.trans k2
  refine set_hd R2.sc.inn (kk.heap _ _ hx) (kk.heap _ _ hd) fun h' t hsb hat => ?_
  refine any_release (wpAny_pure ?_)
  have R3 := R2.mut (tk := t) hW off nd sub ha hsb
  have hxd : x ≠ dd := fun z => by
    rw [z, hd] at hx
    exact nomatch congrArg Obj.cls (Option.some.inj hx)
  refine (nx _ R3 ⟨?_, hat⟩ fun b o nb e => ?_).run
  · show h'.get? x = _
    rw [hsb.2 x hxd]; exact kk.heap _ _ hx
  · show h'.get? b = _
    rw [hsb.2 b nb]; exact kk.heap _ _ e
end
end Mine
set_option linter.unusedVariables false
namespace Mine
open PySem PySem.W PySem.Calls PyProof.Rows PySem.Spec
section
variable {prog : Program} {w : World} {K : Frag} {W M : Addr → Prop} {h : Heap} {k : Nat} {env : Env} {vm : List (Str × D)} {A : Around} {E : Value → Shared → Prop} {s₀ s : Shared}
structure PO (prog : Program) (w : World) (h : Heap) (k : Nat) (env : Env) (e : Option Expr) (i : Option Int) : Prop where
  of ::
  go : ∀ A s, Room k A → Keep h s.heap → wpAny (model prog w) A (valueOrNone (evalOpt e env)) (fun v s' => Kp s s' ∧ IsPart v i) NoE s
theorem PO.none : PO prog w h k env none none := .of fun A s _ _ => wpAny_pure ⟨Kp.refl s, .none⟩
theorem PO.some {e : Expr} {i : Int} (p : PE prog w M h k (eval e env) (.int i)) : PO prog w h k env (some e) (some i) := .of fun A s rm kp =>
  p.use rm kp fun v s' k1 r => by cases r using Rd.intE0; exact ⟨k1, .int _ _⟩
structure OpS (prog : Program) (w : World) (M : Addr → Prop) (h : Heap) (k : Nat) (value slice : Expr) (a : D) (lo hi st : Option Int) (d : D) : Prop where
  of ::
  go : ∀ A s u sl l1 l2 l3, Room k A → Keep h s.heap → Rd M s.heap u a → s.heap.IsSliceOf sl l1 l2 l3 → IsPart l1 lo → IsPart l2 hi → IsPart l3 st → Gv prog w M A (subscriptTail value slice u (.ref sl)) d s
theorem PE.slice {value : Expr} {l u t : Option Expr} {p pos : Pos} {a d : D} {lo hi st : Option Int} (hv : PE prog w M h k (eval value env) a) (hl : PO prog w h k env l lo) (hu : PO prog w h k env u hi) (ht : PO prog w h k env t st) (ho : OpS prog w M h k value (.Slice l u t p) a lo hi st d) :
    PE prog w M h k (eval (.Subscript value (.Slice l u t p) pos) env) d := by
  refine .of fun A s rm kp => Subscript_ (hv.use rm kp fun v s1 k1 r1 => ?_)
  rw [arm_eval_Slice]
  refine wpAny_bind (wpAny_mono (hl.go A s1 rm (kp.trans k1.heap)) (fun v1 s2 q1 => ?_) fun _ _ f => f.elim)
  obtain ⟨k2, i1⟩ := q1
  refine wpAny_bind (wpAny_holding (wpAny_mono (hu.go A s2 rm ((kp.trans k1.heap).trans k2.heap)) (fun v2 s3 q2 => ?_) fun _ _ f => f.elim))
  obtain ⟨k3, i2⟩ := q2
  refine wpAny_bind (wpAny_holding (wpAny_mono (ht.go A s3 rm (((kp.trans k1.heap).trans k2.heap).trans k3.heap)) (fun v3 s4 q3 => ?_) fun _ _ f => f.elim))
  obtain ⟨k4, i3⟩ := q3
  show wpAny _ _ (newObj (.type "slice") (.fields _)) _ _ _
  refine wpAny_newObj_type ?_
  have k5 : Kp s4 { s4 with heap := s4.heap.push { cls := .type "slice", data := .fields #[v1, v2, v3] } } := Kp.hp _ _ (keep_push _ _)
  have kk := ((k2.trans k3).trans k4).trans k5
  exact Gv.step (k1.trans kk) (ho.go A { s4 with heap := s4.heap.push { cls := .type "slice", data := .fields #[v1, v2, v3] } } v s4.heap.objs.size v1 v2 v3 rm ((kp.trans k1.heap).trans kk.heap) (r1.keep kk.heap) (Heap.IsSliceOf.new _ _ _ _) i1 i2 i3)
theorem OpS.list {value slice : Expr} {ds : List D} {lo hi st : Option Int} (S : Sc K M h) (h0 : st ≠ some 0) (hz : ds.length ≤ 100000) (es : List D) (he : ∀ (vs : List Value), vs.length = ds.length → ∀ M h, RdL M h vs ds → RdL M h (slicePick vs.toArray lo hi st).toList es)
    (hs : ∀ a b, ∃ z, subscripted slice false (.ref a) (.ref b) = operate z (getItem (.ref a) (.ref b))) :
    OpS prog w M h k value slice (.lst ds) lo hi st (.lst es) := .of fun A s u sl l1 l2 l3 rm kp r hsl i1 i2 i3 => by
  cases r using Rd.lstE with
  | @lst a vs _ nm hl hr =>
    have e1 := hr.length
    unfold subscriptTail getitemInPython
    refine wpAny_bind (wpAny_bind (wpAny_specialOf hl.isList.typeIs slot_list_getitem.lookup (wpAny_pure ?_)))
    obtain ⟨z, hz'⟩ := hs a sl
    rw [hz']
    refine wpAny_bind (any_operate (wpAny_getItem_list_slice hl.isList hsl i1 i2 i3 h0 ?_ (by rw [List.size_toArray, sizeLine_eq]; lia)))
    refine wpAny_bind (wpAny_letTemporaryGo (wpAny_pure ⟨Kp.hp _ _ (keep_push _ _), ?_⟩))
    have := he vs e1 M s.heap hr
    exact .lst (vs := (slicePick vs.toArray lo hi st).toList) (S.keep kp).size ⟨0, by rw [Heap.get?_push_size _ rfl]⟩ (this.keep (keep_push _ _))
end
end Mine
set_option linter.unusedVariables false
namespace Mine
open PySem PySem.W PySem.Calls PyProof.Rows PySem.Spec
section
variable {prog : Program} {w : World} {K : Frag} {W M : Addr → Prop} {h : Heap} {k : Nat} {env : Env} {vm : List (Str × D)} {A : Around} {E : Value → Shared → Prop} {s₀ s : Shared}
theorem OpN.abs_int {a : Int} : OpN prog w M h k (.builtin "abs") [.int a] [] (.int (if a < 0 then -a else a)) := .of fun A s vs us rm kp r1 r2 => by
  cases r2 using RdL.nilE
  cases r1 using RdL.consE with
  | cons r r' =>
    cases r' using RdL.nilE; cases r using Rd.intE0
    exact call_abs_int fun u tk => ⟨Kp.tok s _, .int _ _⟩
theorem OpN.int_int {a : Int} : OpN prog w M h k (.type "int") [.int a] [] (.int a) := .of fun A s vs us rm kp r1 r2 => by
  cases r2 using RdL.nilE
  cases r1 using RdL.consE with
  | cons r r' =>
    cases r' using RdL.nilE; cases r using Rd.intE0
    exact call_int_int ⟨Kp.refl s, .int _ _⟩
theorem OpN.divmod16 {a : Int} (S : Sc K M h) : OpN prog w M h k (.builtin "divmod") [.int a, .int 16] [] (.tup [.int (a / 16), .int (a % 16)]) := .of fun A s vs us rm kp r1 r2 => by
  cases r2 using RdL.nilE
  cases r1 using RdL.consE with
  | cons r r' => cases r' using RdL.consE with
    | cons q q' =>
      cases q' using RdL.nilE; cases r using Rd.intE0; cases q using Rd.intE0
      refine divmod_int (by decide) ⟨Kp.both _ _ _ (keep_push _ _), ?_⟩
      refine .tup (vs := [_, _]) (S.keep kp).size ⟨0, by rw [Heap.get?_push_size _ rfl]⟩ ?_
      rw [Int.fdiv_eq_ediv_of_nonneg _ (by decide), Int.fmod_eq_emod_of_nonneg _ (by decide)]
      exact .cons (.int _ _) (.cons (.int _ _) .nil)
theorem Op2.add_bytes {b c : Array UInt8} (hz : b.size + c.size ≤ 16777216) : Op2 prog w M h k (binaryOp .Add) (.bytes b) (.bytes c) (.bytes (b ++ c)) := .of fun A s u v rm kp r1 r2 => by
  cases r1 using Rd.bytesE0; cases r2 using Rd.bytesE0
  exact KBy.add_bytes hz fun t' k' => ⟨Kp.tok s _, .bytes _ _⟩
theorem OpS.bytes {value slice : Expr} {b : Array UInt8} {lo hi : Option Int} (hz : b.size ≤ 16777216) (hs : ∀ t a, ∃ z, subscripted slice false (.bytes b t) (.ref a) = operate z (getItem (.bytes b t) (.ref a))) :
    OpS prog w M h k value slice (.bytes b) lo hi none (.bytes (KBy.picked b lo hi)) := .of fun A s u sl l1 l2 l3 rm kp r hsl i1 i2 i3 => by
  cases r using Rd.bytesE with
  | bytes _ t =>
    cases i3
    unfold subscriptTail getitemInPython
    refine wpAny_bind (wpAny_bind (wpAny_specialOf (typeIs_bytes _ _ _) FB.slot_bytes_getitem.lookup (wpAny_pure ?_)))
    obtain ⟨z, hz'⟩ := hs t sl
    rw [hz']
    refine wpAny_bind (any_operate ?_)
    refine getItem_meets (typeIs_bytes _ _ _) (by decide) FB.slot_bytes_getitem FB.entry_bytes_getitem (FB.args_bytes_getitem_2 _ _) (KBc.meets_slice2 b t _ i1 i2) ⟨hsl, ?_, fun t' k' => ?_⟩
    · exact Nat.le_trans (KBc.size_picked_le b lo hi) (by rw [sizeLine_eq]; exact hz)
    · exact wpAny_bind (wpAny_letTemporaryGo (wpAny_pure ⟨Kp.tok s _, .bytes _ _⟩))
theorem run_while {test : Expr} {body rest : List Stmt} {pos : Pos} {Inv : Nat → Shared → Prop} {c : Nat → Bool} {Q : Flow → Shared → Prop} (rm : Room k A) (n : Nat) (h0 : Inv n s)
    (ht : ∀ n s, Inv n s → PB prog w s.heap k (isTrue test env (eval test env)) (c n))
    (hk : ∀ n s s', Inv n s → Kp s s' → Inv n s')
    (hb : ∀ n s, Inv n s → c n = true → Go (model prog w) A (execs body env) (fun f s3 => match f with | .next => ∃ m, m < n ∧ Inv m s3 | .cont => ∃ m, m < n ∧ Inv m s3 | .brk => Go (model prog w) A (execs rest env) Q E s3 | .ret v => Q (.ret v) s3) NoE s)
    (fin : ∀ n s, Inv n s → c n = false → Go (model prog w) A (execs rest env) Q E s) :
    Go (model prog w) A (execs (.While test body [] pos :: rest) env) Q E s := by
  refine .of (wpAny_execs_cons (then_run (wpAny_While ?_)))
  refine codeAny_whileLoop Inv (fun n s' iv => ?_) n h0
  refine (ht n s' iv).use rm (Keep.refl _) fun s2 k2 => ?_
  have iv2 := hk n s' s2 iv k2
  cases hc : c n with
  | true =>
    rw [if_pos rfl]
    refine wpAny_mono (hb n s2 iv2 hc).run (fun f s3 q => ?_) fun _ _ f => f.elim
    cases f <;> exact q
  | false =>
    rw [if_neg Bool.false_ne_true]
    exact wpAny_execs_nil (fin n s2 iv2 hc)
end
end Mine
set_option linter.unusedVariables false
namespace Mine
open PySem PySem.W PySem.Calls PyProof.Rows PySem.Spec PySem.Builtin PySem.Builtin._codecs
namespace Q
section
variable {M' : Model} {A : Around} {E : Value → Shared → Prop} {s : Shared}
open _codecs in
theorem dec_road (id : String) (b : Array UInt8) (held : List Value) : decodeRoad id b (PySem.Str.ofString "ascii") none held = (do mkStr ⟨(← runDecoder id asciiDecoder none true b 0 held).1⟩) := by
  unfold decodeRoad
  have e : (normalName (PySem.Str.ofString "ascii")).toString = "ascii" := by decide +kernel
  rw [e]
  first | rfl | kernel_rfl!
open _codecs in
theorem run_ascii {id : String} {b : Array UInt8} {held : List Value} {Q : Array Nat × Nat → Shared → Prop} (hb : ∀ c ∈ b, c.toNat < 128) (hz : b.size ≤ 16777216) (hq : Q (b.map (·.toNat), b.size) s) : wpAny M' A (runDecoder id asciiDecoder none true b 0 held) Q E s := by
  unfold runDecoder
  dsimp only
  refine wpAny_bind (any_range (g := fun i => (i, (b.extract 0 i).map (·.toNat), ({ held } : Faults))) b.size (fun i hi Q hq => ?_) ?_ (by simp))
  · dsimp only
    refine skip_if (by rw [sizeLine_eq]; simp; lia) ?_
    refine skip_if (by lia) ?_
    have hlt : (b.getD i 0).toNat < 128 := by
      have : b.getD i 0 = b[i] := by simp [Array.getD, hi]
      rw [this]; exact hb _ (Array.getElem_mem hi)
    have hf : asciiDecoder.find true b i = Found.text [(b.getD i 0).toNat] (i + 1) := by
      show (if (b.getD i 0).toNat < 128 then Found.char (b.getD i 0).toNat (i + 1) else _) = _
      rw [if_pos hlt]; rfl
    rw [hf]
    refine wpAny_pure ?_
    have e : (b.extract 0 i).map (·.toNat) ++ ([(b.getD i 0).toNat] : List Nat).toArray = (b.extract 0 (i + 1)).map (·.toNat) := by
      apply Array.toList_inj.mp
      simp [Array.getD, hi, List.take_add_one]
    rw [e]; exact hq
  · dsimp only
    refine wpAny_pure ?_
    have e : (b.extract 0 b.size).map (·.toNat) = b.map (·.toNat) := by rw [Array.extract_size]
    rw [e]; exact hq
theorem entry_dectext : entryFor table "_codecs.decode.text" = some Builtin.«_codecs.decode.text» := entryFor_of_tree (by kernel_rfl)
theorem decode_meets {b : Array UInt8} {t u : Tok} (hb : ∀ c ∈ b, c.toNat < 128) (hz : b.size ≤ 16777216) (hn : b.size ≠ 0) : Meets («bytes.decode» ⟨[.bytes b t, .str (PySem.Str.ofString "ascii") u], []⟩) (fun _ R s => ∀ t' k, R (.ok (.ret (.str ⟨b.map (·.toNat)⟩ t'))) { s with toks := k }) := by
  refine .of_wp fun prog w A R s hR => ?_
  unfold «bytes.decode» Bytes.decodeM
  dsimp only
  refine wpAny_bind (wpAny_of_eq (a := [some (.str (PySem.Str.ofString "ascii") u), none]) (by kernel_rfl!) ?_)
  dsimp only
  refine wpAny_bind (wpAny_of_eq (a := ()) (by kernel_rfl!) (wpAny_bind (wpAny_of_eq (a := ()) (by rfl) ?_)))
  refine skip_if (by decide +kernel) ?_
  unfold Bytes.thenGiveBack
  dsimp only
  refine wpAny_bind (wpAny_of_eq (a := b) (by rfl) ?_)
  refine skip_if (by simpa using fun e => hn (by rw [e]; rfl)) ?_
  refine wpAny_bind (wpAny_mkStr ?_ (by rw [sizeLine_eq]; decide +kernel))
  refine wpAny_bind (wpAny_bind (wpAny_of_eq (a := some (PySem.Str.ofString "ascii")) (by rfl) (wpAny_mkStr ?_ (by rw [sizeLine_eq]; decide +kernel))))
  refine wpAny_bind (wpAny_pure (wpAny_bind (wpAny_mkStr ?_ (by rw [sizeLine_eq]; decide +kernel))))
  refine wpAny_bind (Calls.call_function_entry (by decide +kernel) (by decide +kernel) entry_dectext (by unfold argsOk; kernel_rfl!) ?_)
  unfold «_codecs.decode.text»
  dsimp only
  refine wpAny_bind (wpAny_pure ?_)
  have hbl : ∀ id, Bytes.bytesLike id (.bytes b t) = pure b := fun id => by unfold Bytes.bytesLike; rw [buf]; rfl
  have hdh : ∀ id, dataHeld id (.bytes b t) = pure [] := fun id => by unfold dataHeld; rw [hbl]; rfl
  refine wpAny_bind (wpAny_of_eq (hbl _) (wpAny_bind (wpAny_of_eq (hdh _) ?_)))
  rw [dec_road]
  refine wpAny_bind (wpAny_bind (run_ascii hb hz (wpAny_mkStr ?_ ?_)))
  · exact wpAny_pure ⟨_, rfl, wpAny_pure ⟨_, rfl, hR _ _⟩⟩
  · rw [sizeLine_eq]
    show (b.map (·.toNat)).size ≤ _
    rw [Array.size_map]; exact hz
end
end Q
open Q
section
variable {prog : Program} {w : World} {K : Frag} {M : Addr → Prop} {h : Heap} {k : Nat}
theorem OpM.decode {b : Array UInt8} (hb : ∀ c ∈ b, c.toNat < 128) (hz : b.size ≤ 16777216) (hn : b.size ≠ 0) : OpM prog w M h k "decode" (.bytes b) [.str (PySem.Str.ofString "ascii")] [] (.str ⟨b.map (·.toNat)⟩) := by
  refine OpM.builtin (T := "bytes") (fun s v kp r => by cases r using Rd.bytesE0; exact ⟨typeIs_bytes _ _ _, fun a e => nomatch e⟩) FB.plainAttrs_bytes B.slot_decode B.type_decode (.of fun A s vs us rm kp r1 r2 => ?_)
  cases r2 using RdL.nilE
  cases r1 using RdL.consE with
  | cons r r' => cases r' using RdL.consE with
    | cons q q' =>
      cases q' using RdL.nilE; cases r using Rd.bytesE0; cases q using Rd.strE0
      exact call_meets B.slot_decode (typeIs_bytes _ _ _) B.entry_decode (B.args_decode _ _) (decode_meets hb hz hn) fun t' k' => ⟨Kp.tok s _, .str _ _⟩
end
end Mine
set_option linter.unusedVariables false
namespace Mine
open PySem PySem.W PySem.Calls PyProof.Rows PySem.Spec
section
variable {prog : Program} {w : World} {K : Frag} {M : Addr → Prop} {h : Heap} {k : Nat} {env : Env} {vm : List (Str × D)}
theorem part_of {v : Value} {i : Option Int} (p : IsPart v i) : ∃ l : Option (Int × Tok), v = partValue l ∧ l.map (·.1) = i := by
  cases p with
  | none => exact ⟨none, rfl, rfl⟩
  | int i t => exact ⟨some (i, t), rfl, rfl⟩
theorem OpS.str {value slice : Expr} {x : Str} {lo hi : Option Int} (hz : x.length ≤ 16777216)
    (hs : ∀ t a, ∃ z, subscripted slice false (.str x t) (.ref a) = operate z (getItem (.str x t) (.ref a))) :
    OpS prog w M h k value slice (.str x) lo hi none (.str (Txt.slice x lo hi)) := .of fun A s u sl l1 l2 l3 rm kp r hsl i1 i2 i3 => by
  cases r using Rd.strE with
  | str _ t =>
    obtain ⟨p1, rfl, rfl⟩ := part_of i1
    obtain ⟨p2, rfl, rfl⟩ := part_of i2
    cases i3
    unfold subscriptTail getitemInPython
    refine wpAny_bind (wpAny_bind (wpAny_specialOf (typeIs_str _ _ _) F.slot_str_getitem.lookup (wpAny_pure ?_)))
    obtain ⟨z, hz'⟩ := hs t sl
    rw [hz']
    refine wpAny_bind (any_operate ?_)
    refine wpAny_getItem_str_slice (l := p1) (u := p2) (st := none) hsl rfl ?_
    exact post_val_or_str ⟨Nat.le_trans (Txt.slice_le x _ _) (by rw [sizeLine_eq]; exact hz), fun t' k => wpAny_bind (wpAny_letTemporaryGo (wpAny_pure ⟨Kp.tok s _, .str _ _⟩))⟩
theorem PO.lit {i : Int} {n : Nat} {p : Pos} : PO prog w h k env (Option.some (Expr.Constant (Const.int i) n p)) (Option.some i) := PO.some (M := fun _ => False) PE.lit_int
theorem OpM.find {x y : Str} : OpM prog w M h k "find" (.str x) [.str y] [] (.int (Txt.find x y)) := by
  refine OpM.builtin (T := "str") (fun s v _ r => by cases r using Rd.strE0; exact ⟨typeIs_str _ _ _, fun a e => nomatch e⟩) F.plainAttrs_str F.slot_str_find F.type_str_find ?_
  refine .of fun A s vs us rm kp r1 r2 => ?_
  cases r2 using RdL.nilE
  cases r1 using RdL.consE with
  | cons r r' => cases r' using RdL.consE with
    | cons q q' => cases q' using RdL.nilE; cases r using Rd.strE0; cases q using Rd.strE0; exact SC.find ⟨Kp.tok s _, .int _ _⟩
theorem OpM.find3 {x y : Str} {i : Int} : OpM prog w M h k "find" (.str x) [.str y, .int i] [] (.int (Txt.find3 x y i)) := by
  refine OpM.builtin (T := "str") (fun s v _ r => by cases r using Rd.strE0; exact ⟨typeIs_str _ _ _, fun a e => nomatch e⟩) F.plainAttrs_str F.slot_str_find F.type_str_find ?_
  refine .of fun A s vs us rm kp r1 r2 => ?_
  cases r2 using RdL.nilE
  cases r1 using RdL.consE with
  | cons r r' => cases r' using RdL.consE with
    | cons q q' => cases q' using RdL.consE with
      | cons p p' => cases p'; cases r using Rd.strE0; cases q using Rd.strE0; cases p; exact SC.find3 ⟨Kp.tok s _, .int _ _⟩
theorem OpN.int_str {x : Str} {n : Int} (hn : PySem.intText? x = some n) (hl : x.length ≤ 640) : OpN prog w M h k (.type "int") [.str x] [] (.int n) := .of fun A s vs us rm kp r1 r2 => by
  cases r2 using RdL.nilE
  cases r1 using RdL.consE with
  | cons r r' => cases r' using RdL.nilE; cases r using Rd.strE0; exact KIN.call_text hn hl ⟨Kp.tok s _, .int _ _⟩
theorem strValues_rd {M : Addr → Prop} {h : Heap} : ∀ {l : List (Str × Tok)} {xs : List Str}, l.map (·.1) = xs → RdL M h (strValues l) (xs.map D.str)
  | [], _, e => by subst e; exact .nil
  | (x, t) :: l, _, e => by
    subst e
    exact .cons (.str x t) (strValues_rd rfl)
theorem OpM.split {x y : Str} (S : Sc K M h) (hy : (y.length == 0) = false) (hz : x.length ≤ 1000) (hz2 : (Builtin.Str.partsBetween x (Builtin.Str.occurrences x y 0 x.length (x.length + 1)) y.length).length ≤ 16777216) :
    OpM prog w M h k "split" (.str x) [.str y] [] (.lst ((Txt.split x y).map D.str)) := by
  refine OpM.builtin (T := "str") (fun s v _ r => by cases r using Rd.strE0; exact ⟨typeIs_str _ _ _, fun a e => nomatch e⟩) F.plainAttrs_str F.slot_str_split F.type_str_split ?_
  refine .of fun A s vs us rm kp r1 r2 => ?_
  cases r2 using RdL.nilE
  cases r1 using RdL.consE with
  | cons r r' => cases r' using RdL.consE with
    | cons q q' =>
      cases q' using RdL.nilE; cases r using Rd.strE0; cases q using Rd.strE0
      rename_i t u
      have hz1 : x.length ≤ sizeLine := by rw [sizeLine_eq]; lia
      have hz2' : (Builtin.Str.partsBetween x (Builtin.Str.occurrences x y 0 x.length (x.length + 1)) y.length).length ≤ sizeLine := by rw [sizeLine_eq]; exact hz2
      have fin : ∀ (l : List (Str × Tok)) (tk : Nat), l.map (·.1) = Txt.split x y → Kp s { s with toks := tk, heap := s.heap.push { cls := .type "list", data := .seq (strValues l).toArray } } ∧ Rd M (s.heap.push { cls := .type "list", data := .seq (strValues l).toArray }) (.ref s.heap.objs.size) (.lst ((Txt.split x y).map D.str)) := fun l tk e =>
        ⟨Kp.both s _ _ (keep_push _ _), .lst (S.keep kp).size ⟨0, by rw [Heap.get?_push_size _ rfl]⟩ (strValues_rd e)⟩
      cases h1 : (decide (x.length < y.length) || decide (Builtin.Str.strKind x < Builtin.Str.strKind y))
      · cases hf : (Builtin.Str.occurrences x y 0 x.length (x.length + 1)).isEmpty
        · refine call_meets F.slot_str_split (typeIs_str _ _ _) F.entry_str_split (F.args_str_split_2 _ _) (meets_str_split_sep x y t u h1 hy hf hz1 hz2') ?_
          rw [strsFrom_eq]
          exact fin _ _ ((numbered_texts _ _).trans ((if_neg (ne_true_of_eq_false h1)).trans (if_neg (ne_true_of_eq_false hf))).symm)
        · exact call_meets F.slot_str_split (typeIs_str _ _ _) F.entry_str_split (F.args_str_split_2 _ _) (meets_str_split_not_found x y t u h1 hy hf)
            (fin [(x, t)] _ ((if_neg (ne_true_of_eq_false h1)).trans (if_pos hf)).symm)
      · exact call_meets F.slot_str_split (typeIs_str _ _ _) F.entry_str_split (F.args_str_split_2 _ _) (meets_str_split_cannot_occur x y t u h1)
          (fin [(x, t)] _ (if_pos h1).symm)
theorem item_lst {value slice : Expr} {ds : List D} {i : Int} {d : D} (hs : NoSlice slice = true) (hn : IsName value = true) (h0 : 0 ≤ i) (e : ds[i.toNat]? = some d) (hb : i ≤ 1000) : Op2 prog w M h k (subscriptTail value slice) (.lst ds) (.int i) d := .of fun A s u v rm kp r1 r2 => by
  cases r2 using Rd.intE with
  | int _ t =>
    cases r1 using Rd.lstE with
    | lst hm' hl hr =>
      obtain ⟨y, hy, ry⟩ := hr.get e
      exact subscriptTail_builtin hl.isList.typeIs slot_list_getitem.lookup (wpAny_getItem_list hl.isList (by omega) (by lia) (by simpa using hy) ⟨Kp.refl s, ry⟩) (subscripted_plain hs) (fun r => letGo_name hn)
theorem Op2.to {f : Value → Value → Sem Value} {a b d d' : D} (o : Op2 prog w M h k f a b d) (e : d = d') : Op2 prog w M h k f a b d' := e ▸ o
theorem sign_ne {c d : Nat} (h : c ≠ d) : (!decide ((⟨#[c]⟩ : Str) = ⟨#[d]⟩)) = true := by
  rw [decide_eq_false]
  · rfl
  · intro e; exact h (by simpa using e)
theorem sign_eq {c : Nat} : (!decide ((⟨#[c]⟩ : Str) = ⟨#[c]⟩)) = false := by rw [decide_eq_true rfl]; rfl
end
end Mine
set_option linter.unusedVariables false
namespace Mine
open PySem PySem.W PySem.Calls PyProof.Rows PySem.Spec
section
variable {prog : Program} {w : World} {K : Frag} {M : Addr → Prop} {h : Heap} {k : Nat} {env : Env} {vm : List (Str × D)} {A : Around} {E : Value → Shared → Prop} {s : Shared}
theorem fn_enter_gen {f : Addr} {fd : FuncData} {body : List Stmt} {oc : Value} {od : Option Addr} {osl : Array (Option Value)} {args : Args} {names : List Str} {P : List Value → List D → Shared → Prop} {R : Result → Shared → Prop}
    (rm : Room (k + 1) A) (S : Sc K M s.heap) (ho : K.lookup f = some ⟨oc, od, .func fd, osl⟩) (hbody : fd.body = .stmts body) (hcd : codeIn K fd.code fd.qualname = true) (O : FnOk fd names)
    (hbind : ∀ (A' : Around) (Q : List (Str × Value) → Shared → Prop) (E' : Value → Shared → Prop), (∀ bvs bds s0, Kp s s0 → RdL M s0.heap bvs bds → names.length = bds.length → P bvs bds s0 → Q (names.zip bvs) s0) → wpAny (model prog w) A' (bindArgs fd args) Q E' s)
    (nx : ∀ L s0 s₁ bvs bds, Kp s s0 → P bvs bds s0 → Kp s0 s₁ → Run K s0 (fun _ => False) (Mof M (envAt fd L f)) (envAt fd L f) (names.zip bds) s₁ → (∀ a, Own (envAt fd L f) a → s0.heap.get? a = none) →
      wpAny (model prog w) (A.deeper (envAt fd L f)) (execs body (envAt fd L f)) (fun fl s' => R (.ok (.ret (match fl with | .ret v => v | _ => .none))) s') NoE s₁) :
    codeAny (model prog w) A (.call (.ref f) args) R s := by
  refine codeAny_call_function rm.lim (S.inn _ _ ho) rfl O.co O.gen hbody (codeRec_of S.inn hcd) (hbind _ _ _ fun bvs bds s0 k0 hr hlen hP => ?_)
  have hz : (names.zip bvs).map (·.1) = names := by
    rw [List.map_fst_zip]
    rw [hlen, hr.length]; exact Nat.le_refl _
  have S := S.keep k0.heap
  rw [O.clo]
  have hcells : ∀ n x, x ∈ names → fd.scope.names.lookup x = some .cell → ((cellsFrom n fd.scope.names []).lookup x).isSome = true := fun n x _ e => cellsFrom_some _ _ _ (.inl e)
  refine wpAny_newFunctionEnv_cells O.kind (fun x hx => ?_) fun env' he s' x => ?_
  · have hn : x.1 ∈ names := hz ▸ List.mem_map_of_mem hx
    exact (O.kinds _ hn).imp id fun e => ⟨e, hcells _ _ hn e⟩
  · subst he
    refine ⟨S.lim.keeps x.toInCall.keep, codeAny_func ?_⟩
    refine wpAny_mono (nx s0.heap.objs.size s0 s' bvs bds k0 hP ?_ ?_ ?_) (fun _ _ q => q) fun _ _ q => q.elim
    · obtain ⟨h₁, tk, rfl, _⟩ := x.done
      exact Kp.both _ _ _ x.toInCall.keep
    · obtain ⟨h₁, tk, rfl, _⟩ := x.done
      have hk₁ : Keep s0.heap h₁ := x.toInCall.keep
      have hL : (s0.heap.get? s0.heap.objs.size) = none := get_size _
      have hnone : ∀ a, s0.heap.objs.size ≤ a → s0.heap.get? a = none := fun a ha => Heap.get?_none_of_le ha
      have hown : ∀ a, Own (envAt fd s0.heap.objs.size f) a → s0.heap.objs.size ≤ a ∧ (h₁.get? a).isSome = true := by
        rintro a (rfl | ⟨n, e⟩)
        · refine ⟨Nat.le_refl _, ?_⟩
          obtain ⟨o, _, _, ho, _⟩ := x.toInCall.ns
          show (h₁.get? s0.heap.objs.size).isSome = true
          have : h₁.get? s0.heap.objs.size = some o := ho
          rw [this]; rfl
        · refine ⟨Nat.le_of_lt (x.above n a (mem_of_lookup e)), ?_⟩
          obtain ⟨o, ho, _⟩ := x.cell n a e
          have : h₁.get? a = some o := ho
          rw [this]; rfl
      refine ⟨⟨h₁, tk, rfl⟩, hk₁.ext, ?_, ?_, fun a ha => hnone a (hown a ha).1⟩
      · have S1 := S.keep hk₁
        refine ⟨S1.inn, S1.bns, S1.lim, S1.dig, fun a m => ?_, fun a m => ?_, fun m => ?_, fun m => ?_⟩
        · exact m.elim (S1.alive a) fun o => (hown a o).2
        · exact m.elim (S1.offK a) fun o => (S.newOff (hnone a (hown a o).1)).2.1
        · exact m.elim S1.offB fun o => (S.newOff (hnone _ (hown _ o).1)).2.2.1 rfl
        · exact m.elim S1.offS fun o => (S.newOff (hnone _ (hown _ o).1)).2.2.2 rfl
      · have hsw : ∀ a, (s0.heap.get? a).isSome = true → ¬ M a → ¬ Mof M (envAt fd s0.heap.objs.size f) a := fun a ha hm hM => hM.elim hm fun o => by
          rw [hnone a (hown a o).1] at ha; cases ha
        have hr' : RdL (Mof M (envAt fd s0.heap.objs.size f)) h₁ bvs bds := (hr.swap hsw).keep hk₁
        have hzn : ((names.zip bvs).map (·.1)).Nodup := by rw [hz]; exact O.nnd
        refine ⟨O.kind, .inr (.inl rfl), fun y c e => .inr (.inr ⟨y, e⟩), ⟨_, x.toInCall.ns, fun y d hk e => ?_⟩, fun y c e => ⟨_, x.cell y c e, fun d q => ?_⟩, fun y c e => ?_, fun y z c a b => ?_, fun y d e => ?_⟩
        · obtain ⟨v, hv, rv⟩ := zip_look hr' e
          exact ⟨v, bindL_look hzn hk hv, rv⟩
        · obtain ⟨v, hv, rv⟩ := zip_look hr' q
          refine ⟨v, bindC_look hzn ?_ hv, rv⟩
          intro hk
          have := (cellsFrom_kind _ _ _ y c (mem_of_lookup e)).resolve_left (fun z => nomatch z)
          have h2 := nodup_lookup O.nd this
          have hk' : fd.scope.names.lookup y = some NameKind.local := hk
          rw [h2] at hk'; cases hk'
        · intro hk
          have := (cellsFrom_kind _ _ _ y c (mem_of_lookup e)).resolve_left (fun z => nomatch z)
          have h2 := nodup_lookup O.nd this
          have hk' : fd.scope.names.lookup y = some NameKind.local := hk
          rw [h2] at hk'; cases hk'
        · exact name_of_addr x.apart (mem_of_lookup a) (mem_of_lookup b)
        · have hy : y ∈ names := by
            have := mem_of_lookup e
            exact (List.of_mem_zip this).1
          refine ⟨?_, O.nocd y hy⟩
          rcases O.kinds y hy with q | q
          · exact .inl q
          · exact .inr ⟨.inl q, hcells _ _ hy q⟩
    · rintro a (rfl | ⟨n, e⟩)
      · exact get_size _
      · exact Heap.get?_none_of_le (Nat.le_of_lt (x.above n a (mem_of_lookup e)))
theorem nsSet_new {d : Addr} {x : Str} {v : Value} {Q : Unit → Shared → Prop} (hd : s.heap.get? d = some (dictOf [] 0))
    (h : ∀ h', h'.get? d = some (dictOf [⟨PyData.keyHash w.params x, .str x s.toks, v⟩] 1) → Heap.SameBut d s.heap h' → Q () { s with heap := h', toks := s.toks + 1 }) : wpAny (model prog w) A (nsSet d x v) Q E s := by
  have e : Obj.putName x (PyData.keyHash w.params x) (.str x s.toks) v (dictOf [] 0) = dictOf [⟨PyData.keyHash w.params x, .str x s.toks, v⟩] 1 := by
    rw [putName_dict, putL_new (es := []) (fun e he => by cases he)]
    rfl
  unfold nsSet
  refine wpAny_bind (wpAny_bind (wpAny_askSetting (wpAny_pure (wpAny_bind (wpAny_mkText (wpAny_bind (wpAny_loadPart hd ?_)))))))
  dsimp only
  rw [show aRefKeyMayBeTheName x ([] : List DictEntry).toArray = false from by rw [aRefKeyMayBeTheName_at]; simp]
  refine wpAny_updatePart hd (h _ ?_ (Heap.SameBut.update _ _ _))
  exact (Heap.get?_update_self _ hd (by refine (congrArg Obj.isFreed e).trans rfl)).trans (congrArg some e)
theorem isStrOf_self (x : Str) (t : Tok) : Value.isStrOf x (.str x t) = true := by simp [Value.isStrOf]
theorem dictAt_one {d : Addr} {x : Str} {v : Value} {t : Tok} {h : Heap} (e : h.get? d = some (dictOf [⟨PyData.keyHash w.params x, .str x t, v⟩] 1)) : h.DictAt (PySem.strKind prog w) d [(x, v)] 1 := by
  refine ⟨_, _, e, ?_, rfl, ?_, ?_, ?_⟩
  · exact ⟨rfl, rfl, rfl⟩
  · intro y hy
    have hy : y = ⟨PyData.keyHash w.params x, .str x t, v⟩ := by simpa using hy
    subst hy
    exact ⟨x, isStrOf_self x t, rfl⟩
  · exact .cons (isStrOf_self x t) rfl .nil
  · simp
theorem wp_peek {α : Type} {K : Frag} {M : Model} {A : Around} {E : Value → Shared → Prop} {Q : α → Shared → Prop} {s : Shared} {o : Obj} (X : K.In s.heap) :
    ∀ (t : Sem α) (g : Addr → Sem α), peekA K ⟨M.prog, M.w.params⟩ t = some (o, g) → wpAny M A (g s.heap.objs.size) Q E { s with heap := s.heap.push o } → wpAny M A t Q E s := by
  intro t
  induction t with
  | rule _ k ih => intro g e q Γ p hΓ; exact ih () g e q Γ p hΓ
  | point _ k ih => intro g e q Γ p hΓ; exact ih () g e q Γ p hΓ
  | ask k ih => intro g e q Γ p hΓ; exact ih _ g e q Γ p hΓ
  | load a _ k ih =>
    intro g e q Γ p hΓ
    simp only [peekA] at e
    split at e
    · rename_i ob ho; exact ⟨ob, X _ _ ho, ih ob g e q Γ p hΓ⟩
    · cases e
  | alloc ob k _ =>
    intro g e q
    have e : some (ob, k) = some (o, g) := e
    obtain ⟨e1, e2⟩ := Prod.mk.inj (Option.some.inj e)
    subst e1
    subst e2
    show wpAny M A (alloc ob >>= k) Q E s
    exact wpAny_bind (wpAny_alloc q)
  | _ => intro g e; cases e
theorem bind_one {fd : FuncData} {args : Args} {x nm : Str} {v : Value} {front : List (Str × Value)} {Q : List (Str × Value) → Shared → Prop} {g : Addr → Sem (List (Str × Value))} (X : K.In s.heap)
    (hp : peekA K ⟨prog, w.params⟩ (bindArgs fd args) = some (dictOf [] 0, g))
    (hk : ∀ D, g D = (forIn [(x, v)] PUnit.unit (fun x _ => (nsSet D x.1 x.2 >>= fun _ => pure (ForInStep.yield PUnit.unit))) >>= fun _ => pure (front ++ [(nm, Value.ref D)])))
    (hq : ∀ d s1, Kp s s1 → s.heap.get? d = none → s.heap.objs.size ≤ d → s1.heap.DictAt (PySem.strKind prog w) d [(x, v)] 1 → Q (front ++ [(nm, .ref d)]) s1) : wpAny (model prog w) A (bindArgs fd args) Q E s := by
  refine wp_peek X _ g hp ?_
  rw [hk, List.forIn_cons]
  refine wpAny_bind (wpAny_bind (wpAny_bind (nsSet_new (Heap.get?_push_size _ rfl) fun h' e' hs => wpAny_pure ?_)))
  show wpAny (model prog w) A (forIn [] PUnit.unit _) _ _ _
  rw [List.forIn_nil]
  refine wpAny_pure (wpAny_pure (hq _ _ ⟨⟨_, _, rfl⟩, fun b o eb => ?_⟩ (get_size _) (Nat.le_refl _) (dictAt_one e')))
  exact hs.extBut b o (fun z => by rw [z, get_size] at eb; cases eb) (Heap.get?_push_of_some _ eb)
end
end Mine
set_option linter.unusedVariables false
namespace Mine
open PySem PySem.W PySem.Calls PyProof.Rows PySem.Spec
section
variable {prog : Program} {w : World} {K : Frag} {M : Addr → Prop} {h : Heap} {k : Nat} {env : Env} {vm : List (Str × D)} {A : Around} {E : Value → Shared → Prop} {s : Shared}
theorem call_items {d : Addr} {x : Str} {v : Value} {Q : Value → Shared → Prop} (hm : s.heap.DictAt (PySem.strKind prog w) d [(x, v)] 1) (hd : (d == sysModules) = false)
    (hq : Q (.ref s.heap.objs.size) { s with heap := s.heap.push { cls := .type "dict_items", data := .fields #[.ref d] } }) : wpAny (model prog w) A (call (.builtin "dict.items") [.ref d]) Q E s :=
  call_meetsIn F.slot_dict_items hm.dictOf.typeIs F.entry_dict_items (F.args_dict_items_1 _) (meets_dict_items (PySem.strKind prog w) d hd) ⟨⟨_, hm.dictOf⟩, hq⟩
theorem eval_items {y : Str} {q apos p : Pos} {d : Addr} {x : Str} {v : Value} {Q : Value → Shared → Prop} (rm : Room k A) (F0 : Fm M env vm s.heap) (e : vm.lookup y = some (.ref d)) (hdb : (y == ("__debug__" : Str)) = false) (hm : s.heap.DictAt (PySem.strKind prog w) d [(x, v)] 1) (hd : (d == sysModules) = false)
    (hq : ∀ V s', Kp s s' → s.heap.get? V = none → s'.heap.IsItemsView V d → Q (.ref V) s')
    (hbase : attributeBase (.Name y q) "items" env (eval (.Name y q) env) = eval (.Name y q) env := by rfl)
    (hfew : methodCallForm (([] : List Expr).length + ([] : List Keyword).length) (backTo p (starEach [] env)) (backToKw p (keywordEach [] env)) = true := by rfl)
    (hline : (apos.endLine == p.line) = true := by rfl) : wpAny (model prog w) A (eval (.Call (.Attribute (.Name y q) "items" apos) [] [] p) env) Q E s := by
  obtain ⟨u, l, r⟩ := (F0.vars (prog := prog) (w := w)) y _ e
  cases r using Rd.refE0
  rw [arm_eval_Call, hbase]
  refine wpAny_bind (wpAny_Name (l A _ _ s (Keep.refl _) ?_) hdb)
  refine wpAny_bind (wpAny_standAt ?_)
  unfold methodCall
  rw [hfew]
  refine wpAny_bind (wpAny_holding ?_)
  show wpAny _ _ (getMethod (.ref d) "items" (do return (← importBound (.Name y q) env).getD true)) _ _ _
  refine getMethod_builtin hm.dictOf.typeIs F.plainAttrs_dict F.slot_dict_items F.type_dict_items (fun a ea => ?_) ?_
  · cases ea
    obtain ⟨o, es, ho, hc, _⟩ := hm
    exact ⟨o, ho, hc.2.1⟩
  unfold methodCallPos
  rw [hline]
  refine wpAny_bind (wpAny_pure ?_)
  refine any_callWith (h := s.heap) (M := M) rm (Keep.refl _) (by rfl) PLs.nil PKw.nil (Looks.of_pure rfl) fun vs us s2 k2 q1 q2 => ?_
  cases q1 using RdL.nilE; cases q2 using RdL.nilE
  exact call_items (hm.keep k2.heap) hd (hq _ _ (k2.trans (Kp.hp _ _ (keep_push _ _))) (by
    cases z : s.heap.get? s2.heap.objs.size with
    | none => rfl
    | some o => have := k2.heap _ _ z; rw [get_size] at this; cases this) ⟨_, Heap.get?_push_size _ rfl, rfl, rfl⟩)
end
end Mine
set_option linter.unusedVariables false
namespace Mine
open PySem PySem.W PySem.Calls PyProof.Rows PySem.Spec
section
variable {prog : Program} {w : World} {K : Frag} {W M N : Addr → Prop} {h : Heap} {k : Nat} {env : Env} {vm : List (Str × D)} {A : Around} {E : Value → Shared → Prop} {s₀ s : Shared}
theorem Run.mutM {l : Addr} {h' : Heap} {tk : Nat} (R : Run K s₀ W M env vm s) (hW : W l ∨ s₀.heap.get? l = none) (hM : M l) (hL : l ≠ env.locals) (hC : ∀ x c, env.cells.lookup x = some c → l ≠ c) (hs : Heap.SameBut l s.heap h') (al : (h'.get? l).isSome = true) :
    Run K s₀ W M env vm { s with heap := h', toks := tk } := by
  obtain ⟨⟨h1, t1, rfl⟩, a, b, c, d⟩ := R
  refine ⟨⟨h', tk, rfl⟩, fun x o n e => ?_, b.but hs hM al, c.other hs hM hL hC, d⟩
  have hx : x ≠ l := fun z => by
    rcases hW with q | q
    · exact n (z ▸ q)
    · rw [z, q] at e; cases e
  rw [hs.2 x hx]
  exact a x o n e
theorem Run.more (R : Run K s₀ W M env vm s) (i : ∀ a, M a → N a) (hd : ∀ p ∈ vm, ∀ v, Rd M s.heap v p.2 → Rd N s.heap v p.2) (al : ∀ a, N a → (s.heap.get? a).isSome = true) (offK : ∀ a, N a → K.lookup a = none) (offB : ¬ N builtinsNs) (offS : ¬ N cStatics) : Run K s₀ W N env vm s := by
  obtain ⟨a, b, c, d, e⟩ := R
  refine ⟨a, b, ⟨c.inn, c.bns, c.lim, c.dig, al, offK, offB, offS⟩, ⟨d.kind, i _ d.inL, fun x y z => i _ (d.inC x y z), ?_, fun x y z => ?_, d.celK, d.apart, d.vis⟩, e⟩
  · obtain ⟨m, hn, hm⟩ := d.loc
    exact ⟨m, hn, fun x d' p q => let ⟨v, e, r⟩ := hm x d' p q; ⟨v, e, hd _ (mem_of_lookup q) v r⟩⟩
  · obtain ⟨ov, ho, hd'⟩ := d.cel x y z
    exact ⟨ov, ho, fun d' q => let ⟨v, e, r⟩ := hd' d' q; ⟨v, e, hd _ (mem_of_lookup q) v r⟩⟩
theorem Run.less (R : Run K s₀ W N env vm s) (i : ∀ a, M a → N a) (hL : M env.locals) (hC : ∀ x c, env.cells.lookup x = some c → M c) : Run K s₀ W M env vm s :=
  ⟨R.same, R.keep, R.sc.sub i, R.fm.swap (fun a _ n m => n (i a m)) hL hC, R.own⟩
theorem run_lappend {y : Str} {P : Addr} {vs : List Value} {ds : List D} {d : D} {e : Expr} {p1 p3 p4 p5 : Pos} {rest : List Stmt} {Q : Flow → Shared → Prop} (R : Run K s₀ W M env vm s) (rm : Room k A) (hy : vm.lookup y = some (.ref P)) (hyd : (y == ("__debug__" : Str)) = false)
    (hW : W P ∨ s₀.heap.get? P = none) (hM : M P) (hL : P ≠ env.locals) (hC : ∀ x c, env.cells.lookup x = some c → P ≠ c) (hP : s.heap.PlainList P vs.toArray) (hr : RdL M s.heap vs ds) (hz : ds.length ≤ 1000) (pe : PE prog w M s.heap k (eval e env) d)
    (nx : ∀ s' vs', Run K s₀ W M env vm s' → s'.heap.PlainList P vs'.toArray → RdL M s'.heap vs' (ds ++ [d]) → Ext (· = P) s.heap s'.heap → Go (model prog w) A (execs rest env) Q E s')
    (hi : interactive env = false) (hsw : swapsWith (.Call (.Attribute (.Name y p1) "append" p3) [e] [] p4) none p5.line env = pure false)
    (hst : starEach [e] env = [(false, eval e env)])
    (hbase : attributeBase (.Name y p1) "append" env (eval (.Name y p1) env) = eval (.Name y p1) env) (hline : (p3.endLine == p4.line) = true) :
    Go (model prog w) A (execs (.Expr (.Call (.Attribute (.Name y p1) "append" p3) [e] [] p4) p5 :: rest) env) Q E s := by
  refine .of (wpAny_execs_cons (wpAny_Expr ?_ hi hsw))
  rw [arm_eval_Call, hbase]
  refine wpAny_bind ((PE.nameF R.fm hy hyd).use rm (Keep.refl _) fun v s1 k1 r1 => ?_)
  cases r1 using Rd.refE0
  refine wpAny_bind (wpAny_standAt ?_)
  unfold methodCall
  rw [show methodCallForm ([e].length + ([] : List Keyword).length) (backTo p4 (starEach [e] env)) (backToKw p4 (keywordEach [] env)) = true from by rw [hst]; rfl]
  refine wpAny_bind (wpAny_holding ?_)
  show wpAny _ _ (getMethod (.ref P) "append" (do return (← importBound (.Name y p1) env).getD true)) _ _ _
  have hl1 : s1.heap.PlainList P vs.toArray := hP.at fun o q => k1.heap _ o q
  refine getMethod_builtin hl1.isList.typeIs F.plainAttrs_list slot_list_append F.type_list_append (fun a e => by cases e; obtain ⟨c, ho⟩ := hl1; exact ⟨_, ho, rfl⟩) ?_
  unfold methodCallPos
  rw [hline]
  refine wpAny_bind (wpAny_pure ?_)
  refine any_callWith (h := s.heap) (as := [d]) (ks := []) rm k1.heap (by rw [hst]; rfl) (PLs.cons pe PLs.nil hst) PKw.nil keep_bi fun vs' us' s2 k2 q1 q2 => ?_
  cases q2 using RdL.nilE
  cases q1 using RdL.consE with
  | cons rt rr =>
    cases rr using RdL.nilE
    have k3 := k1.trans k2
    have hl2 : s2.heap.PlainList P vs.toArray := hP.at fun o q => k3.heap _ o q
    have hlen := hr.length
    refine wpAny_list_append_plain hl2 (fun h' hl' hs' => ?_) (by rw [List.size_toArray, sizeLine_eq]; lia)
    have R2 := R.pure k3
    have R3 := R2.mutM (tk := s2.toks) hW hM hL hC hs' (by obtain ⟨c, ho⟩ := hl'; rw [ho]; rfl)
    rw [List.push_toArray] at hl'
    refine (nx _ _ R3 hl' ?_ ?_).run
    · exact ((hr.keep k3.heap).append (.cons rt .nil)).ext (Ext.sameBut hs' hM)
    · exact fun b o n e => by
        show h'.get? b = some o
        rw [hs'.2 b n]; exact k3.heap _ _ e
theorem strKind_is {x : Str} {v : Value} (h : (PySem.strKind prog w).is x v = true) : ∃ t, v = .str x t := by
  cases v with
  | str y t =>
    have : Value.isStrOf x (.str y t) = true := h
    have e : y = x := by simpa [Value.isStrOf] using this
    exact ⟨t, by rw [e]⟩
  | _ => exact absurd h (by simp [PySem.strKind, Value.isStrOf])
theorem run_for_item1 {kx vx y x : Str} {px pv q1 ap p q pos : Pos} {n : Nat} {d : Addr} {v : Value} {c : D} {body rest : List Stmt} {Inv : Shared → Prop} {Q : Flow → Shared → Prop} (R : Run K s₀ W M env vm s) (rm : Room k A)
    (e : vm.lookup y = some (.ref d)) (hdb : (y == ("__debug__" : Str)) = false) (hm : s.heap.DictAt (PySem.strKind prog w) d [(x, v)] 1) (hd : (d == sysModules) = false) (nd : ¬ M d) (rv : Rd M s.heap v c) (hkx : KindOk env kx) (hvx : KindOk env vx)
    (hst : ∀ I s' h' tk, s.heap.get? I = none → Inv s' → (∀ b o, b ≠ I → s'.heap.get? b = some o → h'.get? b = some o) → (∃ o fs, s'.heap.get? I = some o ∧ o.data = .fields fs ∧ ¬ Solid o) → Inv { s' with heap := h', toks := tk })
    (hb : ∀ s2, Run K s₀ W M env ((vx, c) :: (kx, .str x) :: vm) s2 → Ext (Own env) s.heap s2.heap → Go (model prog w) A (execs body env) (fun f s3 => f = .next ∧ Inv s3 ∧ Ext M s2.heap s3.heap) NoE s2)
    (fin : ∀ s', Inv s' → Go (model prog w) A (execs rest env) Q E s')
    (hbase : attributeBase (.Name y q1) "items" env (eval (.Name y q1) env) = eval (.Name y q1) env := by rfl)
    (hline : (ap.endLine == p.line) = true := by rfl)
    (hs : ∀ x, foldedSetIterable (.Call (.Attribute (.Name y q1) "items" ap) [] [] p) env x = pure x := by intro _; rfl) :
    Go (model prog w) A (execs (.For (.Tuple [.Name kx px, .Name vx pv] n q) (.Call (.Attribute (.Name y q1) "items" ap) [] [] p) body [] pos :: rest) env) Q E s := by
  refine .of (wpAny_execs_cons (then_run (wpAny_For (eval_items rm R.fm e hdb hm hd (fun V s1 k1 fV hV => wpAny_pyIter_items hV (hm.keep k1.heap) ?_) hbase rfl hline) hs)))
  have fit : s.heap.get? s1.heap.objs.size = none := by
    cases z : s.heap.get? s1.heap.objs.size with
    | none => rfl
    | some o => have := k1.heap _ _ z; rw [get_size] at this; cases this
  have nit : ¬ M s1.heap.objs.size := R.sc.dead fit
  have hit0 : IsItemIter (s1.heap.push { cls := .type "dict_itemiterator", data := .fields #[.none, .bool false, .ref d, .int 0 0, .int ([(x, v)] : List (Str × Value)).length 0, .int 1 0, .none, .none] }) s1.heap.objs.size d 0 ([(x, v)] : List (Str × Value)).length 1 .none .none := Heap.get?_push_size _ rfl
  generalize hIt : s1.heap.objs.size = it at fit nit hit0 ⊢
  generalize hH : (s1.heap.push { cls := .type "dict_itemiterator", data := .fields #[.none, .bool false, .ref d, .int 0 0, .int ([(x, v)] : List (Str × Value)).length 0, .int 1 0, .none, .none] }) = H at hit0 ⊢
  have kH : Keep s1.heap H := hH ▸ keep_push _ _
  have k2 : Kp s { s1 with heap := H } := k1.trans (Kp.hp _ _ kH)
  have hm2 : H.DictAt (PySem.strKind prog w) d [(x, v)] 1 := hm.keep k2.heap
  have hne : d ≠ it := fun z => by
    obtain ⟨o, es, ho, hc, _⟩ := hm
    rw [z, fit] at ho; cases ho
  have nsolid : ∀ fs : Array Value, ¬ Solid { cls := .type "dict_itemiterator", dict := none, data := .fields fs, slots := #[] } := fun fs => not_solid rfl rfl (by decide)
  refine codeAny_forLoop_any (fun n s' => (n = 1 ∧ s' = { s1 with heap := H }) ∨ (n = 0 ∧ Inv s' ∧ (∃ ok ov, IsItemIter s'.heap it d 1 ([(x, v)] : List (Str × Value)).length 1 ok ov) ∧ s'.heap.DictAt (PySem.strKind prog w) d [(x, v)] 1)) ?_ 1 (.inl ⟨rfl, rfl⟩)
  rintro n s' (⟨rfl, rfl⟩ | ⟨rfl, iv, ⟨ok, ov, hi⟩, hm'⟩)
  · refine wpAny_pyNext_items_item (s := { s1 with heap := H }) (knd := PySem.strKind prog w) hit0 hm2 (show ([(x, v)] : List (Str × Value))[0]? = some (x, v) from rfl) fun key h' hkey hout htup hsz hk => ?_
    obtain ⟨tk, rfl⟩ := strKind_is hkey
    refine wpAny_letOwnedTupleGo_items (s := { s1 with heap := h' }) hout fun h'' hi'' hs'' => ?_
    have k3 : Kp s { s1 with heap := h'' } := by
      obtain ⟨⟨hx, tx, rfl⟩, kk⟩ := k1
      refine ⟨⟨h'', tx, rfl⟩, fun b o z => ?_⟩
      have hb : b ≠ it := fun y => by rw [y, fit] at z; cases z
      show h''.get? b = some o
      rw [hs''.2 b hb]
      exact hk b o hb (kH b o (kk b o z))
    have R3 := R.pure k3
    have ha : s.heap.get? H.objs.size = none := by
      cases z : s.heap.get? H.objs.size with
      | none => rfl
      | some o => have := k2.heap _ _ z; rw [get_size] at this; cases this
    have hai : H.objs.size ≠ it := fun z => by
      have := hit0
      rw [← z] at this
      have t : H.get? H.objs.size = some _ := this
      rw [get_size] at t; cases t
    have rt : Rd M h'' (.ref H.objs.size) (.tup [.str x, c]) := by
      refine .tup (vs := [.str x tk, v]) (R.sc.dead ha) ⟨0, ?_⟩ (.cons (.str x tk) (.cons (rv.keep k3.heap) .nil))
      rw [hs''.2 _ hai]; exact htup
    refine (Asg.pair (prog := prog) (w := w) (k := k) (K := K) (X := Own env) hkx hvx (fun a z => z.elim own_sto own_sto)).go M vm A _ { s1 with heap := h'' } _ _ rm R3.fm R3.sc rt fun h4 t4 F4 S4 e4 => ?_
    have R4 := R3.frame (tk := t4) F4 S4 e4 fun a z => z
    refine wpAny_mono (hb _ R4 (k3.heap.ext.trans e4)).run (fun f s5 z => ?_) fun _ _ z => z.elim
    obtain ⟨rfl, iv, x5⟩ := z
    have nOwn : ∀ a, ¬ M a → ¬ Own env a := fun a na o => na (by
      rcases o with rfl | ⟨y, z⟩
      · exact R.fm.inL
      · exact R.fm.inC y a z)
    refine ⟨0, by decide, .inr ⟨rfl, iv, ⟨_, _, x5 _ _ nit (e4 _ _ (nOwn _ nit) hi'')⟩, ?_⟩⟩
    obtain ⟨o, es, ho, rest⟩ := hm
    exact ⟨o, es, x5 _ _ nd (e4 _ _ (nOwn _ nd) (k3.heap _ _ ho)), rest⟩
  · refine wpAny_pyNext_items_end rm.handled hi hm' rfl fun h' hk => ?_
    exact wpAny_execs_nil (fin _ (hst it s' h' s'.toks fit iv (fun b o hb z => hk b o hb z) ⟨_, _, hi, rfl, nsolid _⟩))
end
end Mine
set_option linter.unusedVariables false
namespace Mine
open PySem PySem.W PySem.Calls PyProof.Rows PySem.Spec
section
variable {prog : Program} {w : World} {K : Frag} {W M : Addr → Prop} {h : Heap} {k : Nat} {env : Env} {vm : List (Str × D)} {A : Around} {E : Value → Shared → Prop} {s₀ s : Shared}
theorem ints_are {M : Addr → Prop} {h : Heap} : ∀ {ns : List Int} {vs : List Value}, RdL M h vs (ns.map D.int) → IntsAre vs ns
  | [], _, r => by cases r using RdL.nilE; exact .nil
  | n :: ns, _, r => by
    rw [List.map_cons] at r
    cases r using RdL.consE with
    | cons x r => cases x; exact .cons _ _ (ints_are r)
theorem are_ints {M : Addr → Prop} {h : Heap} {vs : List Value} {ns : List Int} (i : IntsAre vs ns) : RdL M h vs (ns.map D.int) := by
  induction i with
  | nil => exact .nil
  | cons n t _ ih => exact .cons (.int n t) ih
theorem OpN.sorted {ns ms : List Int} (S : Sc K M h) (hz : ns.length < 64) (hp : ms.Perm ns) (hs : ms.Pairwise (· ≤ ·)) : OpN prog w M h k (.builtin "sorted") [.lst (ns.map D.int)] [] (.lst (ms.map D.int)) := .of fun A s vs us rm kp r1 r2 => by
  cases r2 using RdL.nilE
  cases r1 using RdL.consE with
  | cons r r' =>
    cases r' using RdL.nilE
    cases r using Rd.lstE with
    | @lst a us' _ n hl hr =>
      have e := hr.length
      rw [List.length_map] at e
      refine sorted_ints hl.isList (ints_are hr) (by lia) fun out ns' i p o => ?_
      have : ns' = ms := List.Perm.eq_of_pairwise (le := fun a b : Int => a ≤ b) (fun a b _ _ x y => Int.le_antisymm x y) o hs (p.trans hp.symm)
      subst this
      have k1 : Kp s { s with heap := sortedAll s.heap us' out } := Kp.hp _ _ fun b o e => sortedAll_old e
      refine ⟨k1, .lst (vs := out.toList) (S.dead (a := s.heap.objs.size + 1) ?_) ?_ (are_ints i)⟩
      · cases q : h.get? (s.heap.objs.size + 1) with
        | none => rfl
        | some o =>
          have := Heap.lt_size (kp _ _ q)
          exact absurd (Nat.lt_of_succ_lt this) (Nat.lt_irrefl _)
      · obtain ⟨e, he⟩ := sortedAll_at s.heap us' out
        exact ⟨e, by rw [he]⟩
theorem OpM.index {xs : List Str} {x : Str} {j : Nat} (hj : j < xs.length) (hz : xs.length ≤ 1000) (he : xs.findIdx (fun y => decide (y = x)) = j) : OpM prog w M h k "index" (.lst (xs.map D.str)) [.str x] [] (.int j) := by
  refine OpM.builtin (T := "list") (fun s v _ r => by
    cases r using Rd.lstE with
    | lst n hl hr => exact ⟨hl.isList.typeIs, fun a e => by cases e; obtain ⟨c, ho⟩ := hl; exact ⟨_, ho, rfl⟩⟩) F.plainAttrs_list F.slot_list_index F.type_list_index ?_
  refine .of fun A s vs us rm kp r1 r2 => ?_
  cases r2 using RdL.nilE
  cases r1 using RdL.consE with
  | cons r r' => cases r' using RdL.consE with
    | cons q q' =>
      cases q' using RdL.nilE
      cases q using Rd.strE0
      rename_i t
      cases r using Rd.lstE with
      | @lst a us' _ n hl hr =>
        have e := hr.length
        rw [List.length_map] at e
        obtain ⟨c, ho⟩ := id hl
        have hu : A.in1.units + 1 < cLine := by have := rm.units; have : cLine = 9900 := rfl; show A.units + 1 + 1 < _; lia
        have at_ : ∀ m (hm : m < us'.toArray.size), ∃ t', us'.toArray[m] = .str (xs.getD m Str.empty) t' := fun m hm => by
          have hm' : m < xs.length := by simp at hm; lia
          obtain ⟨v, hv, rv⟩ := hr.get (i := m) (d := .str (xs.getD m Str.empty)) (by rw [List.getElem?_map, List.getElem?_eq_getElem hm']; simp [List.getD, hm'])
          have : us'.toArray[m] = v := by
            have : us'[m]? = some v := hv
            simpa using (List.getElem?_eq_some_iff.mp this).2
          cases rv using Rd.strE0
          exact ⟨_, this⟩
        let eqx : Value → Bool := fun v => match v with | .str y _ => decide (y = x) | _ => false
        refine call_meets PySem.F.slot_list_index hl.isList.typeIs PySem.F.entry_list_index (PySem.F.args_list_index_2 _ _)
          (SeqAt.list_indexAt a us'.toArray c none #[] (.str x t) eqx j (by simp; lia) (by lia) ?_ ?_) ⟨ho, fun y hy => ?_, Kp.tok s _, .int _ _⟩
        · obtain ⟨t', et⟩ := at_ j (by simp; omega)
          rw [et]
          show decide (xs.getD j Str.empty = x) = true
          have := List.findIdx_getElem (xs := xs) (p := fun y => decide (y = x)) (w := by rw [he]; exact hj)
          simp only [he] at this
          simpa [List.getD, hj] using this
        · intro m hm hlt
          obtain ⟨t', et⟩ := at_ m hm
          rw [et]
          show decide (xs.getD m Str.empty = x) = false
          have hm' : m < xs.length := by simp at hm; omega
          have := List.not_of_lt_findIdx (xs := xs) (p := fun y => decide (y = x)) (i := m) (by rw [he]; exact hlt)
          simpa [List.getD, hm'] using this
        · obtain ⟨m, hm, rfl⟩ := Array.mem_iff_getElem.mp hy
          obtain ⟨t', et⟩ := at_ m hm
          rw [et]
          exact EqOk.str (M := M) A.in1 s _ _ _ _ hu (.str _ _) (.str _ _)
theorem item_lstR {value slice : Expr} {ds : List D} {i : Int} {d : D} (hs : NoSlice slice = true) (h0 : 0 ≤ i) (e : ds[i.toNat]? = some d) (hb : i ≤ 1000) : Op2 prog w M h k (subscriptTail value slice) (.lst ds) (.int i) d := .of fun A s u v rm kp r1 r2 => by
  cases r2 using Rd.intE with
  | int _ t =>
    cases r1 using Rd.lstE with
    | lst hm' hl hr =>
      obtain ⟨y, hy, ry⟩ := hr.get e
      exact subscriptTail_builtinR (x := y) hl.isList.typeIs slot_list_getitem.lookup (wpAny_getItem_list hl.isList (by omega) (by lia) (by simpa using hy) ⟨rfl, Kp.refl s, ry⟩) (subscripted_plain hs)
theorem seq_at {i : Int} {n : Nat} (h0 : 0 ≤ i) (h : i.toNat < n) : seqIndex? i n = some i.toNat := by
  unfold seqIndex?
  have h1 : ¬ i < 0 := by lia
  have h2 : ¬ i ≥ n := by lia
  simp [h1, h2]
theorem tup_itemR {value slice : Expr} {ds : List D} {i : Int} {d : D} (hs : NoSlice slice = true) (h0 : 0 ≤ i) (e : ds[i.toNat]? = some d) (hb : i ≤ 1000) : Op2 prog w M h k (subscriptTail value slice) (.tup ds) (.int i) d := .of fun A s u v rm kp r1 r2 => by
  cases r2 using Rd.intE with
  | int _ t =>
    cases r1 using Rd.tupE with
    | @tup a vs _ hm' hl hr =>
      obtain ⟨y, hy, ry⟩ := hr.get e
      obtain ⟨c, ho⟩ := id hl
      have hlt : i.toNat < vs.length := (List.getElem?_eq_some_iff.mp hy).1
      exact subscriptTail_builtinR (x := y) (T := "tuple") ⟨_, ho, rfl⟩ PySem.F.slot_tuple_getitem.lookup (PyProof.Rows.getItem_tuple (j := i.toNat) hl.isTup (by lia) (by lia) (seq_at h0 (by simpa using hlt)) (by simpa using hy) ⟨rfl, Kp.refl s, ry⟩) (subscripted_plain hs)
theorem run_assign2s {x y : Str} {p p' q pos : Pos} {n : Nat} {e : Expr} {rest : List Stmt} {d d' : D} {Q : Flow → Shared → Prop} (R : Run K s₀ W M env vm s) (rm : Room k A) (pe : PE prog w M s.heap k (eval e env) (.tup [d, d'])) (hx : KindOk env x) (hy : KindOk env y)
    (hs : swapsWith e (some (.Tuple [.Name x p, .Name y p'] n q)) pos.line env = pure false) (hsw : swappedStores [.Tuple [.Name x p, .Name y p'] n q] e env = pure (some [x, y]))
    (nx : ∀ s', Run K s₀ W M env ((x, d) :: (y, d') :: vm) s' → Ext (Own env) s.heap s'.heap → Go (model prog w) A (execs rest env) Q E s') :
    Go (model prog w) A (execs (.Assign [.Tuple [.Name x p, .Name y p'] n q] e pos :: rest) env) Q E s := by
  refine .of (wpAny_execs_cons ?_)
  show wpAny _ _ (do
    standAt pos
    if ← swapsWith e (some (.Tuple [.Name x p, .Name y p'] n q)) pos.line env then do
      evalThenUse e env fun v => assignAll v ((assignEach [.Tuple [.Name x p, .Name y p'] n q] env).map (·.2))
      pure .next
    else do
      let v ← eval e env
      assignStores env v (← swappedStores [.Tuple [.Name x p, .Name y p'] n q] e env) ((assignEach [.Tuple [.Name x p, .Name y p'] n q] env).map (·.2))) _ _ _
  refine wpAny_bind (wpAny_standAt (wpAny_bind (wpAny_of_eq hs ?_)))
  rw [if_neg Bool.false_ne_true]
  refine wpAny_bind (pe.use rm (Keep.refl _) fun v s1 k1 r1 => wpAny_bind (wpAny_of_eq hsw ?_))
  unfold assignStores
  have R1 := R.pure k1
  refine wpAny_bind (wpAny_rule ?_)
  cases r1 using Rd.tupE with
  | @tup a vs _ nm ht hr =>
    obtain ⟨v1, v2, rfl, r1, r2⟩ : ∃ v1 v2, vs = [v1, v2] ∧ Rd M s1.heap v1 d ∧ Rd M s1.heap v2 d' := by
      cases hr using RdL.consE with | cons x r => cases r using RdL.consE with | cons y r => cases r using RdL.nilE; exact ⟨_, _, rfl, x, y⟩
    refine wpAny_bind (unpackItems_tuple (items := #[v1, v2]) rm.handled ht.isTup fun h₁ he => ?_)
    have k2 : Keep s1.heap h₁ := keep_extBut he (get_size _)
    have R2 := R1.pure (Kp.hp s1 h₁ k2)
    refine wpAny_bind ?_
    show wpAny _ _ (assignInOrder [fun v => bindName env y v, fun v => bindName env x v] [v2, v1]) _ _ _
    unfold assignInOrder
    refine wpAny_bind (wpAny_holding (wpAny_bindName (run_store R2 (r2.keep k2) hy fun s3 R3 e3 => ?_)))
    unfold assignInOrder
    refine wpAny_bind (wpAny_holding (wpAny_bindName (run_store R3 ((r1.keep k2).ext (e3.mono fun a o => ?_)) hx fun s4 R4 e4 => ?_)))
    · rcases o with rfl | ⟨z, o⟩
      · exact R.fm.inL
      · exact R.fm.inC z a o
    · unfold assignInOrder
      exact wpAny_pure (wpAny_pure (nx s4 R4 (k1.heap.ext.trans (k2.ext.trans (e3.trans e4)))).run)
end
end Mine
set_option linter.unusedVariables false
namespace Mine
open PySem PySem.W PySem.Calls PyProof.Rows PySem.Spec
section
variable {prog : Program} {w : World} {K : Frag} {M : Addr → Prop} {h : Heap} {k : Nat} {env : Env} {vm : List (Str × D)}
structure CSX (K : Frag) (A : Around) (s₀ : Shared) (W : Addr → Prop) (env : Env) (D₀ : Addr) (out : List D) (vm : List (Str × D)) (s : Shared) : Prop where
  kp : XK A s₀ s
  sc : Sc K W s.heap
  fm : Fm W env vm s.heap
  wD : W D₀
  fresh : s₀.heap.get? D₀ = none
  acc : ∃ vs, s.heap.PlainList D₀ vs.toArray ∧ RdL W s.heap vs out ∧ out.length ≤ 100000
theorem CS.x {A : Around} {s₀ s : Shared} {W : Addr → Prop} {D₀ : Addr} {out : List D} (C : CS K s₀ W env D₀ out vm s) : CSX K A s₀ W env D₀ out vm s := ⟨.of C.kp, C.sc, C.fm, C.wD, C.fresh, C.acc⟩
theorem frL_some {A : Around} {N : Addr → Prop} {h : Heap} (F : Frs A N h) {b : Addr} (hb : b ∈ frL A) : (h.get? b).isSome = true := by
  obtain ⟨_, m, o, _, _, ho, _⟩ := F.mem hb
  rw [ho]; rfl
theorem Sc.xk {A : Around} {W : Addr → Prop} {s s' : Shared} (S : Sc K W s.heap) (F : Frs A W s.heap) (x : XK A s s') : Sc K W s'.heap :=
  S.ext (x.extM F) fun a m => by
    have := S.alive a m
    obtain ⟨o, ho⟩ := Option.isSome_iff_exists.mp this
    by_cases hb : a ∈ frL A
    · exact frL_some (x.frs F) hb
    · rw [x.ext a o hb ho]; rfl
theorem Fm.xk {A : Around} {W : Addr → Prop} {s s' : Shared} (F : Fm W env vm s.heap) (Fr : Frs A W s.heap) (x : XK A s s') : Fm W env vm s'.heap := by
  have ext := x.extM Fr
  refine ⟨F.kind, F.inL, F.inC, ?_, fun z c e => ?_, F.celK, F.apart, F.vis⟩
  · obtain ⟨m, hn, hm⟩ := F.loc
    refine ⟨m, ?_, fun z d a b => let ⟨v, e, r⟩ := hm z d a b; ⟨v, e, r.ext ext⟩⟩
    by_cases hb : env.locals ∈ frL A
    · exact ns_slots hn (x.up _ hb)
    · obtain ⟨o, es, ep, ho, r⟩ := hn
      exact ⟨o, es, ep, x.ext _ _ hb ho, r⟩
  · obtain ⟨ov, ⟨o, ho, hd⟩, hv⟩ := F.cel z c e
    refine ⟨ov, ⟨o, x.ext c o (fun hb => ?_) ho, hd⟩, fun d q => let ⟨v, e, r⟩ := hv d q; ⟨v, e, r.ext ext⟩⟩
    obtain ⟨_, m, o', _, _, ho', hd', _⟩ := Fr.mem hb
    rw [ho] at ho'; cases ho'; rw [hd] at hd'; cases hd'
theorem loop_turnsX {R : Result → Shared → Prop} {A : Around} {e : Expr} {i : Nat} {p : Pos} {tgt : Expr} {ifs : List Expr} {act : Sem PUnit} {it acc : Value} {I D₀ : Addr} {s₀ s₁ : Shared} {W : Addr → Prop} {ds : List D} {f : D → List D} {out : List D} {h₁ : Heap}
    (hc : (Code.compLoop e i it acc env).quiet = true)
    (hden : ∀ s Q E, wpAny (model prog w) A (turnT p tgt ifs env it act (.compLoop e i it acc env)) Q (fun _ _ => False) s → wpAny (model prog w) (A.under (.compLoop e i it acc env)) ((model prog w).den (.compLoop e i it acc env)) Q E s)
    (hit : it = .ref I) (rm : Room k A) (J : It prog w A W h₁ s₁.heap I ds) (f0 : s₀.heap.get? I = none) (nW : ¬ W I) (nK : K.lookup I = none) (nB : I ≠ builtinsNs) (nS : I ≠ cStatics)
    (Fr₀ : Frs A W s₀.heap) (C₁ : CSX K A s₀ W env D₀ out vm s₁) (hlen : (out ++ ds.flatMap f).length ≤ 100000)
    (hbody : ∀ d v s out, d ∈ ds → CSX K A s₀ W env D₀ out vm s → Rd W s.heap v d → (out ++ f d).length ≤ 100000 →
      wpAny (model prog w) A (assign tgt env v) (fun _ s2 => wpAny (model prog w) A (forIn ifs true fun c r => if r = true then do let ok ← isTrue c env (eval c env); pure (ForInStep.yield ok) else pure (ForInStep.yield r))
        (fun ok s3 => if ok = true then wpAny (model prog w) A act (fun _ s4 => CSX K A s₀ W env D₀ (out ++ f d) vm s4 ∧ Ext W s.heap s4.heap) NoE s3 else CSX K A s₀ W env D₀ (out ++ f d) vm s3 ∧ Ext W s.heap s3.heap) NoE s2) NoE s)
    (done : ∀ s', CSX K A s₀ W env D₀ (out ++ ds.flatMap f) vm s' → (∀ b o, b ≠ I → ¬ W b → s₁.heap.get? b = some o → s'.heap.get? b = some o) → R (.ok .next) s') :
    codeAny (model prog w) A (.compLoop e i it acc env) R s₁ :=
  loop_turnsG (Cs := fun out s => CSX K A s₀ W env D₀ out vm s) hc hden hit rm J nW (fun s h' tk oI fs out hoI hdI nsI he' C => by
    obtain ⟨⟨⟨hx, tx, hs⟩, kk, ku⟩, sc, fm, wD, fr, vs, hl, hr, hz⟩ := C
    refine ⟨⟨⟨h', tk, by subst hs; rfl⟩, fun b o n q => he' b o (fun z => by rw [z, f0] at q; cases q) (kk b o n q), fun b n o q hd => by
      obtain ⟨sl, hs⟩ := ku b n o q hd
      exact ⟨sl, he' b _ (fun z => by rw [z, f0] at q; cases q) hs⟩⟩, sc.iter he' nW nK nB nS, fm.iter he' hoI hdI nsI, wD, fr, vs, ?_, ?_, hz⟩
    · exact hl.at fun o q => he' _ o (fun z => nW (z ▸ wD)) q
    · exact RdL.iter he' (fun o' z => by rw [hoI] at z; cases z; exact nsI) hr) C₁ hlen hbody done
theorem comp1_pipeX {A : Around} {s : Shared} {Q : Value → Shared → Prop} {E : Value → Shared → Prop} {use : Option (Value → Sem Unit)} {elt tgt iter : Expr} {scope : Scope} {p : Pos} {src : D} {ds : List D} {vmF : List (Str × D)} {bs : D → List (Str × D)} {g : D → D}
    (S : Sc K M h) (F : Fm M env vm h) (Fr : Frs A M h) (O : CompOk scope env) (hi : PE prog w M h k (eval iter env) src) (hit : OpIter prog w M h k src ds)
    (hvm : ∀ x d, vmF.lookup x = some d → vm.lookup x = some d ∧ scope.names.lookup x = some .free)
    (hasg : ∀ d ∈ ds, ∀ C, Asg prog w K k (cenvOf scope env C) (fun a => a = C) tgt d (bs d)) (hbs : ∀ d ∈ ds, ∀ x e, vmF.lookup x = some e → (bs d).lookup x = none)
    (hitem : ∀ d ∈ ds, ∀ W s' C, (∀ a, M a → W a) → Sc K W s'.heap → Fm W (cenvOf scope env C) (bs d ++ vmF) s'.heap → Frs A W s'.heap → wpAny (model prog w) A (eval elt (cenvOf scope env C)) (fun v s2 => XK A s' s2 ∧ Rd W s2.heap v (g d)) NoE s')
    (hlen : ds.length ≤ 1000)
    (hfold : ∀ x, foldedSetIterable iter env x = pure x)
    (rm : Room k A) (kp : Keep h s.heap)
    (hfin : ∀ s₁ C D₀ s', Kp s s₁ → D₀ ≠ C → s₁.heap.get? C = none → s₁.heap.get? D₀ = none → CSX K A s₁ (Wof M C D₀) (cenvOf scope env C) D₀ (ds.map g) vmF s' → compPost (model prog w) A E use Q (.ref D₀) C (.ok .next) s') :
    wpAny (model prog w) A (comprehension (.ListComp elt [⟨tgt, iter, [], 0⟩] scope p) scope env (firstIterPos [⟨tgt, iter, [], 0⟩] p) (newList []) false (eval iter env) use) Q E s := by
  refine wpAny_comprehension_free (use := use) rfl hfold (closure_is fun y hy e => (O.free y hy e).1) O.kind O.names (hi.use rm kp fun xv s₁ k1 r1 => ?_)
  refine wpAny_mono (hit.go A s₁ xv rm (kp.trans k1.heap) r1) (fun it s₂ q => ?_) fun _ _ f => f.elim
  obtain ⟨k2, I, rfl, J⟩ := q
  have S1 := S.keep (kp.trans k1.heap)
  have F1 := F.keep (kp.trans k1.heap)
  have Fr1 := Fr.keep (kp.trans k1.heap)
  refine comp_blockX (Fin := fun C D₀ s' => CSX K A s₁ (Wof M C D₀) (cenvOf scope env C) D₀ (ds.map g) vmF s') (RR := fun acc C => compPost (model prog w) A E use Q acc C) rm S1 F1 O k2 J hvm ?_ ?_ ?_
  · intro C D₀ R s' _ hl hself hk
    exact codeAny_compStart_list hl (hself _ _ _ hk hl)
  · intro C D₀ R s₃ hDC hlive hIC hID C3 J3 hdone
    have f0 : s₁.heap.get? I = none := J.fresh
    have nof := S1.newOff f0
    have hfl : ds.flatMap (fun d => [g d]) = ds.map g := flatMap_one g ds
    have FrW : Frs A (Wof M C D₀) s₁.heap := Fr1.at (fun a m => .inl m) fun b _ m hn => hn
    refine loop_turnsX (f := fun d => [g d]) (act := (do let _ ← PySem.call (.builtin "list.append") [.ref D₀, ← eval elt (cenvOf scope env C)])) (p := iter.pos) (tgt := tgt) (ifs := []) (out := []) rfl ?_ rfl rm J3 f0 ?_ nof.2.1 nof.2.2.1 nof.2.2.2 FrW C3.x (by rw [hfl]; simp; lia) ?_ (fun s' C' _ => hdone s' (by rw [hfl] at C'; simpa using C'))
    · intro s' Q E hw
      show wpAny _ A ((compTurn (.ListComp elt [⟨tgt, iter, [], 0⟩] scope p) 0 (.ref I) (.ref D₀) (cenvOf scope env C)).onRaise (fun x => do noteFrame x (cenvOf scope env C); theTreesLotGoes x)) _ _ s'
      refine wpAny_noted ?_
      rw [compTurn_list]
      exact wpAny_mono hw (fun _ _ x => x) fun _ _ f => f.elim
    · rintro (m | m | m)
      · exact nof.1 m
      · exact hIC m
      · exact hID m
    · intro d v s5 out hd C5 rv hle
      refine (hasg d hd C).go (Wof M C D₀) vmF A NoE s5 _ v rm C5.fm C5.sc rv fun h' tk F' S' e' => ?_
      obtain ⟨vs, hl, hr, hz⟩ := C5.acc
      have eW : Ext (Wof M C D₀) s5.heap h' := e'.mono fun a q => .inr (.inl q)
      have nCf : C ∉ frL A := fun hb => by
        have := frL_some Fr1 hb
        exact (hlive C this).1 rfl
      have nDf : D₀ ∉ frL A := fun hb => by
        have := frL_some Fr1 hb
        exact (hlive D₀ this).2 rfl
      have hkp5 : XK A s₁ { s5 with heap := h', toks := tk } := by
        obtain ⟨⟨hx, tx, e5⟩, kk, ku⟩ := C5.kp
        refine ⟨⟨h', tk, by rw [e5]⟩, fun b o n q => e' b o (fun z => ?_) (kk b o n q), fun b n o q hd => ?_⟩
        · exact (hlive b (by rw [q]; rfl)).1 z
        · obtain ⟨sl, h1⟩ := ku b n o q hd
          exact ⟨sl, e' b _ (fun z => nCf (z ▸ n)) h1⟩
      have acc5 : ∃ vs, h'.PlainList D₀ vs.toArray ∧ RdL (Wof M C D₀) h' vs out := ⟨vs, hl.at fun o q => e' _ o hDC q, hr.ext eW⟩
      have vm5 : Fm (Wof M C D₀) (cenvOf scope env C) vmF h' := F'.sub fun x e q => by rw [List.lookup_append, hbs d hd x e q]; exact q
      rw [List.forIn_nil]
      refine wpAny_pure ?_
      rw [if_pos rfl]
      have Fr5 : Frs A (Wof M C D₀) h' := hkp5.frs FrW
      refine wpAny_bind (wpAny_mono (hitem d hd (Wof M C D₀) { s5 with heap := h', toks := tk } C (fun a m => .inl m) S' F' Fr5) (fun v7 s7 q7 => ?_) fun _ _ f => f)
      obtain ⟨k7, r7⟩ := q7
      have S7 := S'.xk Fr5 k7
      have V7 := vm5.xk Fr5 k7
      have x7 : Ext (Wof M C D₀) h' s7.heap := k7.extM Fr5
      obtain ⟨vs6, hl6, hr6⟩ := acc5
      have hl7 : s7.heap.PlainList D₀ vs6.toArray := hl6.at fun o q => k7.ext _ o nDf q
      have hr7 := hr6.ext x7
      have hlen6 := hr6.length
      refine wpAny_bind (wpAny_list_append_plain hl7 (fun h8 hl8 hs8 => wpAny_pure ⟨?_, ?_⟩) ?_)
      · have wD : Wof M C D₀ D₀ := C5.wD
        have e8 : Ext (Wof M C D₀) s7.heap h8 := Ext.sameBut hs8 wD
        have al8 : (h8.get? D₀).isSome = true := by obtain ⟨o, ho⟩ := hl8; rw [ho]; rfl
        have kx := hkp5.trans k7
        obtain ⟨⟨hx, tx, e7⟩, kk, ku⟩ := kx
        refine ⟨⟨⟨h8, tx, by rw [e7]⟩, fun b o n q => hs8.extBut b o (fun z => by rw [z, C5.fresh] at q; cases q) (kk b o n q), fun b n o q hd => ?_⟩, S7.but hs8 wD al8, V7.other hs8 wD hDC ?_, C5.wD, C5.fresh, vs6 ++ [v7], ?_, ?_, hle⟩
        · obtain ⟨sl, h1⟩ := ku b n o q hd
          exact ⟨sl, hs8.extBut b _ (fun z => nDf (z ▸ n)) h1⟩
        · intro x c q z
          obtain ⟨hf1, hf2⟩ := clOf_lookup (fun y hy e => (O.free y hy e).1) q
          exact (hlive c (S1.alive _ (F1.inC x c hf2))).2 z.symm
        · rw [show (vs6 ++ [v7]).toArray = vs6.toArray.push v7 by simp]; exact hl8
        · exact (hr7.append (.cons r7 .nil)).ext e8
      · exact (eW.trans x7).trans (Ext.sameBut hs8 C5.wD)
      · rw [List.size_toArray, sizeLine_eq]; lia
  · intro C D₀ s' hDC fC fD C'
    exact hfin s₁ C D₀ s' k1 hDC fC fD C'
theorem comp_assignedX {x : Str} {p : Pos} {Q : Unit → Shared → Prop} {E : Value → Shared → Prop} {A₀ A : Around} {N : Addr → Prop} {s₀ s s₁ s' : Shared} {C D₀ : Addr} {out : List D} {vmF : List (Str × D)} {cenv : Env}
    (R : RunX K A₀ s₀ N env vm s) (Fa : Fra A₀ A M env s₀) (Fr : Frs A N s.heap) (hk : KindOk env x) (k1 : Kp s s₁) (hDC : D₀ ≠ C) (fC : s₁.heap.get? C = none) (fD : s₁.heap.get? D₀ = none) (hcl : cenv.locals = C) (C' : CSX K A s₁ (Wof N C D₀) cenv D₀ out vmF s')
    (nx : ∀ s', RunX K A₀ s₀ N env ((x, .lst out) :: vm) s' → Ext (fun a => Own env a ∨ a ∈ frL A) s.heap s'.heap → Q () s') :
    wpAny (model prog w) A (assign (.Name x p) env (.ref D₀)) (fun _ s'' => ∃ m, s''.heap.Ns C m ∧ ∀ h', Heap.SameBut C s''.heap h' → Q () { s'' with heap := h' }) E s' := by
  have S1 := R.run.sc.keep k1.heap
  have F1 := R.run.fm.keep k1.heap
  have Fr1 := Fr.keep k1.heap
  have kk := C'.kp
  obtain ⟨m, hn, _⟩ := C'.fm.loc
  rw [hcl] at hn
  have aC : (s'.heap.get? C).isSome = true := by obtain ⟨o, _, _, ho, _⟩ := hn; rw [ho]; rfl
  have off := S1.newOff fC
  let N' : Addr → Prop := fun a => N a ∨ a = C
  have hsw : ∀ a, (s₁.heap.get? a).isSome = true → ¬ N a → ¬ N' a := fun a ha hm hN => hN.elim hm fun z => by rw [z, fC] at ha; cases ha
  have FrN : Frs A N' s₁.heap := Fr1.at (fun a m => .inl m) fun b _ m hn => hn
  have FN : Fm N' env vm s'.heap := (F1.swap hsw (.inl F1.inL) fun y c e => .inl (F1.inC y c e)).xk FrN kk
  have SN : Sc K N' s'.heap := by
    have S' := S1.xk Fr1 kk
    exact ⟨S'.inn, S'.bns, S'.lim, S'.dig, fun a z => z.elim (S'.alive a) (fun e => e ▸ aC), fun a z => z.elim (S'.offK a) (fun e => e ▸ off.2.1), fun z => z.elim S'.offB (fun e => off.2.2.1 e.symm), fun z => z.elim S'.offS (fun e => off.2.2.2 e.symm)⟩
  have rN : Rd N' s'.heap (.ref D₀) (.lst out) := by
    obtain ⟨vs, hl, hr, _⟩ := C'.acc
    refine .lst (fun z => z.elim (S1.dead fD) hDC) hl (hr.swap fun a _ hm hN => hm ?_)
    exact hN.elim .inl fun e => .inr (.inl e)
  have hCL : C ≠ env.locals := fun z => off.1 (z ▸ F1.inL)
  have hCC : ∀ y c, env.cells.lookup y = some c → C ≠ c := fun y c e z => off.1 (z ▸ F1.inC y c e)
  refine wpAny_assign_Name (FN.store SN rN hk.1 hk.2 fun h'' tk F2 S2 e2 => ?_)
  have hSt : ¬ Sto env x C := by
    rintro (⟨_, z⟩ | ⟨_, z⟩)
    · exact hCL z
    · exact hCC _ _ z rfl
  have hnC : h''.Ns C m := ns_ext hn e2 hSt
  refine ⟨m, hnC, fun h' hs => ?_⟩
  have F3 := F2.other hs (.inr rfl) hCL hCC
  have F4 : Fm N env ((x, .lst out) :: vm) h' := F3.swap (fun a _ hN hM => hN (.inl hM)) F1.inL F1.inC
  have S4 : Sc K N h' := by
    have : Sc K N h'' := S2.sub fun a z => .inl z
    exact this.iter (I := C) (fun b o hb q => by rw [hs.2 b hb]; exact q) off.1 off.2.1 off.2.2.1 off.2.2.2
  have notC : ∀ b o, s.heap.get? b = some o → b ≠ C := fun b o q z => by rw [z] at q; have := k1.heap _ _ q; rw [fC] at this; cases this
  have ex : Ext (fun a => Own env a ∨ a ∈ frL A) s.heap h' := fun b o nb q =>
    hs.extBut b o (notC b o q) (e2 b o (fun z => nb (.inl (own_sto z))) (kk.ext b o (fun z => nb (.inr z)) (k1.heap b o q)))
  refine nx _ ?_ ex
  obtain ⟨⟨hA, tA, eA⟩, _, _⟩ := kk
  obtain ⟨⟨hB, tB, eB⟩, _⟩ := k1
  obtain ⟨⟨⟨hR, tR, eR⟩, Rk, _, _, Ro⟩, Ru⟩ := R
  have own0 : ∀ a, Own env a → s₀.heap.get? a = none := Ro
  refine ⟨⟨⟨h', tk, by rw [eA, eB, eR]⟩, fun b o n q => ex b o (fun z => ?_) (Rk b o n q), S4, F4, own0⟩, fun b hb o q hd => ?_⟩
  · rcases z with z | z
    · rw [own0 b z] at q; cases q
    · rw [Fa.frL] at z
      rcases List.mem_cons.mp z with z | z
      · rw [own0 b (.inl z)] at q; cases q
      · exact n z
  · obtain ⟨sl, h1⟩ := Ru b hb o q hd
    have h2 : s₁.heap.get? b = some { o with slots := sl } := by
      have := ‹Keep s.heap s₁.heap›
      exact this _ _ h1
    obtain ⟨sl', h3⟩ := C'.kp.up b (by rw [Fa.frL]; exact List.mem_cons_of_mem _ hb) _ h2 hd
    refine ⟨sl', hs.extBut b _ (notC b _ h1) (e2 b _ (fun z => ?_) h3)⟩
    rw [own0 b (own_sto z)] at q; cases q
theorem run_assign_compX {x : Str} {px pos p : Pos} {elt tgt iter : Expr} {scope : Scope} {src : D} {ds : List D} {vmF : List (Str × D)} {bs : D → List (Str × D)} {g : D → D} {rest : List Stmt} {Q : Flow → Shared → Prop} {E : Value → Shared → Prop} {A₀ A : Around} {N : Addr → Prop} {s₀ s : Shared}
    (R : RunX K A₀ s₀ N env vm s) (Fa : Fra A₀ A M env s₀) (Fr : Frs A N s.heap) (rm : Room k A) (hk : KindOk env x) (O : CompOk scope env) (hi : PE prog w N s.heap k (eval iter env) src) (hit : OpIter prog w N s.heap k src ds)
    (hvm : HV vm scope vmF)
    (hasg : ∀ d ∈ ds, ∀ C, Asg prog w K k (cenvOf scope env C) (fun a => a = C) tgt d (bs d)) (hbs : ∀ d ∈ ds, ∀ x e, vmF.lookup x = some e → (bs d).lookup x = none)
    (hitem : ∀ d ∈ ds, ∀ W s' C, (∀ a, N a → W a) → Sc K W s'.heap → Fm W (cenvOf scope env C) (bs d ++ vmF) s'.heap → Frs A W s'.heap → wpAny (model prog w) A (eval elt (cenvOf scope env C)) (fun v s2 => XK A s' s2 ∧ Rd W s2.heap v (g d)) NoE s')
    (hlen : ds.length ≤ 1000)
    (hs : swapsWith (.ListComp elt [⟨tgt, iter, [], 0⟩] scope p) (some (.Name x px)) pos.line env = pure true)
    (nx : ∀ s', RunX K A₀ s₀ N env ((x, .lst (ds.map g)) :: vm) s' → Ext (fun a => Own env a ∨ a ∈ frL A) s.heap s'.heap → Go (model prog w) A (execs rest env) Q E s')
    (hfold : ∀ x, foldedSetIterable iter env x = pure x := by intro _; rfl) :
    Go (model prog w) A (execs (.Assign [.Name x px] (.ListComp elt [⟨tgt, iter, [], 0⟩] scope p) pos :: rest) env) Q E s := by
  refine .of (wpAny_execs_cons ?_)
  rw [exec_Assign_Name_used _ _ _ _ hs]
  refine wpAny_bind (wpAny_standAt (wpAny_bind ?_))
  show wpAny _ A (do let _ ← comprehension (.ListComp elt [⟨tgt, iter, [], 0⟩] scope p) scope env _ (newList []) false (eval iter env) (some (assign (.Name x px) env))) _ _ s
  refine wpAny_bind (wpAny_mono (comp1_pipeX (Q := fun _ s' => wpAny (model prog w) A (execs rest env) Q E s') (use := some (assign (.Name x px) env)) R.run.sc R.run.fm Fr O hi hit hvm.go hasg hbs hitem hlen hfold rm (Keep.refl _) fun s₁ C D₀ s' k1 hDC fC fD C' => ?_) (fun _ s' hq => wpAny_pure (wpAny_pure hq)) fun _ _ e => e)
  exact comp_assignedX (Q := fun _ s' => wpAny (model prog w) A (execs rest env) Q E s') R Fa Fr hk k1 hDC fC fD rfl C' fun s' R' e' => (nx s' R' e').run
end
end Mine
namespace Mine
open PySem PySem.W PySem.Calls PyProof.Rows PySem.Spec Q
local macro_rules | `(tactic| wtm_at "LOOK") => `(tactic| first
  | with_reducible exact look_hd
  | (with_reducible apply look_tl); kernel_rfl!; wtm_at "LOOK")
local macro_rules | `(tactic| wtm_at "KIND") => `(tactic| first
  | (refine EnvIs.kindOf (by assumption) ?_; kernel_rfl!)
  | (refine kind_comp_glob ?_; kernel_rfl!))
local macro_rules | `(tactic| wtm_at "ENVOK") => `(tactic| first
  | assumption
  | exact EnvOk.fn rfl rfl rfl
  | (refine EnvOk.comp ?_ rfl; wtm_at "ENVOK"))
local macro_rules | `(tactic| wtm_at "OP2") => `(tactic| first
  | (with_reducible first | exact Op2.add_int | exact Op2.sub_int | exact Op2.lt_int | exact Op2.le_int | exact Op2.ge_int | exact Op2.eq_int | exact Op2.ne_int | exact Op2.ne_str | exact Op2.in_str)
  | ((with_reducible apply Op2.mod_int); decide)
  | ((with_reducible apply Op2.div_int) <;> decide)
  | ((with_reducible apply Op2.add_str); wtm_at "LN"; wtm_at "LN"; kernel_rfl!)
  | ((with_reducible apply Op2.mul_str); wtm_at "LN"; kernel_rfl!; decide; decide)
  | wtm_at "OP2M")
local macro_rules | `(tactic| wtm_at "OP2M") => `(tactic| first
  | ((with_reducible apply Op2.item_mod); rfl; decide; decide +kernel; decide)
  | ((with_reducible apply item_strL); wtm_at "STRS"; rfl; rfl; decide; decide +kernel; decide))
local macro_rules | `(tactic| wtm_at "STRS") => `(tactic| repeat (with_reducible first | exact StrsAre.nil | apply StrsAre.cons))
local macro_rules | `(tactic| wtm_at "LN") => `(tactic| with_reducible first
  | assumption
  | exact Ln.sign
  | (apply Ln.app <;> wtm_at "LN")
  | (apply Ln.mul; wtm_at "LN")
  | exact Ln.getD
  | exact Ln.lit)
local macro_rules | `(tactic| wtm_at "CALLB") => `(tactic|
  ((with_reducible apply PE.callF); (with_reducible apply glob_bi); wtm_at "ENVOK"; assumption; (with_reducible first | exact n_range _ | exact n_str _); (with_reducible first | exact b_range | exact b_str); decide; wtm_at "KIND";
    kernel_rfl!; exact keep_ty; wtm_at "PLS"; exact PKw.nil; (first | exact OpN.range1 (by assumption) | exact OpN.range2 (by assumption) | exact OpN.str_int (by first | assumption | omega)); rfl))
local macro_rules | `(tactic| wtm_at "CALLU") => `(tactic| fail)
local macro_rules | `(tactic| wtm_at "PLS") => `(tactic| first
  | exact PLs.nil
  | ((with_reducible apply PLs.cons); wtm_at "PE"; wtm_at "PLS"; rfl))
local macro_rules | `(tactic| wtm_at "PKW") => `(tactic| first
  | exact PKw.nil
  | ((with_reducible apply PKw.cons) <;> first | wtm_at "PE" | wtm_at "PKW"))
local macro_rules | `(tactic| wtm_at "PE") => `(tactic| first
  | (with_reducible first | exact PE.lit_int | exact PE.lit_str | exact PE.lit_bytes | exact PE.none' | exact PE.true')
  | ((with_reducible apply PE.nameF (by assumption)); wtm_at "LOOK"; kernel_rfl!)
  | ((with_reducible first | apply PE.op2 | apply PE.sub); wtm_at "PE"; wtm_at "PE"; wtm_at "OP2")
  | ((with_reducible apply PE.unop); wtm_at "PE"; exact Op1.neg_int)
  | ((with_reducible first | apply PE.tuple (by assumption) | apply PE.list (by assumption)); wtm_at "PLS"; exact Nat.le_of_ble_eq_true (by kernel_rfl!))
  | wtm_at "CALLU"
  | wtm_at "CALLB")
section
set_option linter.unusedVariables false
open PySem PySem.W PySem.Calls PyProof.Rows PySem.Spec
section
variable {w : World} {M : Addr → Prop} {h : Heap} {k : Nat} {env : Env} {vm : List (Str × D)}
noncomputable def quo1 (v : Str) : Str := Txt.replace v (Str.ofString "\\") (Str.ofString "\\\\")
noncomputable def quo2 (v : Str) : Str := Txt.replace (quo1 v) (Str.ofString "\"") (Str.ofString "\\\"")
noncomputable def pairOf (a v : Str) : Str := Str.empty ++ a ++ Str.ofString "=\"" ++ quo2 v ++ Str.ofString "\""
theorem fn_formatparam {a v : Str} (ha : a.length ≤ 1000) (hv : v.length ≤ 1000) (h0 : v.length ≠ 0) (h1 : (quo1 v).length ≤ 1000) (h2 : (quo2 v).length ≤ 1000) : FnP PP w (FK w) 125 [.str a, .str v] [] (.str (pairOf a v)) (k + 1) := by
  refine FnP.by (names := ["param", "value", "quote"]) (bds := [.str a, .str v, .int 1]) (by with_unfolding_all rfl) rfl (by kernel_rfl!) ⟨rfl, rfl, rfl, rfl, by decide +kernel, by decide +kernel, by decide +kernel, by decide +kernel⟩ rfl rfl
    (fun M s vs us S r1 r2 => by obtain ⟨_, _, rfl, a, b⟩ := rdl2 r1; cases rdl0 r2; exact ⟨_, binds_K S.inn rfl (T := 118) (by with_unfolding_all rfl) rfl rfl rfl, .cons a (.cons b (.cons (.int _ _) .nil))⟩) rfl ?_
  intro M env A s s₁ I rm R
  simp only [List.zip_cons_cons, List.zip_nil_right] at R
  have O := I.ok rfl
  have S := R.sc
  have F := R.fm
  refine run_ift (n := 0) (c := true) rm (PBt.and2 (PB.cmp (by wtm_at "PE") (by wtm_at "PE") Op2.isNot_none rfl) (PBt.gt_lit (a := (v.length : Int)) (PE.callF (.builtin "len") (glob_bi (by wtm_at "ENVOK") S (n_len _) b_len (by decide) (by wtm_at "KIND")) (by kernel_rfl!) keep_bi (by wtm_at "PLS") PKw.nil (OpN.len_str (by lia)) rfl) (decide_eq_true (by lia)))) (Nat.zero_le _) ?_ (fun e => nomatch e)
  intro _ s2 k2 p2
  have R2 := R.pure k2
  have F2 := R2.fm
  refine run_ift (n := 1) (c := true) rm (PBt.or_one F2 (by wtm_at "LOOK") (by kernel_rfl!)) p2 ?_ (fun e => nomatch e)
  intro _ s3 k3 p3
  have R3 := R2.pure k3
  have F3 := R3.fm
  have S3 := R3.sc
  have b1 : v.length + (v.length + 1) * (Str.ofString "\\\\").length ≤ 16777216 := by rw [show (Str.ofString "\\\\").length = 2 from by decide +kernel]; lia
  have b2 : (quo1 v).length + ((quo1 v).length + 1) * (Str.ofString "\\\"").length ≤ 16777216 := by rw [show (Str.ofString "\\\"").length = 2 from by decide +kernel]; lia
  refine run_assignt (d := .str (quo2 v)) R3 rm (PEt.replace (x := quo1 v) (PEt.replace (PEt.name F3 (by wtm_at "LOOK") (by kernel_rfl!)) (by decide +kernel) b1) (by decide +kernel) b2) p3 (I.kindOk (by kernel_rfl!) (by kernel_rfl!)) (I.swap0 (by with_unfolding_all rfl)) fun s4 R4 e4 => ?_
  have S := R4.sc
  have F := R4.fm
  have l1 : (Str.ofString "=\"").length = 2 := by decide +kernel
  have l2 : (Str.ofString "\"").length = 1 := by decide +kernel
  have l0 : Str.empty.length = 0 := rfl
  exact run_ret' rm (d' := .str (pairOf a v)) (PE.joined (PJ.cons (PE.fmt_s (by wtm_at "PE") (by lia)) (by simp only [strLen_append]; lia) (PJ.cons (by wtm_at "PE") (by simp only [strLen_append]; lia) (PJ.cons (PE.fmt_s (by wtm_at "PE") (by lia)) (by simp only [strLen_append]; lia) (PJ.cons (by wtm_at "PE") (by simp only [strLen_append]; lia) (PJ.nil (by simp only [strLen_append]; omega))))))) (by rfl) fun v s' kp r => pure_ret R4 kp r
end
end
section
set_option linter.unusedVariables false
open PySem PySem.W PySem.Calls PyProof.Rows PySem.Spec Q
section
variable {w : World} {M : Addr → Prop} {h : Heap} {k : Nat} {env : Env} {vm : List (Str × D)}
theorem patQ : PatK (FK w) 43 42 codeQL 1 := ⟨⟨_, _, _, by with_unfolding_all rfl⟩, _, by with_unfolding_all rfl⟩
theorem patN : PatK (FK w) 112 111 codeName 0 := ⟨⟨_, _, _, by with_unfolding_all rfl⟩, _, by with_unfolding_all rfl⟩
theorem patV : PatK (FK w) 117 116 codeValue 0 := ⟨⟨_, _, _, by with_unfolding_all rfl⟩, _, by with_unfolding_all rfl⟩
noncomputable def depthB (b : Array UInt8) : Int := (cntB b 40 : Nat) - (cntB b 41 : Nat)
theorem fn_depth2 {b : Array UInt8} {out : List Nat} {n : Int} (hz : b.size ≤ 8000000) (H : Strip (b.map (·.toNat)) 0 out) : FnP PP w (FK w) 51 [.bytes b, .int n] [] (.int (n + depthB (outB out))) (k + 1) := by
  refine FnP.by (names := ["data", "depth"]) (bds := [.bytes b, .int n]) (by with_unfolding_all rfl) rfl (by kernel_rfl!) ⟨rfl, rfl, rfl, rfl, by decide +kernel, by decide +kernel, by decide +kernel, by decide +kernel⟩ rfl rfl
    (fun M s vs us S r1 r2 => by obtain ⟨_, _, rfl, a, b⟩ := rdl2 r1; cases rdl0 r2; exact ⟨_, binds_K S.inn rfl (T := 44) (by with_unfolding_all rfl) rfl rfl rfl, .cons a (.cons b .nil)⟩) rfl ?_
  intro M env A s s₁ I rm R
  simp only [List.zip_cons_cons, List.zip_nil_right] at R
  have O := I.ok rfl
  have S := R.sc
  have F := R.fm
  refine run_assign R rm (PE.meth (PE.glob (glob_of (by wtm_at "ENVOK") S (g_quoted _) (by wtm_at "KIND")) (by kernel_rfl!)) (by wtm_at "PLS") PKw.nil (OpM.sub S patQ hz H)) (I.kindOk (by kernel_rfl!) (by kernel_rfl!)) (I.swap0 (by with_unfolding_all rfl)) fun s2 R2 e2 => ?_
  have S := R2.sc
  have F := R2.fm
  exact run_ret' rm (d' := .int (n + depthB (outB out))) (PE.op2 (PE.op2 (by wtm_at "PE") (PE.meth (by wtm_at "PE") (by wtm_at "PLS") PKw.nil OpM.count) (by wtm_at "OP2")) (PE.meth (by wtm_at "PE") (by wtm_at "PLS") PKw.nil OpM.count) (by wtm_at "OP2")) (by exact congrArg D.int (by unfold depthB; lia)) fun v s' kp r => pure_ret R2 kp r
theorem fn_depth1 {b : Array UInt8} {out : List Nat} (hz : b.size ≤ 8000000) (H : Strip (b.map (·.toNat)) 0 out) : FnP PP w (FK w) 51 [.bytes b] [] (.int (depthB (outB out))) (k + 1) := by
  refine FnP.by (names := ["data", "depth"]) (bds := [.bytes b, .int 0]) (by with_unfolding_all rfl) rfl (by kernel_rfl!) ⟨rfl, rfl, rfl, rfl, by decide +kernel, by decide +kernel, by decide +kernel, by decide +kernel⟩ rfl rfl
    (fun M s vs us S r1 r2 => by obtain ⟨_, rfl, a⟩ := rdl1 r1; cases rdl0 r2; exact ⟨_, binds_K S.inn rfl (T := 44) (by with_unfolding_all rfl) rfl rfl rfl, .cons a (.cons (.int _ _) .nil)⟩) rfl ?_
  intro M env A s s₁ I rm R
  simp only [List.zip_cons_cons, List.zip_nil_right] at R
  have O := I.ok rfl
  have S := R.sc
  have F := R.fm
  refine run_assign R rm (PE.meth (PE.glob (glob_of (by wtm_at "ENVOK") S (g_quoted _) (by wtm_at "KIND")) (by kernel_rfl!)) (by wtm_at "PLS") PKw.nil (OpM.sub S patQ hz H)) (I.kindOk (by kernel_rfl!) (by kernel_rfl!)) (I.swap0 (by with_unfolding_all rfl)) fun s2 R2 e2 => ?_
  have S := R2.sc
  have F := R2.fm
  exact run_ret' rm (d' := .int (depthB (outB out))) (PE.op2 (PE.op2 (by wtm_at "PE") (PE.meth (by wtm_at "PE") (by wtm_at "PLS") PKw.nil OpM.count) (by wtm_at "OP2")) (PE.meth (by wtm_at "PE") (by wtm_at "PLS") PKw.nil OpM.count) (by wtm_at "OP2")) (by exact congrArg D.int (by unfold depthB; lia)) fun v s' kp r => pure_ret R2 kp r
end
end
section
set_option linter.unusedVariables false
open PySem PySem.W PySem.Calls PyProof.Rows PySem.Spec Q
section
variable {w : World} {M : Addr → Prop} {h : Heap} {k : Nat} {env : Env} {vm : List (Str × D)}
noncomputable def Good (x : Str) : Prop := Plain x ∧ x.length ≤ 1000
theorem fn_conv {d0 : D} {x : Str} {b : Bool} (hx : Good x) : FnP PP w (FK w) 147 [d0, .str x] [("name", .bool b)] (.str x) (k + 1) := by
  refine FnP.by (names := ["self", "value", "name"]) (bds := [d0, .str x, .bool b]) (by with_unfolding_all rfl) rfl (by kernel_rfl!) ⟨rfl, rfl, rfl, rfl, by decide +kernel, by decide +kernel, by decide +kernel, by decide +kernel⟩ rfl rfl
    (fun M s vs us S r1 r2 => by obtain ⟨_, _, rfl, a, b⟩ := rdl2 r1; obtain ⟨_, rfl, c⟩ := rdl1 r2; exact ⟨_, BindsTo.of_eq (by kernel_rfl!), .cons a (.cons b (.cons c .nil))⟩) rfl ?_
  intro M env A s s₁ I rm R
  simp only [List.zip_cons_cons, List.zip_nil_right] at R
  have O := I.ok rfl
  have S := R.sc
  have F := R.fm
  have hz : x.cps.size < 2 ^ 40 := Nat.lt_of_le_of_lt hx.2 (by decide)
  obtain ⟨m1, t1, o1⟩ := name_none hx.1
  obtain ⟨m2, t2, o2⟩ := value_none hx.1
  refine run_if (c := true) rm (PB.cmp (PE.callF (.type "type") (glob_bi (by wtm_at "ENVOK") S (n_type _) b_type (by decide) (by wtm_at "KIND")) (by kernel_rfl!) keep_ty (by wtm_at "PLS") PKw.nil OpN.type_str rfl)
    (glob_ty (glob_bi (by wtm_at "ENVOK") S (n_str _) b_str (by decide) (by wtm_at "KIND")) (by kernel_rfl!)) Op2.is_ty rfl) (fun _ s2 k2 => ?_) fun e => nomatch e
  have R2 := R.pure k2
  have S := R2.sc
  have F := R2.fm
  cases b with
  | true =>
    refine run_assign R2 rm (PE.ite (c := true) (PB.val (by wtm_at "PE") OpT.bool) (fun _ => PE.glob (glob_of (by wtm_at "ENVOK") S (g_name_disallowed_re _) (by wtm_at "KIND")) (by kernel_rfl!)) (fun e => nomatch e)) (I.kindOk (by kernel_rfl!) (by kernel_rfl!)) (I.swap0 (by with_unfolding_all rfl)) fun s3 R3 e3 => ?_
    have S := R3.sc
    have F := R3.fm
    refine run_if (c := false) rm (PB.val (PE.meth (by wtm_at "PE") (by wtm_at "PLS") PKw.nil (OpM.search S patN hz t1 o1 (by decide))) OpT.none) (fun e => nomatch e) fun _ s4 k4 => ?_
    refine run_end ?_
    have R4 := R3.pure k4
    have F := R4.fm
    exact run_ret rm (d := .str x) (by wtm_at "PE") fun v s' kp r => pure_ret R4 kp r
  | false =>
    refine run_assign R2 rm (PE.ite (c := false) (PB.val (by wtm_at "PE") OpT.bool) (fun e => nomatch e) (fun _ => PE.glob (glob_of (by wtm_at "ENVOK") S (g_value_disallowed_re _) (by wtm_at "KIND")) (by kernel_rfl!))) (I.kindOk (by kernel_rfl!) (by kernel_rfl!)) (I.swap0 (by with_unfolding_all rfl)) fun s3 R3 e3 => ?_
    have S := R3.sc
    have F := R3.fm
    refine run_if (c := false) rm (PB.val (PE.meth (by wtm_at "PE") (by wtm_at "PLS") PKw.nil (OpM.search S patV hz t2 o2 (by decide))) OpT.none) (fun e => nomatch e) fun _ s4 k4 => ?_
    refine run_end ?_
    have R4 := R3.pure k4
    have F := R4.fm
    exact run_ret rm (d := .str x) (by wtm_at "PE") fun v s' kp r => pure_ret R4 kp r
end
end
section
set_option linter.unusedVariables false
open PySem PySem.W PySem.Calls PyProof.Rows PySem.Spec
section
variable {w : World} {M : Addr → Prop} {h : Heap} {k : Nat} {env : Env} {vm : List (Str × D)}
noncomputable def markOf (f : Int) : Str := ⟨#[(Str.ofString "|!\"\\").cps.getD (f / 64 % 4).toNat 0]⟩
noncomputable def replyOf (p f : Int) : Str := Str.ofString "229 (" ++ Txt.mul (markOf f) 3 ++ (toString p : String) ++ markOf f ++ Str.ofString ") ("
theorem fn_reply {p f : Int} (hp : 0 ≤ p) (hp' : p ≤ 12) : FnP PP w (FK w) 264 [.int p, .int f] [] (.str (replyOf p f)) (k + 1) := by
  refine FnP.by (names := ["place", "figure"]) (bds := [.int p, .int f]) (by with_unfolding_all rfl) rfl (by kernel_rfl!) ⟨rfl, rfl, rfl, rfl, by decide +kernel, by decide +kernel, by decide +kernel, by decide +kernel⟩ rfl rfl
    (fun M s vs us S r1 r2 => by obtain ⟨_, _, rfl, a, b⟩ := rdl2 r1; cases rdl0 r2; exact ⟨_, BindsTo.of_eq (by kernel_rfl!), .cons a (.cons b .nil)⟩) rfl ?_
  intro M env A s s₁ I rm R
  simp only [List.zip_cons_cons, List.zip_nil_right] at R
  have O := I.ok rfl
  have l0 : p.natAbs.log2 < 1920 := log2_small (by lia)
  have S := R.sc
  have F := R.fm
  refine run_assign R rm (by wtm_at "PE") (I.kindOk (by kernel_rfl!) (by kernel_rfl!)) (I.swap0 (by with_unfolding_all rfl)) fun s2 R2 e2 => ?_
  · have S := R2.sc
    have F := R2.fm
    have l3 := ln_num hp hp'
    refine run_ret' rm (d' := .str (replyOf p f)) (by wtm_at "PE") (by kernel_rfl!) fun v s' kp r => pure_ret R2 kp r
noncomputable def piecesL : List Str := [")", "((", "\"", "\\", "a", "\\\"", "\")", ""]
noncomputable def textOf (f : Int) : Str := piecesL.getD (f % 8).toNat Str.empty ++ piecesL.getD (f / 8 % 8).toNat Str.empty
theorem fn_text {f : Int} : FnP PP w (FK w) 271 [.int f] [] (.str (textOf f)) (k + 1) := by
  refine FnP.by (names := ["figure"]) (bds := [.int f]) (by with_unfolding_all rfl) rfl (by kernel_rfl!) ⟨rfl, rfl, rfl, rfl, by decide +kernel, by decide +kernel, by decide +kernel, by decide +kernel⟩ rfl rfl
    (fun M s vs us S r1 r2 => by obtain ⟨_, rfl, a⟩ := rdl1 r1; cases rdl0 r2; exact ⟨_, BindsTo.of_eq (by kernel_rfl!), .cons a .nil⟩) rfl ?_
  intro M env A s s₁ I rm R
  simp only [List.zip_cons_cons, List.zip_nil_right] at R
  have O := I.ok rfl
  have S := R.sc
  have F := R.fm
  refine run_assign R rm (by wtm_at "PE") (I.kindOk (by kernel_rfl!) (by kernel_rfl!)) (I.swap0 (by with_unfolding_all rfl)) fun s2 R2 e2 => ?_
  have S := R2.sc
  have F := R2.fm
  exact run_ret' rm (d' := .str (textOf f)) (by wtm_at "PE") (by kernel_rfl!) fun v s' kp r => pure_ret R2 kp r
end
end
section
set_option linter.unusedVariables false
open PySem PySem.W PySem.Calls PyProof.Rows PySem.Spec
section
variable {w : World} {M : Addr → Prop} {h : Heap} {k : Nat} {env : Env} {vm : List (Str × D)}
noncomputable def lettersS : Str := "ABCDEFGHIJKLMNOP"
noncomputable def wordF (n : Int) : List Int := [3, 2, 1, 0].filter fun e => decide (n ≥ 16 ^ e.toNat)
noncomputable def wordL (n e : Int) : Str := ⟨#[lettersS.cps.getD (n / 16 ^ e.toNat % 16).toNat 0]⟩
noncomputable def wordU (n : Int) : Str := Txt.join "" ((wordF n).map (wordL n))
noncomputable def wordOf (n f : Int) : Str := if f / 256 != 0 then Txt.lower (wordU n) else wordU n
theorem four {e : Int} (h : e ∈ ([3, 2, 1, 0] : List Int)) : 0 ≤ e ∧ e ≤ 3 := by
  simp at h; lia
theorem pow16 {e : Int} (h : 0 ≤ e ∧ e ≤ 3) : (0 : Int) < 16 ^ e.toNat ∧ ((16 : Int) ^ e.toNat).natAbs.log2 < 9000 := by
  obtain ⟨n, rfl⟩ := Int.eq_ofNat_of_zero_le h.1
  have : n = 0 ∨ n = 1 ∨ n = 2 ∨ n = 3 := by lia
  rcases this with rfl | rfl | rfl | rfl <;> exact ⟨by decide, by decide +kernel⟩
theorem sum_ones {α : Type} (f : α → Str) (hf : ∀ a, (f a).length = 1) : ∀ l : List α, sumLn (l.map f) = l.length
  | [] => rfl
  | a :: l => by
    have := sum_ones f hf l
    unfold sumLn at *
    rw [List.map_cons, List.map_cons, List.sum_cons, this, hf, List.length_cons]; lia
theorem join_fits {sep : Str} {xs : List Str} (hz : sumLn xs + xs.length * sep.length ≤ 16777216) : (Txt.join sep xs).length ≤ sumLn xs + xs.length * sep.length := by
  show (Builtin.Str.glued sep xs).length ≤ _
  rw [StrLaws.glued_eq_join]; exact StrLaws.join_length_le sep xs
theorem lower_fits {n : Int} (hz : sumLn ((wordF n).map (wordL n)) + ((wordF n).map (wordL n)).length * (Str.ofString "").length ≤ 5000) : (Txt.lower (Txt.join "" ((wordF n).map (wordL n)))).length ≤ 16777216 := by
  have h1 := len_lower (Txt.join "" ((wordF n).map (wordL n)))
  have h2 := join_fits (sep := "") (xs := (wordF n).map (wordL n)) (by lia)
  lia
theorem fn_word {n f : Int} : FnP PP w (FK w) 257 [.int n, .int f] [] (.str (wordOf n f)) (k + 1) := by
  refine FnP.by (names := ["number", "figure"]) (bds := [.int n, .int f]) (by with_unfolding_all rfl) rfl (by kernel_rfl!) ⟨rfl, rfl, rfl, rfl, by decide +kernel, by decide +kernel, by decide +kernel, by decide +kernel⟩ rfl rfl
    (fun M s vs us S r1 r2 => by obtain ⟨_, _, rfl, a, b⟩ := rdl2 r1; cases rdl0 r2; exact ⟨_, BindsTo.of_eq (by kernel_rfl!), .cons a (.cons b .nil)⟩) rfl ?_
  intro M env A s s₁ I rm R
  simp only [List.zip_cons_cons, List.zip_nil_right] at R
  have O := I.ok rfl
  have S := R.sc
  have F := R.fm
  have hz : sumLn ((wordF n).map (wordL n)) + ((wordF n).map (wordL n)).length * (Str.ofString "").length ≤ 5000 := by
    rw [sum_ones _ fun _ => rfl, List.length_map]
    have h1 : (wordF n).length ≤ 4 := List.length_filter_le _ [3, 2, 1, 0]
    have h2 : (Str.ofString "").length = 0 := rfl
    rw [h2]; lia
  have he : ((wordF n).map (wordL n)).map D.str = ([3, 2, 1, 0].filter fun e => decide (n ≥ 16 ^ e.toNat)).map (fun e => D.str (wordL n e)) := List.map_map
  refine run_assign R rm (PE.meth (by wtm_at "PE") (PLs.cons (PE.to (PE.comp1f D.int inj_int [3, 2, 1, 0] (fun e => decide (n ≥ 16 ^ e.toNat)) (fun e => D.str (wordL n e)) S F (vmF := [("number", .int n)]) (bs := fun d => [("k", d)])
      (I.comp (by kernel_rfl!) rfl (by kernel_rfl!) (by kernel_rfl!)) ?_ OpIter.tup (HV.cons (by wtm_at "LOOK") (by kernel_rfl!) HV.nil)
      (fun x _ C => Asg.nameC (by kernel_rfl!) (by kernel_rfl!)) (fun d _ => off1 (by kernel_rfl!)) (fun e he W h' C _ S F => ?_) (by decide)) (congrArg D.lst he.symm)) PLs.nil) PKw.nil (OpM.join (by lia))) (I.kindOk (by kernel_rfl!) (by kernel_rfl!)) (I.swap0 (by with_unfolding_all rfl)) fun s2 R2 e2 => ?_
  · exact PE.to (by wtm_at "PE") (by rfl)
  · have he := four he
    have F : Fm W _ [("k", .int e), ("number", .int n)] h' := F
    have hp := pow16 he
    refine ⟨?_, fun _ => ?_⟩
    · exact PB.cmp (by wtm_at "PE") (PE.op2 (by wtm_at "PE") (by wtm_at "PE") (Op2.pow_int (by decide) (by decide) (by lia) (by lia))) Op2.ge_int rfl
    · exact PE.to (PE.sub (by wtm_at "PE") (PE.op2 (PE.op2 (by wtm_at "PE") (PE.op2 (by wtm_at "PE") (by wtm_at "PE") (Op2.pow_int (by decide) (by decide) (by omega) (by omega))) (Op2.div_int hp.1 hp.2)) (by wtm_at "PE") (Op2.mod_int (by decide))) (Op2.item_mod rfl (by decide) (by decide +kernel) (by decide))) (by kernel_rfl!)
  have S := R2.sc
  have F := R2.fm
  exact run_ret' rm (d' := .str (wordOf n f)) (PE.ite2 (PB.val (by wtm_at "PE") OpT.int) (fun _ => PE.meth (by wtm_at "PE") PLs.nil PKw.nil (OpM.lower (lower_fits hz))) fun _ => by wtm_at "PE") (by exact ite_str) fun v s' kp r => pure_ret R2 kp r
end
end
section
set_option linter.unusedVariables false
open PySem PySem.W PySem.Calls PyProof.Rows PySem.Spec
section
variable {w : World} {M : Addr → Prop} {h : Heap} {k : Nat} {env : Env} {vm : List (Str × D)}
theorem wordL_sum (n : Int) : sumLn ((wordF n).map (wordL n)) ≤ 4 := by
  rw [sum_ones _ fun _ => rfl]
  exact List.length_filter_le _ [3, 2, 1, 0]
theorem ln_wordU {n : Int} : Ln (wordU n) 4 := by
  have h1 := wordL_sum n
  have h2 := join_fits (sep := "") (xs := (wordF n).map (wordL n)) (by have : (Str.ofString "").length = 0 := rfl; rw [this]; lia)
  have h3 : (Str.ofString "").length = 0 := rfl
  rw [h3] at h2
  show (Txt.join "" ((wordF n).map (wordL n))).length ≤ 4
  lia
theorem ln_word {n f : Int} : Ln (wordOf n f) 12 := by
  unfold wordOf
  have h1 := @ln_wordU n
  split
  · exact Nat.le_trans (len_lower _) (by unfold Ln at h1; lia)
  · exact h1.mono (by decide)
theorem ln_mark {f : Int} : Ln (markOf f) 1 := Nat.le_refl _
theorem ln_reply {p f : Int} (hp : 0 ≤ p) (hp' : p ≤ 12) : Ln (replyOf p f) 20 :=
  Ln.mono (((((Ln.lit.app (Ln.mul ln_mark)).app (ln_num hp hp')).app ln_mark).app Ln.lit)) (by decide +kernel)
theorem ln_text {f : Int} : Ln (textOf f) 4 := Ln.mono (Ln.getD.app Ln.getD) (by decide +kernel)
noncomputable def escC (c : Nat) : Str := if Txt.contains "\"\\" ⟨#[c]⟩ then Str.ofString "\\" ++ ⟨#[c]⟩ else ⟨#[c]⟩
noncomputable def escT (x : Str) : Str := Txt.join "" (x.cps.toList.map escC)
noncomputable def tailOf (f : Int) : Str := if !decide ((textOf f).cps.toList.map escC = []) then Str.ofString "=\"" ++ escT (textOf f) ++ Str.ofString "\"" else Str.ofString ""
noncomputable def sentOf (p f n : Int) : Str := wordOf (n % 4096 + p) f ++ Str.ofString ": " ++ replyOf p f ++ Str.ofString "; t" ++ tailOf f ++ Str.ofString "\r\n"
theorem inj_sign : ∀ a b : Nat, D.str ⟨#[a]⟩ = D.str ⟨#[b]⟩ → a = b := fun a b e => by cases e; rfl
theorem ln_escC (c : Nat) : (escC c).length ≤ 2 := by
  unfold escC; split
  · rw [Str.length_append]; exact Nat.le_refl _
  · exact Nat.le_succ _
theorem sumLn_le {n : Nat} : ∀ {xs : List Str}, (∀ x ∈ xs, x.length ≤ n) → sumLn xs ≤ xs.length * n
  | [], _ => Nat.zero_le _
  | x :: xs, h => by
    have ih := sumLn_le (n := n) (xs := xs) fun y hy => h y (.tail _ hy)
    have h1 := h x (.head _)
    unfold sumLn at *
    rw [List.map_cons, List.sum_cons, List.length_cons, Nat.succ_mul]; lia
theorem esc_sum (f : Int) : sumLn ((textOf f).cps.toList.map escC) + ((textOf f).cps.toList.map escC).length * (Str.ofString "").length ≤ 8 := by
  have h1 := sumLn_le (n := 2) (xs := (textOf f).cps.toList.map escC) (fun x hx => by obtain ⟨c, _, rfl⟩ := List.mem_map.mp hx; exact ln_escC c)
  have h2 : (textOf f).cps.toList.length ≤ 4 := @ln_text f
  rw [List.length_map] at h1 ⊢
  have h3 : (Str.ofString "").length = 0 := rfl
  rw [h3]; lia
theorem ln_escT {f : Int} : Ln (escT (textOf f)) 8 := by
  have h := esc_sum f
  have h2 := join_fits (sep := "") (xs := (textOf f).cps.toList.map escC) (by lia)
  exact Nat.le_trans h2 h
theorem ln_tail {f : Int} : Ln (tailOf f) 11 := Ln.mono (Ln.ite ((Ln.lit.app ln_escT).app Ln.lit) Ln.lit) (by decide +kernel)
local macro_rules | `(tactic| wtm_at "CALLU") => `(tactic|
  ((with_reducible apply PE.callF); (with_reducible apply glob_of); wtm_at "ENVOK"; assumption; (with_reducible first | exact g_law_text _ | exact g_law_word _ | exact g_law_reply _); wtm_at "KIND";
    kernel_rfl!; (first | exact kp_271 (by assumption) | exact kp_257 (by assumption) | exact kp_264 (by assumption)); wtm_at "PLS"; wtm_at "PKW"; (first | exact (fn_text (k := 0)).opN (by assumption) (by wtm_at "OM") | exact (fn_word (k := 0)).opN (by assumption) (by wtm_at "OM") | exact (fn_reply (k := 0) (by assumption) (by assumption)).opN (by assumption) (by wtm_at "OM")); rfl))
theorem fn_sent {p f n : Int} (hp : 0 ≤ p) (hp' : p ≤ 12) : FnP PP w (FK w) 276 [.int p, .int f, .int n] [] (.str (sentOf p f n)) (k + 2) := by
  refine FnP.by (names := ["place", "figure", "first"]) (bds := [.int p, .int f, .int n]) (by with_unfolding_all rfl) rfl (by kernel_rfl!) ⟨rfl, rfl, rfl, rfl, by decide +kernel, by decide +kernel, by decide +kernel, by decide +kernel⟩ rfl rfl
    (fun M s vs us S r1 r2 => by obtain ⟨_, _, _, rfl, a, b, c⟩ := rdl3 r1; cases rdl0 r2; exact ⟨_, BindsTo.of_eq (by kernel_rfl!), .cons a (.cons b (.cons c .nil))⟩) rfl ?_
  intro M env A s s₁ I rm R
  simp only [List.zip_cons_cons, List.zip_nil_right] at R
  have O := I.ok rfl
  have S := R.sc
  have F := R.fm
  refine run_assign_comp1m (fun c => D.str ⟨#[c]⟩) inj_sign (textOf f).cps.toList (fun c => D.str (escC c)) (vmF := []) (bs := fun d => [("sign", d)]) R rm (I.kindOk (by kernel_rfl!) (by kernel_rfl!)) (I.comp (by kernel_rfl!) rfl (by kernel_rfl!) (by kernel_rfl!))
    (by wtm_at "PE") OpIter.str HV.nil
    (fun x _ C => Asg.nameC (by kernel_rfl!) (by kernel_rfl!)) (fun d _ => off1 (by kernel_rfl!)) (fun c hc W h' C _ S F => ?_) (Nat.le_trans ln_text (by decide)) (I.swap1 (by with_unfolding_all rfl)) fun s2 R2 e2 => ?_
  · have F : Fm W _ [("sign", .str ⟨#[c]⟩)] h' := F
    exact PE.to (PE.ite2 (PB.cmp (by wtm_at "PE") (by wtm_at "PE") Op2.in_str rfl) (fun _ => by wtm_at "PE") fun _ => by wtm_at "PE") (by exact ite_str)
  · have S := R2.sc
    have F := R2.fm
    have hm : (textOf f).cps.toList.map (fun c => D.str (escC c)) = ((textOf f).cps.toList.map escC).map D.str := List.map_map.symm
    rw [hm] at R2 F
    have l1 : Ln (Txt.join (Str.ofString "") ((textOf f).cps.toList.map escC)) 8 := ln_escT
    refine run_assign R2 rm (PE.ite2 (PB.cmp (by wtm_at "PE") (by wtm_at "PE") (Op2.ne_list (ys := []) fun _ => EqOk.str) rfl) (fun _ => PE.op2 (PE.op2 (by wtm_at "PE") (PE.meth (by wtm_at "PE") (by wtm_at "PLS") PKw.nil (OpM.join (Nat.le_trans (esc_sum f) (by decide)))) (by wtm_at "OP2")) (by wtm_at "PE") (by wtm_at "OP2")) fun _ => by wtm_at "PE") (I.kindOk (by kernel_rfl!) (by kernel_rfl!)) (I.swap0 (by with_unfolding_all rfl)) fun s3 R3 e3 => ?_
    rw [show (if (!decide ((textOf f).cps.toList.map escC = [])) = true then D.str (Str.ofString "=\"" ++ Txt.join (Str.ofString "") ((textOf f).cps.toList.map escC) ++ Str.ofString "\"") else D.str (Str.ofString "")) = D.str (tailOf f) from ite_str] at R3
    have S := R3.sc
    have F := R3.fm
    have l2 := @ln_word (n % 4096 + p) f
    have l3 := @ln_reply p f hp hp'
    have l4 := @ln_tail f
    exact run_ret' rm (d' := .str (sentOf p f n)) (by wtm_at "PE") (by kernel_rfl!) fun v s' kp r => pure_ret R3 kp r
end
end
section
set_option linter.unusedVariables false
open PySem PySem.W PySem.Calls PyProof.Rows PySem.Spec Q
section
variable {w : World} {M : Addr → Prop} {h : Heap} {k : Nat} {env : Env} {vm : List (Str × D)}
noncomputable def lookH (es : List (Str × Str)) (nm : Str) : D := match es.find? (fun p => Txt.lower p.1 == Txt.lower nm) with | some p => .str p.2 | none => .none
noncomputable def GoodH (es : List (Str × Str)) : Prop := ∀ p ∈ es, p.1.length ≤ 1000
theorem lower_fit {x : Str} (h : x.length ≤ 1000) : (Txt.lower x).length ≤ 16777216 := by have := len_lower x; lia
theorem inj_hd : ∀ a b, hdD a = hdD b → a = b := fun ⟨a, b⟩ ⟨c, d⟩ e => by
  unfold hdD at e
  simp only [D.tup.injEq, List.cons.injEq, D.str.injEq] at e
  rw [e.1, e.2.1]
theorem find_at {α : Type} {q : α → Bool} : ∀ {es : List α} {j : Nat} {p : α}, es[j]? = some p → q p = true → (∀ i, i < j → ∀ p', es[i]? = some p' → q p' = false) → es.find? q = some p
  | [], _, _, e, _, _ => by cases e
  | a :: es, 0, p, e, hq, _ => by
    cases e
    rw [List.find?_cons_of_pos hq]
  | a :: es, j + 1, p, e, hq, hn => by
    rw [List.find?_cons_of_neg (by rw [hn 0 (by exact Nat.le_add_left _ _) a rfl]; exact Bool.false_ne_true)]
    exact find_at (es := es) (j := j) e hq fun i hi p' e' => hn (i + 1) (by lia) p' e'
theorem find_no {α : Type} {q : α → Bool} {es : List α} (h : ∀ i, i < es.length → ∀ p', es[i]? = some p' → q p' = false) : es.find? q = none := by
  refine List.find?_eq_none.mpr fun p hp => ?_
  obtain ⟨i, hi⟩ := List.mem_iff_getElem?.mp hp
  rw [h i (List.getElem?_eq_some_iff.mp hi).1 p hi]; exact Bool.false_ne_true
theorem beq_dec {x y : Str} : (x == y) = decide (x = y) := by
  by_cases e : x = y
  · rw [decide_eq_true e]; simpa using e
  · rw [decide_eq_false e]; simpa using e
theorem fn_get {l : Addr} {es : List (Str × Str)} {n : Str} (hn : n.length ≤ 1000) (hg : Good (Txt.lower n)) (hes : GoodH es) : FnP PP w (FK w) 195 [.hdr l es, .str n] [] (lookH es n) (k + 2) := by
  refine FnP.by (names := ["self", "name", "default"]) (bds := [.hdr l es, .str n, .none]) (by with_unfolding_all rfl) rfl (by kernel_rfl!) ⟨rfl, rfl, rfl, rfl, by decide +kernel, by decide +kernel, by decide +kernel, by decide +kernel⟩ rfl rfl
    (fun M s vs us S r1 r2 => by obtain ⟨_, _, rfl, a, b⟩ := rdl2 r1; cases rdl0 r2; exact ⟨_, binds_K S.inn rfl (T := 188) (by with_unfolding_all rfl) rfl rfl rfl, .cons a (.cons b (.cons .none .nil))⟩) rfl ?_
  intro M env A s s₁ I rm R
  simp only [List.zip_cons_cons, List.zip_nil_right] at R
  have O := I.ok rfl
  have S := R.sc
  have F := R.fm
  refine run_assign R rm (PE.meth (by wtm_at "PE") (PLs.cons (PE.meth (by wtm_at "PE") PLs.nil PKw.nil (OpM.lower (lower_fit hn))) PLs.nil) (by wtm_at "PKW") (OpM.inst S (c_conv w) (t_conv w) (by kernel_rfl!) kp_147 (fn_conv (k := 0) hg) (by exact Nat.le_add_left _ _))) (I.kindOk (by kernel_rfl!) (by kernel_rfl!)) (I.swap0 (by with_unfolding_all rfl)) fun s2 R2 e2 => ?_
  have S := R2.sc
  have F := R2.fm
  refine run_for (K := FK w) (Inv := fun j s' => Run (FK w) s (fun _ => False) (Mof M env) env [("name", .str (Txt.lower n)), ("self", .hdr l es), ("name", .str n), ("default", .none)] s' ∧ ∀ i, i < j → ∀ p, es[i]? = some p → (Txt.lower p.1 == Txt.lower n) = false) rm S (PE.attrH S F (by wtm_at "LOOK") (by kernel_rfl!)) (OpIter.list S)
    (fun s' kp => ⟨R2.pure kp, fun i hi => absurd hi (Nat.not_lt_zero _)⟩) ?_ ?_ ?_
  · rintro I' j s' h' tk f0 ⟨R', hne⟩ he ho
    have f0' : s.heap.get? I' = none := by
      cases q : s.heap.get? I' with
      | none => rfl
      | some o => rw [R2.keep _ _ (fun z => z) q] at f0; cases f0
    have nof := S.newOff f0
    exact ⟨R'.iter f0' nof.1 nof.2.1 nof.2.2.1 nof.2.2.2 he ho, hne⟩
  · rintro j d s' v hd ⟨R', hne⟩ rv
    rw [List.getElem?_map] at hd
    cases hp : es[j]? with
    | none => rw [hp] at hd; cases hd
    | some p =>
      rw [hp] at hd
      obtain rfl : hdD p = d := by simpa using hd
      have hmem : p ∈ es := List.mem_of_getElem? hp
      refine (Asg.pair (prog := PP) (w := w) (k := k + 1) (K := FK w) (X := Own env) (I.kindOk (by kernel_rfl!) (by kernel_rfl!)) (I.kindOk (by kernel_rfl!) (by kernel_rfl!)) (fun a z => z.elim own_sto own_sto)).go _ _ A NoE s' _ v rm R'.fm R'.sc rv fun h' tk F' S' e' => ?_
      have R3 := R'.frame (tk := tk) F' S' e' fun a z => z
      have S := R3.sc
      have F : Fm (Mof M env) env [("v", .str p.2), ("k", .str p.1), ("name", .str (Txt.lower n)), ("self", .hdr l es), ("name", .str n), ("default", .none)] _ := R3.fm
      have ex : ∀ s4, Kp { s' with heap := h', toks := tk } s4 → Ext (Mof M env) s'.heap s4.heap := fun s4 kp => (e'.mono fun a z => .inr z).trans kp.heap.ext
      refine run_if (c := decide (Txt.lower p.1 = Txt.lower n)) rm (PB.cmp (PE.meth (by wtm_at "PE") PLs.nil PKw.nil (OpM.lower (lower_fit (hes p hmem)))) (by wtm_at "PE") Op2.eq_str' rfl) (fun hc s4 k4 => ?_) fun hc s4 k4 => ?_
      · have R5 := R3.pure k4
        have F := F.keep k4.heap
        refine run_ret rm (d := .str p.2) (by wtm_at "PE") fun v' s5 kp r => ?_
        refine ⟨_, R5.pure kp, ?_⟩
        have : lookH es n = .str p.2 := by
          unfold lookH
          rw [find_at hp (by rw [beq_dec]; exact hc) hne]
        rw [this]; exact r
      · refine run_end (run_end ⟨⟨(R3.pure k4).sub ?_, fun i hi p' hp' => ?_⟩, ex s4 k4⟩)
        · intro y d hy
          rw [List.lookup_append]
          have : ∀ x e, List.lookup x ([("name", D.str (Txt.lower n)), ("self", .hdr l es), ("name", .str n), ("default", .none)] : List (Str × D)) = some e → ([("v", D.str p.2), ("k", .str p.1)] : List (Str × D)).lookup x = none := off2 (by kernel_rfl!)
          rw [this y d hy]; exact hy
        · by_cases e : i = j
          · subst e
            rw [hp] at hp'; cases hp'
            rw [beq_dec]; exact hc
          · exact hne i (by lia) p' hp'
  · rintro s' ⟨R', hne⟩
    have F := R'.fm
    refine run_ret rm (d := .none) (by wtm_at "PE") fun v' s5 kp r => ?_
    refine ⟨_, R'.pure kp, ?_⟩
    have : lookH es n = .none := by
      unfold lookH
      rw [find_no fun i hi p' hp' => hne i (by simpa using hi) p' hp']
    rw [this]; exact r
end
end
section
set_option linter.unusedVariables false
open PySem PySem.W PySem.Calls PyProof.Rows PySem.Spec Q
section
variable {w : World} {M : Addr → Prop} {h : Heap} {k : Nat} {env : Env} {vm : List (Str × D)}
theorem fn_len {l : Addr} {es : List (Str × Str)} (hz : es.length ≤ 1000) : FnP PP w (FK w) 154 [.hdr l es] [] (.int es.length) (k + 1) := by
  refine FnP.by (names := ["self"]) (bds := [.hdr l es]) (by with_unfolding_all rfl) rfl (by kernel_rfl!) ⟨rfl, rfl, rfl, rfl, by decide +kernel, by decide +kernel, by decide +kernel, by decide +kernel⟩ rfl rfl
    (fun M s vs us S r1 r2 => by obtain ⟨_, rfl, a⟩ := rdl1 r1; cases rdl0 r2; exact ⟨_, BindsTo.of_eq (by kernel_rfl!), .cons a .nil⟩) rfl ?_
  intro M env A s s₁ I rm R
  simp only [List.zip_cons_cons, List.zip_nil_right] at R
  have O := I.ok rfl
  have S := R.sc
  have F := R.fm
  exact run_ret' rm (d' := .int es.length) (PE.callF (.builtin "len") (glob_bi (by wtm_at "ENVOK") S (n_len _) b_len (by decide) (by wtm_at "KIND")) (by kernel_rfl!) keep_bi (PLs.cons (PE.attrH S F (by wtm_at "LOOK") (by kernel_rfl!)) PLs.nil) PKw.nil (OpN.len_lst (by rw [List.length_map]; lia)) rfl) (by rw [List.length_map]) fun v s' kp r => pure_ret R kp r
theorem fn_getitem {l : Addr} {es : List (Str × Str)} {n : Str} (hn : n.length ≤ 1000) (hg : Good (Txt.lower n)) (hes : GoodH es) : FnP PP w (FK w) 173 [.hdr l es, .str n] [] (lookH es n) (k + 3) := by
  refine FnP.by (names := ["self", "name"]) (bds := [.hdr l es, .str n]) (by with_unfolding_all rfl) rfl (by kernel_rfl!) ⟨rfl, rfl, rfl, rfl, by decide +kernel, by decide +kernel, by decide +kernel, by decide +kernel⟩ rfl rfl
    (fun M s vs us S r1 r2 => by obtain ⟨_, _, rfl, a, b⟩ := rdl2 r1; cases rdl0 r2; exact ⟨_, BindsTo.of_eq (by kernel_rfl!), .cons a (.cons b .nil)⟩) rfl ?_
  intro M env A s s₁ I rm R
  simp only [List.zip_cons_cons, List.zip_nil_right] at R
  have O := I.ok rfl
  have S := R.sc
  have F := R.fm
  exact run_ret rm (d := lookH es n) (PE.meth (by wtm_at "PE") (by wtm_at "PLS") PKw.nil (OpM.inst S (c_get w) (t_get w) (by kernel_rfl!) kp_195 (fn_get (k := 0) hn hg hes) (by exact Nat.le_add_left _ _))) fun v s' kp r => pure_ret R kp r
theorem fn_keys {l : Addr} {es : List (Str × Str)} (hz : es.length ≤ 1000) : FnP PP w (FK w) 200 [.hdr l es] [] (.lst ((es.map (·.1)).map D.str)) (k + 1) := by
  refine FnP.by (names := ["self"]) (bds := [.hdr l es]) (by with_unfolding_all rfl) rfl (by kernel_rfl!) ⟨rfl, rfl, rfl, rfl, by decide +kernel, by decide +kernel, by decide +kernel, by decide +kernel⟩ rfl rfl
    (fun M s vs us S r1 r2 => by obtain ⟨_, rfl, a⟩ := rdl1 r1; cases rdl0 r2; exact ⟨_, BindsTo.of_eq (by kernel_rfl!), .cons a .nil⟩) rfl ?_
  intro M env A s s₁ I rm R
  simp only [List.zip_cons_cons, List.zip_nil_right] at R
  have O := I.ok rfl
  have S := R.sc
  have F := R.fm
  have he : es.map (fun p => D.str p.1) = (es.map (·.1)).map D.str := List.map_map.symm
  refine run_ret' rm (d' := .lst ((es.map (·.1)).map D.str)) (PE.comp1m hdD inj_hd es (fun p => D.str p.1) S F (vmF := []) (bs := fun d => match d with | .tup [a, b] => [("v", b), ("k", a)] | _ => [])
    (I.comp (by kernel_rfl!) rfl (by kernel_rfl!) (by kernel_rfl!)) (PE.attrH S F (by wtm_at "LOOK") (by kernel_rfl!)) (OpIter.list S) HV.nil
    (fun p _ C => Asg.pairC (by kernel_rfl!) (by kernel_rfl!) (by kernel_rfl!) (by kernel_rfl!)) (fun d hd x e q => nomatch q) (fun p _ W h' C _ S F => ?_) (Nat.le_trans hz (by decide))) (by rw [he]) fun v s' kp r => pure_ret R kp r
  have F : Fm W _ [("v", .str p.2), ("k", .str p.1)] h' := F
  wtm_at "PE"
noncomputable def lineOf (p : Str × Str) : Str := p.1 ++ Str.ofString ": " ++ p.2
noncomputable def sentH (es : List (Str × Str)) : Str := Txt.join "\r\n" (es.map lineOf ++ [Str.ofString "", Str.ofString ""])
noncomputable def FitH (es : List (Str × Str)) : Prop := es.length ≤ 1000 ∧ ∀ p ∈ es, p.1.length ≤ 1000 ∧ p.2.length ≤ 1000
theorem fit_sum {es : List (Str × Str)} (h : FitH es) : sumLn (es.map lineOf ++ [Str.ofString "", Str.ofString ""]) + (es.map lineOf ++ [Str.ofString "", Str.ofString ""]).length * (Str.ofString "\r\n").length ≤ 2100000 := by
  have h1 := sumLn_le (n := 2002) (xs := es.map lineOf ++ [Str.ofString "", Str.ofString ""]) (fun x hx => by
    rcases List.mem_append.mp hx with q | q
    · obtain ⟨p, hp, rfl⟩ := List.mem_map.mp q
      have := h.2 p hp
      unfold lineOf
      rw [Str.length_append, Str.length_append]
      have : (Str.ofString ": ").length = 2 := rfl
      lia
    · have h0 : (Str.ofString "").length = 0 := rfl
      simp at q
      subst q
      exact Nat.le_add_left _ _)
  have h2 : (Str.ofString "\r\n").length = 2 := rfl
  have h3 := h.1
  rw [List.length_append, List.length_map] at h1 ⊢
  simp only [List.length_cons, List.length_nil] at h1 ⊢
  rw [h2]
  lia
theorem fn_str {l : Addr} {es : List (Str × Str)} (hz : FitH es) : FnP PP w (FK w) 224 [.hdr l es] [] (.str (sentH es)) (k + 1) := by
  refine FnP.by (names := ["self"]) (bds := [.hdr l es]) (by with_unfolding_all rfl) rfl (by kernel_rfl!) ⟨rfl, rfl, rfl, rfl, by decide +kernel, by decide +kernel, by decide +kernel, by decide +kernel⟩ rfl rfl
    (fun M s vs us S r1 r2 => by obtain ⟨_, rfl, a⟩ := rdl1 r1; cases rdl0 r2; exact ⟨_, BindsTo.of_eq (by kernel_rfl!), .cons a .nil⟩) rfl ?_
  intro M env A s s₁ I rm R
  simp only [List.zip_cons_cons, List.zip_nil_right] at R
  have O := I.ok rfl
  have S := R.sc
  have F := R.fm
  have he : D.lst (es.map (fun p => D.str (lineOf p)) ++ [.str (Str.ofString ""), .str (Str.ofString "")]) = .lst ((es.map lineOf ++ [Str.ofString "", Str.ofString ""]).map D.str) := by
    rw [List.map_append, List.map_map]; rfl
  refine run_ret rm (d := .str (sentH es)) (PE.meth (by wtm_at "PE") (PLs.cons (PE.to (PE.op2 (PE.comp1m hdD inj_hd es (fun p => D.str (lineOf p)) S F (vmF := []) (bs := fun d => [("kv", d)])
    (I.comp (by kernel_rfl!) rfl (by kernel_rfl!) (by kernel_rfl!)) (PE.attrH S F (by wtm_at "LOOK") (by kernel_rfl!)) (OpIter.list S) HV.nil
    (fun p _ C => Asg.nameC (by kernel_rfl!) (by kernel_rfl!)) (fun d hd x e q => nomatch q) (fun p hp W h' C _ S F => ?_) (Nat.le_trans hz.1 (by decide))) (by wtm_at "PE") (Op2.add_lst S (by have := hz.1; simp; lia))) he) PLs.nil) PKw.nil (OpM.join (Nat.le_trans (fit_sum hz) (by decide)))) fun v s' kp r => pure_ret R kp r
  have F : Fm W _ [("kv", .tup [.str p.1, .str p.2])] h' := F
  have hp' := hz.2 p hp
  exact PE.op2 (by wtm_at "PE") (by wtm_at "PE") (Op2.pctA (by lia) (by lia))
theorem fn_bytes {l : Addr} {es : List (Str × Str)} (hz : FitH es) (ha : Ascii (sentH es)) : FnP PP w (FK w) 231 [.hdr l es] [] (.bytes (encB (sentH es))) (k + 3) := by
  refine FnP.by (names := ["self"]) (bds := [.hdr l es]) (by with_unfolding_all rfl) rfl (by kernel_rfl!) ⟨rfl, rfl, rfl, rfl, by decide +kernel, by decide +kernel, by decide +kernel, by decide +kernel⟩ rfl rfl
    (fun M s vs us S r1 r2 => by obtain ⟨_, rfl, a⟩ := rdl1 r1; cases rdl0 r2; exact ⟨_, BindsTo.of_eq (by kernel_rfl!), .cons a .nil⟩) rfl ?_
  intro M env A s s₁ I rm R
  simp only [List.zip_cons_cons, List.zip_nil_right] at R
  have O := I.ok rfl
  have S := R.sc
  have F := R.fm
  have hl : (sentH es).cps.size ≤ 16777216 := Nat.le_trans (join_fits (sep := "\r\n") (xs := es.map lineOf ++ [Str.ofString "", Str.ofString ""]) (Nat.le_trans (fit_sum hz) (by decide))) (Nat.le_trans (fit_sum hz) (by decide))
  exact run_ret rm (d := .bytes (encB (sentH es))) (PE.meth (PE.callF (.type "str") (glob_bi (by wtm_at "ENVOK") S (n_str _) b_str (by decide) (by wtm_at "KIND")) (by kernel_rfl!) keep_ty (by wtm_at "PLS") PKw.nil (OpN.str_hdr S (fn_str (k := 0) hz) (by exact Nat.le_add_left _ _)) rfl) (by wtm_at "PLS") PKw.nil (OpM.encode1 ha hl)) fun v s' kp r => pure_ret R kp r
end
end
section
set_option linter.unusedVariables false
open PySem PySem.W PySem.Calls PyProof.Rows PySem.Spec Q
section
variable {w : World} {M : Addr → Prop} {h : Heap} {k : Nat} {env : Env} {vm : List (Str × D)}
theorem sub_of {vm vmA : List (Str × D)} (h : ∀ p ∈ vmA, vm.lookup p.1 = some p.2) : ∀ x d, vmA.lookup x = some d → vm.lookup x = some d := fun x d e => h _ (mem_of_lookup e)
theorem fn_setdefault_new {es : List (Str × Str)} {n v : Str} (hn : n.length ≤ 1000) (hgn : Good n) (hg : Good (Txt.lower n)) (hv : Good v) (hes : GoodH es) (hz : es.length ≤ 1000) (hl : lookH es n = .none) :
    FnM PP w (FK w) 238 [.str n, .str v] [] (.str v) es (es ++ [(n, v)]) (k + 4) := by
  refine FnM.by (names := ["self", "name", "value"]) (bds := [.str n, .str v]) (by with_unfolding_all rfl) rfl (by kernel_rfl!) ⟨rfl, rfl, rfl, rfl, by decide +kernel, by decide +kernel, by decide +kernel, by decide +kernel⟩ rfl rfl
    (fun M s x vs us S r1 r2 => by obtain ⟨_, _, rfl, a, b⟩ := rdl2 r1; cases rdl0 r2; exact ⟨[_, _], BindsTo.of_eq (by kernel_rfl!), .cons a (.cons b .nil)⟩) rfl rfl ?_
  intro M env A s s₁ x l I rm off hla R0 H
  simp only [List.zip_cons_cons, List.zip_nil_right] at R0
  have O := I.ok rfl
  have S := R0.sc
  have F := R0.fm.alt (y := "self") (by wtm_at "LOOK") H
  refine run_assign R0 rm (PE.to (PE.meth (by wtm_at "PE") (by wtm_at "PLS") PKw.nil (OpM.inst S (c_get w) (t_get w) (by kernel_rfl!) kp_195 (fn_get (k := 0) hn hg hes) (by exact Nat.le_add_left _ _))) hl) (I.kindOk (by kernel_rfl!) (by kernel_rfl!)) (I.swap0 (by with_unfolding_all rfl)) fun s2 R2 e2 => ?_
  have S := R2.sc
  have H2 : Rd (Mof M env) s2.heap (.ref x) (.hdr l es) := H.ext fun b o nb e => e2 b o (fun z => nb (.inr z)) e
  have F := R2.fm.alt (y := "self") (by wtm_at "LOOK") H2
  refine run_if (c := true) rm (PB.cmp (by wtm_at "PE") (by wtm_at "PE") Op2.is_none rfl) (fun _ s3 k3 => ?_) fun e => nomatch e
  have R3 := R2.pure k3
  have S := R3.sc
  have H3 := H2.keep k3.heap
  have F := R3.fm.alt (y := "self") (by wtm_at "LOOK") H3
  refine run_append (vmA := [("value", .str v)]) rfl R3 rm (by wtm_at "LOOK") H3 off rfl (sub_of fun p hp => by obtain rfl := List.mem_singleton.mp hp; wtm_at "LOOK") (fun p hp => by obtain rfl := List.mem_singleton.mp hp; rfl)
    (PE.tuple S (PLs.cons (PE.meth (by wtm_at "PE") (by wtm_at "PLS") (by wtm_at "PKW") (OpM.inst S (c_conv w) (t_conv w) (by kernel_rfl!) kp_147 (fn_conv (k := 0) hgn) (by exact Nat.le_add_left _ _))) (PLs.cons (PE.meth (by wtm_at "PE") (by wtm_at "PLS") (by wtm_at "PKW") (OpM.inst S (c_conv w) (t_conv w) (by kernel_rfl!) kp_147 (fn_conv (k := 0) hv) (by exact Nat.le_add_left _ _))) PLs.nil)) (Nat.le_of_ble_eq_true (by kernel_rfl!))) hz (fun s4 R4 H4 => ?_) (I.inter rfl) (I.swap0 (by with_unfolding_all rfl)) (by rfl) (by rfl) (by rfl)
  have F := R4.fm
  exact run_ret rm (d := .str v) (by wtm_at "PE") fun v' s' kp r => ⟨⟨_, R4.pure kp⟩, r, H4.keep kp.heap⟩
theorem fn_setdefault_old {es : List (Str × Str)} {n v r0 : Str} (hn : n.length ≤ 1000) (hg : Good (Txt.lower n)) (hes : GoodH es) (hl : lookH es n = .str r0) :
    FnM PP w (FK w) 238 [.str n, .str v] [] (.str r0) es es (k + 4) := by
  refine FnM.by (names := ["self", "name", "value"]) (bds := [.str n, .str v]) (by with_unfolding_all rfl) rfl (by kernel_rfl!) ⟨rfl, rfl, rfl, rfl, by decide +kernel, by decide +kernel, by decide +kernel, by decide +kernel⟩ rfl rfl
    (fun M s x vs us S r1 r2 => by obtain ⟨_, _, rfl, a, b⟩ := rdl2 r1; cases rdl0 r2; exact ⟨[_, _], BindsTo.of_eq (by kernel_rfl!), .cons a (.cons b .nil)⟩) rfl rfl ?_
  intro M env A s s₁ x l I rm off hla R0 H
  simp only [List.zip_cons_cons, List.zip_nil_right] at R0
  have O := I.ok rfl
  have S := R0.sc
  have F := R0.fm.alt (y := "self") (by wtm_at "LOOK") H
  refine run_assign R0 rm (PE.to (PE.meth (by wtm_at "PE") (by wtm_at "PLS") PKw.nil (OpM.inst S (c_get w) (t_get w) (by kernel_rfl!) kp_195 (fn_get (k := 0) hn hg hes) (by exact Nat.le_add_left _ _))) hl) (I.kindOk (by kernel_rfl!) (by kernel_rfl!)) (I.swap0 (by with_unfolding_all rfl)) fun s2 R2 e2 => ?_
  have S := R2.sc
  have H2 : Rd (Mof M env) s2.heap (.ref x) (.hdr l es) := H.ext fun b o nb e => e2 b o (fun z => nb (.inr z)) e
  have F := R2.fm
  refine run_if (c := false) rm (PB.cmp (by wtm_at "PE") (by wtm_at "PE") Op2.is_none rfl) (fun e => nomatch e) fun _ s3 k3 => ?_
  have R3 := R2.pure k3
  have F := R3.fm
  have H3 := H2.keep k3.heap
  exact run_ret rm (d := .str r0) (by wtm_at "PE") fun v' s' kp r => ⟨⟨_, R3.pure kp⟩, r, H3.keep kp.heap⟩
end
end
section
set_option linter.unusedVariables false
open PySem PySem.W PySem.Calls PyProof.Rows PySem.Spec Q
section
variable {w : World} {M : Addr → Prop} {h : Heap} {k : Nat} {env : Env} {vm : List (Str × D)}
theorem enter_gen {A : Around} {s : Shared} {K : Frag} {f : Addr} {fd : FuncData} {body : List Stmt} {oc : Value} {od : Option Addr} {osl : Array (Option Value)} {args : Args} {names : List Str} {P : List Value → List D → Shared → Prop} {R : Result → Shared → Prop}
    (rm : Room (k + 1) A) (S : Sc K M s.heap) (ho : K.lookup f = some ⟨oc, od, .func fd, osl⟩) (hbody : fd.body = .stmts body) (hcd : codeIn K fd.code fd.qualname = true) (O : FnOk fd names) (h2 : fd.globals = mainGlobals) (h3 : fd.builtins = builtinsNs)
    (hbind : ∀ (A' : Around) (Q : List (Str × Value) → Shared → Prop) (E' : Value → Shared → Prop), (∀ bvs bds s0, Kp s s0 → RdL M s0.heap bvs bds → names.length = bds.length → P bvs bds s0 → Q (names.zip bvs) s0) → wpAny (model PP w) A' (bindArgs fd args) Q E' s)
    (nx : ∀ A' env s0 s₁ bvs bds, EnvIs env fd.scope → Room k A' → Kp s s0 → P bvs bds s0 → Kp s0 s₁ → Run K s0 (fun _ => False) (Mof M env) env (names.zip bds) s₁ → (∀ a, Own env a → s0.heap.get? a = none) →
      Go (model PP w) A' (execs body env) (fun fl s' => R (.ok (.ret (match fl with | .ret v => v | _ => .none))) s') NoE s₁) :
    codeAny (model PP w) A (.call (.ref f) args) R s :=
  fn_enter_gen rm S ho hbody hcd O hbind fun L s0 s₁ bvs bds k0 hP k1 R' hown => (nx _ _ s0 s₁ bvs bds (EnvIs.fn h2 h3) (rm.deeper _) k0 hP k1 R' hown).run
theorem OpM.replace_none {x y z : Str} (hx : (Builtin.Str.occurrences x y 0 x.length (x.length + 1)).isEmpty = true) : OpM PP w M h k "replace" (.str x) [.str y, .str z] [] (.str x) := by
  refine OpM.builtin (T := "str") (fun s v _ r => by cases r using Rd.strE0; exact ⟨typeIs_str _ _ _, fun a e => nomatch e⟩) F.plainAttrs_str F.slot_str_replace F.type_str_replace ?_
  refine .of fun A s vs us rm kp r1 r2 => ?_
  cases r2 using RdL.nilE
  cases r1 using RdL.consE with
  | cons r r' => cases r' using RdL.consE with
    | cons q q' => cases q' using RdL.consE with
      | cons p p' =>
        cases p'; cases r using Rd.strE0; cases q using Rd.strE0; cases p
        rename_i t u v
        refine call_gives F.slot_str_replace (typeIs_str _ _ _) F.entry_str_replace (F.args_str_replace_3 _ _ _) (gives_str_replace x y z t u v fun e => ?_) ?_
        · rw [hx] at e; cases e
        · rw [hx]
          exact ⟨Kp.refl s, .str _ _⟩
theorem fn_formatparam0 {a v : Str} (h0 : v.length = 0) : FnP PP w (FK w) 125 [.str a, .str v] [] (.str a) (k + 1) := by
  refine FnP.by (names := ["param", "value", "quote"]) (bds := [.str a, .str v, .int 1]) (by with_unfolding_all rfl) rfl (by kernel_rfl!) ⟨rfl, rfl, rfl, rfl, by decide +kernel, by decide +kernel, by decide +kernel, by decide +kernel⟩ rfl rfl
    (fun M s vs us S r1 r2 => by obtain ⟨_, _, rfl, a, b⟩ := rdl2 r1; cases rdl0 r2; exact ⟨_, binds_K S.inn rfl (T := 118) (by with_unfolding_all rfl) rfl rfl rfl, .cons a (.cons b (.cons (.int _ _) .nil))⟩) rfl ?_
  intro M env A s s₁ I rm R
  simp only [List.zip_cons_cons, List.zip_nil_right] at R
  have O := I.ok rfl
  have S := R.sc
  have F := R.fm
  refine run_ift (n := 0) (c := false) rm (PBt.and2 (PB.cmp (by wtm_at "PE") (by wtm_at "PE") Op2.isNot_none rfl) (PBt.gt_lit (a := (v.length : Int)) (PE.callF (.builtin "len") (glob_bi (by wtm_at "ENVOK") S (n_len _) b_len (by decide) (by wtm_at "KIND")) (by kernel_rfl!) keep_bi (by wtm_at "PLS") PKw.nil (OpN.len_str (by lia)) rfl) (decide_eq_false (by lia)))) (Nat.zero_le _) (fun e => nomatch e) ?_
  intro _ s2 k2 p2
  have R2 := R.pure k2
  have F := R2.fm
  exact run_ret rm (d := .str a) (by wtm_at "PE") fun v s' kp r => pure_ret R2 kp r
noncomputable def paramOf (t : Str) : Str := if t.length = 0 then Str.ofString "t" else pairOf (Str.ofString "t") t
theorem fn_param {t : Str} (ht : t.length ≤ 1000) (h1 : (quo1 t).length ≤ 1000) (h2 : (quo2 t).length ≤ 1000) : FnP PP w (FK w) 125 [.str (Str.ofString "t"), .str t] [] (.str (paramOf t)) (k + 1) := by
  unfold paramOf
  by_cases h0 : t.length = 0
  · rw [if_pos h0]; exact fn_formatparam0 h0
  · rw [if_neg h0]; exact fn_formatparam (by decide +kernel) ht h0 h1 h2
noncomputable def entOf (v t : Str) : Str := Txt.join (Str.ofString "; ") [v, paramOf t]
theorem good_t : Good (Str.ofString "t") := ⟨by unfold Mine.Q.Plain; decide +kernel, by decide +kernel⟩
theorem fn_add_header {es : List (Str × Str)} {n v t : Str} (hn : Good n) (hv : Good v) (ht : Good t) (h1 : (quo1 t).length ≤ 1000) (h2 : (quo2 t).length ≤ 1000) (hp : (paramOf t).length ≤ 1000) (hz : es.length ≤ 1000) :
    FnM PP w (FK w) 245 [.str n, .str v] [("t", .str t)] .none es (es ++ [(n, entOf v t)]) (k + 3) := by
  refine .mk fun M A s vs us x l rm S off H r1 r2 => ?_
  obtain ⟨v1, v2, rfl, a1, a2⟩ := rdl2 r1
  obtain ⟨v3, rfl, a3⟩ := rdl1 r2
  refine enter_gen (k := k + 2) (K := FK w) (names := ["self", "_name", "_value", "_params"]) (P := fun bvs bds s0 => ∃ d, bds = [.ref x, .str n, .str v, .ref d] ∧ s.heap.get? d = none ∧ s.heap.objs.size ≤ d ∧ s0.heap.DictAt (PySem.strKind PP w) d [("t", v3)] 1) rm S (by with_unfolding_all rfl) rfl (by kernel_rfl!) ⟨rfl, rfl, rfl, rfl, by decide +kernel, by decide +kernel, by decide +kernel, by decide +kernel⟩ rfl rfl ?_ ?_
  · intro A' Q E' hq
    refine bind_one (x := "t") (nm := "_params") (v := v3) (front := [("self", .ref x), ("_name", v1), ("_value", v2)]) S.inn (by rfl) (fun D => by rfl) fun d s1 kp fr le hd => ?_
    exact hq [.ref x, v1, v2, .ref d] [.ref x, .str n, .str v, .ref d] s1 kp (.cons (.ref x) (.cons (a1.keep kp.heap) (.cons (a2.keep kp.heap) (.cons (.ref d) .nil)))) rfl ⟨d, rfl, fr, le, hd⟩
  · rintro A' env s0 s₁ bvs bds I rm k0 ⟨d, rfl, fd, dle, hd⟩ k1 R hown
    simp only [List.zip_cons_cons, List.zip_nil_right] at R
    have O := I.ok rfl
    have S0 : Sc (FK w) M s.heap := S
    have hsw : ∀ a, (s0.heap.get? a).isSome = true → ¬ M a → ¬ Mof M env a := fun a ha hm hM => hM.elim hm fun o => by rw [hown a o] at ha; cases ha
    have H1 : Rd (Mof M env) s₁.heap (.ref x) (.hdr l es) := ((H.keep k0.heap).swap hsw).keep k1.heap
    have da : (s0.heap.get? d).isSome = true := by obtain ⟨o, es, ho, _⟩ := hd; rw [ho]; rfl
    have nd : ¬ Mof M env d := hsw d da (S.dead fd)
    have S1 := R.sc
    refine run_assignN R rm (PN.list S1 PLs.nil (by decide)) (I.kindOk (by kernel_rfl!) (by kernel_rfl!)) (I.swap0 (by with_unfolding_all rfl)) fun s2 P R2 e2 fP rP => ?_
    let N : Addr → Prop := fun a => Mof M env a ∨ a = P
    have hPl : s2.heap.PlainList P #[] := by
      cases rP with | @lst _ us _ nl hl hr => cases hr using RdL.nilE; exact hl
    have nP : ¬ Mof M env P := S1.dead fP
    have offP := S1.newOff fP
    have aliveP : (s2.heap.get? P).isSome = true := by obtain ⟨c, ho⟩ := hPl; rw [ho]; rfl
    have R2 : Run (FK w) s0 (· = l) N env [("parts", .ref P), ("self", .ref x), ("_name", .str n), ("_value", .str v), ("_params", .ref d)] s2 := (R2.weak fun a z => z.elim).more (fun a => .inl)
      (fun p hp v r => r.atom (by simp only [List.mem_cons, List.not_mem_nil, or_false] at hp; rcases hp with rfl | rfl | rfl | rfl | rfl <;> rfl)) (fun a m => m.elim (R2.sc.alive a) fun z => z ▸ aliveP) (fun a m => m.elim (R2.sc.offK a) fun z => z ▸ offP.2.1) (fun m => m.elim R2.sc.offB fun z => offP.2.2.1 z.symm) (fun m => m.elim R2.sc.offS fun z => offP.2.2.2 z.symm)
    have swN : ∀ a, (s₁.heap.get? a).isSome = true → ¬ Mof M env a → ¬ N a := fun a ha hm hN => hN.elim hm fun z => by rw [z, fP] at ha; cases ha
    have HN : Rd N s₁.heap (.ref x) (.hdr l es) := H1.swap swN
    have ndN : ¬ N d := swN d (by obtain ⟨o, ho⟩ := Option.isSome_iff_exists.mp da; rw [k1.heap _ _ ho]; rfl) nd
    have oN : ∀ a, Own env a → N a := fun a o => .inl (.inr o)
    have x2 : Ext N s₁.heap s2.heap := e2.mono oN
    have fP0 : s0.heap.get? P = none := by
      cases q : s0.heap.get? P with
      | none => rfl
      | some o => rw [k1.heap _ _ q] at fP; cases fP
    have PL : P ≠ env.locals := fun z => nP (.inr (.inl z))
    have PC : ∀ x c, env.cells.lookup x = some c → P ≠ c := fun x c e z => nP (.inr (.inr ⟨x, z ▸ e⟩))
    have F := R2.fm
    refine run_if (c := true) rm (PB.cmp (by wtm_at "PE") (by wtm_at "PE") Op2.isNot_none rfl) (fun _ s3 k3 => ?_) fun e => nomatch e
    have R3 := R2.pure k3
    have x3 : Ext N s₁.heap s3.heap := x2.trans k3.heap.ext
    have S := R3.sc
    have F := R3.fm.alt (y := "self") (by wtm_at "LOOK") (HN.ext x3)
    refine run_assign R3 rm (PE.meth (by wtm_at "PE") (by wtm_at "PLS") (by wtm_at "PKW") (OpM.inst S (c_conv w) (t_conv w) (by kernel_rfl!) kp_147 (fn_conv (k := 0) hv) (by exact Nat.le_add_left _ _))) (I.kindOk (by kernel_rfl!) (by kernel_rfl!)) (I.swap0 (by with_unfolding_all rfl)) fun s4 R4 e4 => ?_
    have x4 : Ext N s₁.heap s4.heap := x3.trans (e4.mono oN)
    have F := R4.fm
    refine run_lappend (vs := []) (ds := []) R4 rm (by wtm_at "LOOK") (by kernel_rfl!) (.inr fP0) (.inr rfl) PL PC (hPl.at fun o q => e4 _ _ (fun z => nP (.inr z)) (k3.heap _ _ q)) .nil (by decide) (d := .str v) (by wtm_at "PE") (fun s5 vs5 R5 hP5 r5 e5 => ?_) (I.inter rfl) (I.swap0 (by with_unfolding_all rfl)) rfl rfl rfl
    have x5 : Ext N s₁.heap s5.heap := x4.trans (e5.mono fun a z => .inr z)
    refine run_end ?_
    have hd5 : s5.heap.DictAt (PySem.strKind PP w) d [("t", v3)] 1 := by
      obtain ⟨o, es, ho, r⟩ := hd
      exact ⟨o, es, x5 _ _ ndN (k1.heap _ _ ho), r⟩
    have dsys : (d == sysModules) = false := by
      have hk : ((FK w).lookup mainGlobals).isSome = true := by kernel_rfl
      obtain ⟨o, ho⟩ := Option.isSome_iff_exists.mp hk
      have hlt : mainGlobals < s.heap.objs.size := Heap.lt_size (S0.inn _ _ ho)
      have : d ≠ sysModules := fun z => by
        have h1 : mainGlobals < sysModules := Nat.lt_of_lt_of_le hlt (z ▸ dle)
        exact absurd h1 (by decide)
      simpa using this
    refine run_for_item1 (x := "t") (v := v3) (c := .str t) (Inv := fun s' => Run (FK w) s0 (· = l) N env [("self", .ref x), ("_name", .str n), ("parts", .ref P)] s' ∧ Ext N s₁.heap s'.heap ∧ ∃ vs', s'.heap.PlainList P vs'.toArray ∧ RdL N s'.heap vs' [.str v, .str (paramOf t)])
      R5 rm (by wtm_at "LOOK") (by kernel_rfl!) hd5 dsys ndN (a3.atom rfl) (I.kindOk (by kernel_rfl!) (by kernel_rfl!)) (I.kindOk (by kernel_rfl!) (by kernel_rfl!)) ?_ ?_ ?_
    · rintro I' s' h' tk f0 ⟨R', x', vs', hP', r'⟩ he ⟨o, fs, ho1, ho2, ho3⟩
      have f1 : s₁.heap.get? I' = none := by
        cases q : s₁.heap.get? I' with
        | none => rfl
        | some o =>
          have hN : ¬ N I' := R5.sc.dead f0
          rw [x5 _ _ hN q] at f0; cases f0
      have f0' : s0.heap.get? I' = none := by
        cases q : s0.heap.get? I' with
        | none => rfl
        | some o => rw [k1.heap _ _ q] at f1; cases f1
      have nof := R5.sc.newOff f0
      refine ⟨R'.iter f0' nof.1 nof.2.1 nof.2.2.1 nof.2.2.2 he ⟨o, fs, ho1, ho2, ho3⟩, fun b o n e => he b o (fun z => by rw [z, f1] at e; cases e) (x' b o n e), vs', hP'.at fun o q => he _ _ (fun z => nof.1 (.inr z.symm)) q, RdL.iter he (fun o' z => by rw [ho1] at z; cases z; exact ho3) r'⟩
    · intro s6 R6 e6
      have x6 : Ext N s₁.heap s6.heap := x5.trans (e6.mono oN)
      have S := R6.sc
      have F := R6.fm.alt (y := "self") (by wtm_at "LOOK") (HN.ext x6)
      refine run_assign R6 rm (PE.meth (by wtm_at "PE") (by wtm_at "PLS") (by wtm_at "PKW") (OpM.inst S (c_conv w) (t_conv w) (by kernel_rfl!) kp_147 (fn_conv (k := 0) good_t) (by exact Nat.le_add_left _ _))) (I.kindOk (by kernel_rfl!) (by kernel_rfl!)) (I.swap0 (by with_unfolding_all rfl)) fun s7 R7 e7 => ?_
      have x7 : Ext N s₁.heap s7.heap := x6.trans (e7.mono oN)
      have F := R7.fm
      refine run_if (c := false) rm (PB.cmp (by wtm_at "PE") (by wtm_at "PE") Op2.is_none rfl) (fun e => nomatch e) fun _ s8 k8 => ?_
      have R8 := R7.pure k8
      have x8 : Ext N s₁.heap s8.heap := x7.trans k8.heap.ext
      have S := R8.sc
      have F := R8.fm.alt (y := "self") (by wtm_at "LOOK") (HN.ext x8)
      refine run_assign R8 rm (PE.meth (by wtm_at "PE") (by wtm_at "PLS") (by wtm_at "PKW") (OpM.inst S (c_conv w) (t_conv w) (by kernel_rfl!) kp_147 (fn_conv (k := 0) ht) (by exact Nat.le_add_left _ _))) (I.kindOk (by kernel_rfl!) (by kernel_rfl!)) (I.swap0 (by with_unfolding_all rfl)) fun s9 R9 e9 => ?_
      have x9 : Ext N s₁.heap s9.heap := x8.trans (e9.mono oN)
      have S := R9.sc
      have F := R9.fm
      have y9 : Ext N s5.heap s9.heap := ((e6.mono oN).trans (e7.mono oN)).trans (k8.heap.ext.trans (e9.mono oN))
      have nO : ¬ Own env P := fun z => nP (.inr z)
      have z9 : ∀ o, s5.heap.get? P = some o → s9.heap.get? P = some o := fun o q => e9 _ _ nO (k8.heap _ _ (e7 _ _ nO (e6 _ _ nO q)))
      refine run_lappend (vs := vs5) (ds := [.str v]) R9 rm (by wtm_at "LOOK") (by kernel_rfl!) (.inr fP0) (.inr rfl) PL PC (hP5.at z9) (r5.ext y9) (by simp) (d := .str (paramOf t))
        (PE.callF (.ref 125) (glob_of (by wtm_at "ENVOK") S (g_formatparam _) (by wtm_at "KIND")) (by kernel_rfl!) (kp_125 S) (PLs.cons (PE.meth (by wtm_at "PE") (by wtm_at "PLS") PKw.nil (OpM.replace_none (by decide +kernel))) (PLs.cons (by wtm_at "PE") PLs.nil)) PKw.nil ((fn_param (k := 0) ht.2 h1 h2).opN S (by exact Nat.le_add_left _ _)) rfl) (fun s10 vs10 R10 hP10 r10 e10 => ?_) (I.inter rfl) (I.swap0 (by with_unfolding_all rfl)) rfl rfl rfl
      refine run_end (run_end ⟨rfl, ⟨R10.sub ?_, x9.trans (e10.mono fun a z => .inr z), vs10, hP10, r10⟩, ?_⟩)
      · refine sub_of fun p hp => ?_
        simp only [List.mem_cons, List.not_mem_nil, or_false] at hp
        rcases hp with rfl | rfl | rfl <;> wtm_at "LOOK"
      · exact (((e7.mono oN).trans k8.heap.ext).trans (e9.mono oN)).trans (e10.mono fun a z => .inr z)
    · rintro s6 ⟨R6, x6, vs6, hP6, r6⟩
      have H6 : Rd (Mof M env) s6.heap (.ref x) (.hdr l es) := (HN.ext x6).swap fun a _ n m => n (.inl m)
      have R7 : Run (FK w) s0 (· = l) (Mof M env) env [("self", .ref x), ("_name", .str n), ("parts", .ref P)] s6 := R6.less (fun a m => .inl m) (.inr (.inl rfl)) fun x c e => .inr (.inr ⟨x, e⟩)
      have S := R7.sc
      have rP6 : Rd (Mof M env) s6.heap (.ref P) (.lst ([v, paramOf t].map D.str)) := .lst nP hP6 (r6.swap fun a _ n m => n (.inl m))
      have F := (R7.fm.alt (y := "self") (by wtm_at "LOOK") H6).alt (y := "parts") (by wtm_at "LOOK") rP6
      refine run_append (vmA := []) rfl R7 rm (by wtm_at "LOOK") H6 off rfl (fun _ _ e => nomatch e) (fun _ e => nomatch e)
        (PE.tuple S (PLs.cons (PE.meth (by wtm_at "PE") (by wtm_at "PLS") (by wtm_at "PKW") (OpM.inst S (c_conv w) (t_conv w) (by kernel_rfl!) kp_147 (fn_conv (k := 0) hn) (by exact Nat.le_add_left _ _))) (PLs.cons (PE.meth (by wtm_at "PE") (PLs.cons (by wtm_at "PE") PLs.nil) PKw.nil (OpM.join (xs := [v, paramOf t]) (by have := hv.2; simp [sumLn]; have : (Str.ofString "; ").length = 2 := rfl; lia))) PLs.nil)) (Nat.le_of_ble_eq_true (by kernel_rfl!))) hz (fun s7 R8 H8 => ?_) (I.inter rfl) (I.swap0 (by with_unfolding_all rfl)) (by rfl) (by rfl) (by rfl)
      obtain ⟨⟨hx, tx, rfl⟩, kk0⟩ := k0
      refine run_end ⟨_, rfl, R8.same, fun b o nb e => R8.keep b o nb (kk0 b o e), .none, H8.swap fun a _ hm hM => hm (.inl hM)⟩
end
end
section
set_option linter.unusedVariables false
open PySem PySem.W PySem.Calls PyProof.Rows PySem.Spec Q
section
variable {w : World} {M : Addr → Prop} {h : Heap} {k : Nat} {env : Env} {vm : List (Str × D)}
noncomputable def dropH (es : List (Str × Str)) (n : Str) : List (Str × Str) := es.filter fun p => !decide (Txt.lower p.1 = Txt.lower n)
theorem fn_delitem {es : List (Str × Str)} {n : Str} (hn : n.length ≤ 1000) (hg : Good (Txt.lower n)) (hes : GoodH es) (hz : es.length ≤ 1000) :
    FnM PP w (FK w) 166 [.str n] [] .none es (dropH es n) (k + 3) := by
  refine FnM.by (names := ["self", "name"]) (bds := [.str n]) (by with_unfolding_all rfl) rfl (by kernel_rfl!) ⟨rfl, rfl, rfl, rfl, by decide +kernel, by decide +kernel, by decide +kernel, by decide +kernel⟩ rfl rfl
    (fun M s x vs us S r1 r2 => by obtain ⟨_, rfl, a⟩ := rdl1 r1; cases rdl0 r2; exact ⟨[_], BindsTo.of_eq (by kernel_rfl!), .cons a .nil⟩) rfl rfl ?_
  intro M env A s s₁ x l I rm off hla R0 H
  simp only [List.zip_cons_cons, List.zip_nil_right] at R0
  have O := I.ok rfl
  have S := R0.sc
  have F := R0.fm.alt (y := "self") (by wtm_at "LOOK") H
  refine run_assign R0 rm (PE.meth (by wtm_at "PE") (PLs.cons (PE.meth (by wtm_at "PE") PLs.nil PKw.nil (OpM.lower (lower_fit hn))) PLs.nil) (by wtm_at "PKW") (OpM.inst S (c_conv w) (t_conv w) (by kernel_rfl!) kp_147 (fn_conv (k := 0) hg) (by exact Nat.le_add_left _ _))) (I.kindOk (by kernel_rfl!) (by kernel_rfl!)) (I.swap0 (by with_unfolding_all rfl)) fun s2 R2 e2 => ?_
  have S := R2.sc
  have H2 : Rd (Mof M env) s2.heap (.ref x) (.hdr l es) := H.ext fun b o nb e => e2 b o (fun z => nb (.inr z)) e
  have F := R2.fm.alt (y := "self") (by wtm_at "LOOK") H2
  have hm : (es.filter fun p => !decide (Txt.lower p.1 = Txt.lower n)).map hdD = (dropH es n).map hdD := rfl
  refine run_slice (vmA := []) (es' := dropH es n) rfl R2 rm (by wtm_at "LOOK") H2 off rfl (fun _ _ e => nomatch e) (fun _ e => nomatch e)
    (PN.comp1f hdD inj_hd es (fun p => !decide (Txt.lower p.1 = Txt.lower n)) hdD S F (vmF := [("name", .str (Txt.lower n))]) (bs := fun d => [("kv", d)]) (I.comp (by kernel_rfl!) rfl (by kernel_rfl!) (by kernel_rfl!)) (PE.attrH S F (by wtm_at "LOOK") (by kernel_rfl!)) (OpIter.list S) (HV.cons (by wtm_at "LOOK") (by kernel_rfl!) HV.nil)
      (fun p _ C => Asg.nameC (by kernel_rfl!) (by kernel_rfl!)) (fun d _ => off1 (by kernel_rfl!)) (fun p hp W h' C _ S F => ?_) (Nat.le_trans hz (by decide))) hz (Nat.le_trans (List.length_filter_le _ _) hz) (fun s4 R4 H4 => ?_) (I.swap0 (by with_unfolding_all rfl)) (by rfl)
  · have F : Fm W _ [("kv", .tup [.str p.1, .str p.2]), ("name", .str (Txt.lower n))] h' := F
    refine ⟨PB.cmp (PE.meth (PE.sub (by wtm_at "PE") (by wtm_at "PE") (tup_item0 rfl rfl)) PLs.nil PKw.nil (OpM.lower (lower_fit (hes p hp)))) (by wtm_at "PE") Op2.ne_str' rfl, fun _ => PE.to (by wtm_at "PE") (by rfl)⟩
  · exact run_end ⟨⟨_, R4⟩, .none, H4⟩
end
end
section
set_option linter.unusedVariables false
open PySem PySem.W PySem.Calls PyProof.Rows PySem.Spec Q
section
variable {w : World} {M : Addr → Prop} {h : Heap} {k : Nat} {env : Env} {vm : List (Str × D)}
theorem call_init {A : Around} {s : Shared} {x dd : Addr} (rm : Room (k + 2) A) (S : Sc (FK w) M s.heap) (hx : s.heap.get? x = some (instObj 248 dd)) (hd : s.heap.get? dd = some emptyDict) (nx : ¬ M x) (nd : ¬ M dd) (offd : Off (FK w) dd) :
    codeAny (model PP w) A (.call (.ref 140) ⟨[.ref x], []⟩) (fun r s' => r = .ok (.ret .none) ∧ (∃ h t, s' = { s with heap := h, toks := t }) ∧ Ext (· = dd) s.heap s'.heap ∧ ∃ l, s.heap.get? l = none ∧ Rd M s'.heap (.ref x) (.hdr l [])) s := by
  refine enter_by (k := k + 1) (K := FK w) (names := ["self", "headers"]) (bvs := [.ref x, .none]) (bds := [.ref x, .none]) rm S (by with_unfolding_all rfl) rfl (by kernel_rfl!) ⟨rfl, rfl, rfl, rfl, by decide +kernel, by decide +kernel, by decide +kernel, by decide +kernel⟩ rfl rfl
    (binds_K (K := FK w) S.inn rfl (T := 133) (by with_unfolding_all rfl) rfl rfl rfl) (.cons (.ref x) (.cons .none .nil)) rfl fun A' env s₁ I rm R hown => ?_
  simp only [List.zip_cons_cons, List.zip_nil_right] at R
  have O := I.ok rfl
  have S1 := R.sc
  have F := R.fm
  refine run_assignN R rm (PN.iteF (PB.cmp (by wtm_at "PE") (by wtm_at "PE") Op2.isNot_none rfl) (PN.list S1 PLs.nil (by decide))) (I.kindOk (by kernel_rfl!) (by kernel_rfl!)) (I.swap0 (by with_unfolding_all rfl)) fun s2 l R2 e2 fl r2 => ?_
  have S := R2.sc
  have F := R2.fm.alt (y := "headers") (by wtm_at "LOOK") r2
  refine run_if (c := false) rm (PB.cmp (PE.callF (.type "type") (glob_bi (by wtm_at "ENVOK") S (n_type _) b_type (by decide) (by wtm_at "KIND")) (by kernel_rfl!) keep_ty (by wtm_at "PLS") PKw.nil OpN.type_lst rfl)
    (glob_ty (glob_bi (by wtm_at "ENVOK") S (n_list _) b_list (by decide) (by wtm_at "KIND")) (by kernel_rfl!)) Op2.isNot_ty rfl) (fun e => nomatch e) fun _ s3 k3 => run_end ?_
  have R3 := (R2.pure k3).weak (W' := (· = dd)) fun a z => z.elim
  have hx3 : s3.heap.get? x = some (instObj 248 dd) := k3.heap _ _ (e2 _ _ (fun o => by rw [hown _ o] at hx; cases hx) (R.keep _ _ (fun z => z) hx))
  have hd3 : s3.heap.get? dd = some emptyDict := k3.heap _ _ (e2 _ _ (fun o => by rw [hown _ o] at hd; cases hd) (R.keep _ _ (fun z => z) hd))
  have ndM : ¬ Mof M env dd := fun z => z.elim nd fun o => by rw [hown _ o] at hd; cases hd
  have nxM : ¬ Mof M env x := fun z => z.elim nx fun o => by rw [hown _ o] at hx; cases hx
  have fl0 : s.heap.get? l = none := by
    cases q : s.heap.get? l with
    | none => rfl
    | some o => rw [R.keep _ _ (fun z => z) q] at fl; cases fl
  have hld : l ≠ dd := fun z => by rw [z] at fl0; rw [fl0] at hd; cases hd
  refine run_new_hd (vmA := [("headers", .ref l)]) rfl R3 rm (by wtm_at "LOOK") (by wtm_at "LOOK") hx3 hd3 offd ndM rfl (sub_of fun p hp => by obtain rfl := List.mem_singleton.mp hp; wtm_at "LOOK") (fun p hp => by obtain rfl := List.mem_singleton.mp hp; rfl) (I.swap0 (by with_unfolding_all rfl)) fun s4 R4 hat e4 => ?_
  have r3 := r2.keep k3.heap
  have HH : Rd (Mof M env) s4.heap (.ref x) (.hdr l []) := by
    cases r3 using Rd.lstE with
    | @lst _ us _ nl hl hr =>
      cases hr using RdL.nilE
      exact .hdr nxM ndM nl hat (hl.at fun o q => e4 _ o (fun z => hld z) q) .nil
  have rl : Rd (Mof M env) s4.heap (.ref l) (.lst []) := by
    cases r3 using Rd.lstE with
    | @lst _ us _ nl hl hr =>
      cases hr using RdL.nilE
      exact .lst nl (hl.at fun o q => e4 _ o (fun z => hld z) q) .nil
  refine run_if (c := true) rm (PB.val (M := Mof M env) PE.true' OpT.bool) (fun _ s5 k5 => ?_) fun e => nomatch e
  have R5 := R4.pure k5
  have S := R5.sc
  have F := R5.fm.alt (y := "headers") (by wtm_at "LOOK") (rl.keep k5.heap)
  refine run_for (K := FK w) (ds := []) (Inv := fun j s' => (∃ vm', Run (FK w) s (· = dd) (Mof M env) env vm' s') ∧ Rd (Mof M env) s'.heap (.ref x) (.hdr l [])) rm S (by wtm_at "PE") (OpIter.list S)
    (fun s' kp => ⟨⟨_, R5.pure kp⟩, (HH.keep k5.heap).keep kp.heap⟩) ?_ (fun j d s' v hd' => nomatch hd') ?_
  · rintro I' j s' h' tk f0 ⟨⟨vm', R'⟩, H'⟩ he ho
    have f0' : s.heap.get? I' = none := by
      cases q : s.heap.get? I' with
      | none => rfl
      | some o =>
        by_cases z : I' = dd
        · rw [z] at f0
          have := k5.heap dd
          obtain ⟨_, hs, tk, n, hh⟩ := hat
          rw [k5.heap _ _ hh] at f0; cases f0
        · rw [R5.keep _ _ z q] at f0; cases f0
    have nof := S.newOff f0
    obtain ⟨o, fs, ho1, ho2, ho3⟩ := ho
    refine ⟨⟨vm', R'.iter f0' nof.1 nof.2.1 nof.2.2.1 nof.2.2.2 he ⟨o, fs, ho1, ho2, ho3⟩⟩, Rd.iter he (fun o' z => by rw [ho1] at z; cases z; exact ho3) H'⟩
  · rintro s' ⟨⟨vm', R'⟩, H'⟩
    refine run_end (run_end ⟨rfl, R'.same, R'.keep, l, fl0, H'.swap fun a _ hm hM => hm (.inl hM)⟩)
theorem new_headers (S : Sc (FK w) M h) : ∀ A s, Room (k + 3) A → Keep h s.heap → wpAny (model PP w) A (call (.ref 248) [] []) (fun v s' => Kp s s' ∧ ∃ x l, v = .ref x ∧ s.heap.get? x = none ∧ s.heap.get? l = none ∧ Rd M s'.heap (.ref x) (.hdr l [])) NoE s := by
  intro A s rm kp
  obtain ⟨hh, g, d, t, os⟩ := s
  have X : (FK w).In hh := (S.keep kp).inn
  refine wpAny_call (make_core (makes_of X (c_makes w)) (looks_findIn X (c_init w)) (fun self => bind_fn X self (t_init w)) (.inl rfl) ?_)
  have k1 : Keep hh ((hh.push emptyDict).push (instObj 248 hh.objs.size)) := fun b o e => Heap.get?_push_of_some _ (Heap.get?_push_of_some _ e)
  have hx : ((hh.push emptyDict).push (instObj 248 hh.objs.size)).get? (hh.objs.size + 1) = some (instObj 248 hh.objs.size) := by heap_get
  have hd : ((hh.push emptyDict).push (instObj 248 hh.objs.size)).get? hh.objs.size = some emptyDict := by heap_get
  have S0 : Sc (FK w) M hh := S.keep kp
  have S1 : Sc (FK w) M ((hh.push emptyDict).push (instObj 248 hh.objs.size)) := S0.keep k1
  have fd : hh.get? hh.objs.size = none := get_size hh
  have fx : hh.get? (hh.objs.size + 1) = none := Heap.get?_none_of_le (Nat.le_succ _)
  have offd := S0.newOff fd
  have rm' : Room (k + 2) (A.under (.builtin "type.__call__" ⟨[.ref 248], []⟩)) := by
    have hu : (Code.builtin "type.__call__" ⟨[.ref 248], []⟩).cUnits ≤ 50 := by decide +kernel
    refine ⟨rm.handled, ?_, ?_⟩
    · have := rm.depth
      rw [depth_under_kw A 248 [] []]
      lia
    · have := rm.units
      show A.units + (Code.builtin "type.__call__" ⟨[.ref 248], []⟩).cUnits + _ + _ ≤ _
      lia
  refine codeAny_mono (call_init (k := k) (s := ⟨_, g, d, t, os⟩) rm' S1 hx hd (S0.dead fx) (S0.dead fd) ⟨offd.2.1, offd.2.2.1, offd.2.2.2⟩) fun r s' q => ?_
  obtain ⟨rfl, ⟨h2, t2, rfl⟩, e, l, fl, H⟩ := q
  refine ⟨rfl, ⟨⟨h2, t2, rfl⟩, fun b o z => e b o (fun y => by rw [y, fd] at z; cases z) (k1 b o z)⟩, _, l, rfl, fx, ?_, H⟩
  cases q : hh.get? l with
  | none => rfl
  | some o =>
    have := k1 _ _ q
    have fl' : ((hh.push emptyDict).push (instObj 248 hh.objs.size)).get? l = none := fl
    rw [fl'] at this; cases this
end
end
section
set_option linter.unusedVariables false
open PySem PySem.W PySem.Calls PyProof.Rows PySem.Spec
section
variable {prog : Program} {w : World} {K : Frag} {W M : Addr → Prop} {h : Heap} {k : Nat} {env : Env} {vm : List (Str × D)} {A : Around} {E : Value → Shared → Prop} {s₀ s : Shared}
theorem back2_of {α : Type} (ι : α → D) (inj : ∀ a b, ι a = ι b → a = b) (g : α → α → List D) : ∃ g' : D → D → List D, ∀ a b, g' (ι a) (ι b) = g a b := by
  classical
  refine ⟨fun d e => if h : (∃ a, ι a = d) ∧ ∃ b, ι b = e then g h.1.choose h.2.choose else [], fun a b => ?_⟩
  have h : (∃ x, ι x = ι a) ∧ ∃ x, ι x = ι b := ⟨⟨a, rfl⟩, b, rfl⟩
  show (if h : (∃ x, ι x = ι a) ∧ ∃ x, ι x = ι b then g h.1.choose h.2.choose else []) = _
  rw [dif_pos h, inj _ _ h.1.choose_spec, inj _ _ h.2.choose_spec]
theorem run_assign_comp2 {α : Type} (ι : α → D) (inj : ∀ a b, ι a = ι b → a = b) (xs : List α) (q : α → α → Bool) (f : α → α → D) {x : Str} {px pos p : Pos} {elt tgt iter tgt2 iter2 c : Expr} {scope : Scope} {src src2 : D} {vmF : List (Str × D)} {bs bs2 : D → List (Str × D)} {rest : List Stmt} {Q : Flow → Shared → Prop}
    (R : Run K s₀ W M env vm s) (rm : Room k A) (hk : KindOk env x) (O : CompOk scope env) (hi : PE prog w M s.heap k (eval iter env) src) (hit : OpIter prog w M s.heap k src (xs.map ι)) (hvm : HV vm scope vmF)
    (hasg : ∀ x ∈ xs, ∀ C, Asg prog w K k (cenvOf scope env C) (fun a => a = C) tgt (ι x) (bs (ι x))) (hbs : ∀ d ∈ xs.map ι, ∀ x e, vmF.lookup x = some e → (bs d).lookup x = none)
    (hasg2 : ∀ x ∈ xs, ∀ C, Asg prog w K k (cenvOf scope env C) (fun a => a = C) tgt2 (ι x) (bs2 (ι x))) (hbs2 : ∀ d ∈ xs.map ι, ∀ d' ∈ xs.map ι, ∀ x e, (bs d ++ vmF).lookup x = some e → (bs2 d').lookup x = none)
    (hitem1 : ∀ x ∈ xs, ∀ W h' C, (∀ a, M a → W a) → Sc K W h' → Fm W (cenvOf scope env C) (bs (ι x) ++ vmF) h' → PE prog w W h' k (eval iter2 (cenvOf scope env C)) src2 ∧ OpIter prog w W h' k src2 (xs.map ι))
    (hitem : ∀ x ∈ xs, ∀ y ∈ xs, ∀ W h' C, (∀ a, M a → W a) → Sc K W h' → Fm W (cenvOf scope env C) (bs2 (ι y) ++ (bs (ι x) ++ vmF)) h' →
      PB prog w h' k (isTrue c (cenvOf scope env C) (eval c (cenvOf scope env C))) (q x y) ∧ (q x y = true → PE prog w W h' k (eval elt (cenvOf scope env C)) (f x y)))
    (hlen : (xs.flatMap fun x => (xs.filter (q x)).map (f x)).length ≤ 100000)
    (hs : swapsWith (.ListComp elt [⟨tgt, iter, [], 0⟩, ⟨tgt2, iter2, [c], 0⟩] scope p) (some (.Name x px)) pos.line env = pure true)
    (nx : ∀ s', Run K s₀ W M env ((x, .lst (xs.flatMap fun x => (xs.filter (q x)).map (f x))) :: vm) s' → Ext (Own env) s.heap s'.heap → Go (model prog w) A (execs rest env) Q E s')
    (hfold : ∀ x, foldedSetIterable iter env x = pure x := by intro _; rfl) (hfold2 : ∀ e x, foldedSetIterable iter2 e x = pure x := by intro _ _; rfl) :
    Go (model prog w) A (execs (.Assign [.Name x px] (.ListComp elt [⟨tgt, iter, [], 0⟩, ⟨tgt2, iter2, [c], 0⟩] scope p) pos :: rest) env) Q E s := by
  obtain ⟨g', e⟩ := back2_of ι inj fun x y => if q x y then [f x y] else []
  have e1 : ∀ x, ∀ l : List α, (l.map ι).flatMap (g' (ι x)) = (l.filter (q x)).map (f x) := by
    intro x l
    induction l with
    | nil => rfl
    | cons a l ih =>
      rw [List.map_cons, List.flatMap_cons, ih, e]
      cases hq : q x a with
      | true => rw [List.filter_cons_of_pos hq]; rfl
      | false => rw [List.filter_cons_of_neg (by rw [hq]; exact Bool.false_ne_true)]; rfl
  have e2 : ∀ ys : List α, ((ys.map ι).flatMap fun d => (xs.map ι).flatMap (g' d)) = ys.flatMap fun x => (xs.filter (q x)).map (f x) := by
    intro ys
    induction ys with
    | nil => rfl
    | cons a l ih => rw [List.map_cons, List.flatMap_cons, List.flatMap_cons, ih, e1]
  refine .of (wpAny_execs_cons ?_)
  rw [exec_Assign_Name_used _ _ _ _ hs]
  refine wpAny_bind (wpAny_standAt (wpAny_bind ?_))
  show wpAny _ A (do let _ ← comprehension (.ListComp elt [⟨tgt, iter, [], 0⟩, ⟨tgt2, iter2, [c], 0⟩] scope p) scope env _ (newList []) false (eval iter env) (some (assign (.Name x px) env))) _ _ s
  refine wpAny_bind (wpAny_mono (comp2_pipe (Q := fun _ s' => wpAny (model prog w) A (execs rest env) Q E s') (use := some (assign (.Name x px) env)) (bs := bs) (bs2 := bs2) (g := g') (src2 := src2) R.sc R.fm O hi hit hvm.go (fun d hd => ?_) hbs (fun d hd => ?_) hbs2 (fun d hd => ?_) (fun d hd d' hd' => ?_) (by rw [e2]; exact hlen) hfold hfold2 rm (Keep.refl _) fun s₁ C D₀ s' k1 hDC fC fD C' => ?_) (fun _ s' hq => wpAny_pure (wpAny_pure hq)) fun _ _ e => e)
  · obtain ⟨x, hx, rfl⟩ := List.mem_map.mp hd; exact hasg x hx
  · obtain ⟨x, hx, rfl⟩ := List.mem_map.mp hd; exact hasg2 x hx
  · obtain ⟨x, hx, rfl⟩ := List.mem_map.mp hd; exact hitem1 x hx
  · obtain ⟨x, hx, rfl⟩ := List.mem_map.mp hd
    obtain ⟨y, hy, rfl⟩ := List.mem_map.mp hd'
    intro W h' C a b d
    obtain ⟨h1, h2⟩ := hitem x hx y hy W h' C a b d
    rw [e]
    exact ⟨q x y, PT.one h1, fun z => ⟨_, h2 z, by rw [if_pos z]⟩, fun z => by rw [if_neg (by rw [z]; exact Bool.false_ne_true)]⟩
  · rw [e2] at C'
    exact comp_assigned (Q := fun _ s' => wpAny (model prog w) A (execs rest env) Q E s') R hk k1 hDC fC fD rfl C' fun s' R' e' => (nx s' R' e').run
end
end
section
set_option linter.unusedVariables false
open PySem PySem.W PySem.Calls PyProof.Rows PySem.Spec
section
variable {w : World} {M : Addr → Prop} {h : Heap} {k : Nat} {env : Env} {vm : List (Str × D)}
noncomputable abbrev pairD (p : Int × Int) : D := .tup [.int p.1, .int p.2]
theorem inj_pair : ∀ a b, pairD a = pairD b → a = b := fun ⟨a, b⟩ ⟨c, d⟩ e => by
  simp only [D.tup.injEq, List.cons.injEq, D.int.injEq] at e
  rw [e.1, e.2.1]
noncomputable def crossP (a b : Int × Int) : Bool := decide (a.1 < b.1) && (decide (b.1 < a.2) && decide (a.2 < b.2))
noncomputable def nestP (a b : Int × Int) : Bool := decide (a.1 < b.1) && decide (b.2 < a.2)
noncomputable def cnt2 (q : Int × Int → Int × Int → Bool) (ts : List (Int × Int)) : Nat := (ts.flatMap fun a => ts.filter (q a)).length
theorem cnt2_eq (q : Int × Int → Int × Int → Bool) (ts : List (Int × Int)) (d : D) : (ts.flatMap fun a => (ts.filter (q a)).map fun _ => d).length = cnt2 q ts := by
  unfold cnt2
  simp [List.length_flatMap]
theorem cnt2_le (q : Int × Int → Int × Int → Bool) {ts : List (Int × Int)} (h : ts.length ≤ 100) (d : D) : (ts.flatMap fun a => (ts.filter (q a)).map fun _ => d).length ≤ 100000 := by
  have : ∀ l : List (Int × Int), (l.flatMap fun a => (ts.filter (q a)).map fun _ => d).length ≤ l.length * 100 := by
    intro l
    induction l with
    | nil => simp
    | cons a l ih =>
      rw [List.flatMap_cons, List.length_append, List.length_map, List.length_cons]
      have := List.length_filter_le (q a) ts
      lia
  have := this ts
  lia
theorem fn_pairs {ts : List (Int × Int)} (ht : ts.length ≤ 100) : FnP PP w (FK w) 293 [.lst (ts.map pairD)] [] (.tup [.int (cnt2 crossP ts), .int (cnt2 nestP ts)]) (k + 1) := by
  refine FnP.by (names := ["ties"]) (bds := [.lst (ts.map pairD)]) (by with_unfolding_all rfl) rfl (by kernel_rfl!) ⟨rfl, rfl, rfl, rfl, by decide +kernel, by decide +kernel, by decide +kernel, by decide +kernel⟩ rfl rfl
    (fun M s vs us S r1 r2 => by obtain ⟨_, rfl, a⟩ := rdl1 r1; cases rdl0 r2; exact ⟨_, BindsTo.of_eq (by kernel_rfl!), .cons a .nil⟩) rfl ?_
  intro M env A s s₁ I rm R
  simp only [List.zip_cons_cons, List.zip_nil_right] at R
  have O := I.ok rfl
  have S := R.sc
  have F := R.fm
  refine run_assign_comp2 pairD inj_pair ts crossP (fun _ _ => D.int 1) (vmF := [("ties", .lst (ts.map pairD))]) (bs := fun d => match d with | .tup [a, b] => [("b", b), ("a", a)] | _ => []) (bs2 := fun d => match d with | .tup [a, b] => [("d", b), ("c", a)] | _ => []) (src2 := .lst (ts.map pairD)) R rm (I.kindOk (by kernel_rfl!) (by kernel_rfl!)) (I.comp (by kernel_rfl!) rfl (by kernel_rfl!) (by kernel_rfl!))
    (by wtm_at "PE") (OpIter.list S) (HV.cons (by wtm_at "LOOK") (by kernel_rfl!) HV.nil) (fun p _ C => Asg.pairC (by kernel_rfl!) (by kernel_rfl!) (by kernel_rfl!) (by kernel_rfl!)) (fun d hd => ?_) (fun p _ C => Asg.pairC (by kernel_rfl!) (by kernel_rfl!) (by kernel_rfl!) (by kernel_rfl!)) (fun d hd d' hd' => ?_)
    (fun p _ W h' C _ S F => ?_) (fun p _ q _ W h' C _ S F => ?_) (cnt2_le crossP ht _) (I.swap1 (by with_unfolding_all rfl)) fun s2 R2 e2 => ?_
  · obtain ⟨x, _, rfl⟩ := List.mem_map.mp hd; exact off2 (by kernel_rfl!)
  · obtain ⟨x, _, rfl⟩ := List.mem_map.mp hd
    obtain ⟨y, _, rfl⟩ := List.mem_map.mp hd'
    exact off2 (by kernel_rfl!)
  · have F : Fm W _ [("b", .int p.2), ("a", .int p.1), ("ties", .lst (ts.map pairD))] h' := F
    exact ⟨by wtm_at "PE", OpIter.list S⟩
  · have F : Fm W _ [("d", .int q.2), ("c", .int q.1), ("b", .int p.2), ("a", .int p.1), ("ties", .lst (ts.map pairD))] h' := F
    exact ⟨PB.chain (by wtm_at "PE") (PCh.cons (by wtm_at "PE") Op2.lt_int (PCh.cons (by wtm_at "PE") Op2.lt_int (PCh.one (by wtm_at "PE") Op2.lt_int))) (by rfl), fun _ => by wtm_at "PE"⟩
  · have S := R2.sc
    have F := R2.fm
    refine run_assign_comp2 pairD inj_pair ts nestP (fun _ _ => D.int 1) (vmF := [("ties", .lst (ts.map pairD))]) (bs := fun d => match d with | .tup [a, b] => [("b", b), ("a", a)] | _ => []) (bs2 := fun d => match d with | .tup [a, b] => [("d", b), ("c", a)] | _ => []) (src2 := .lst (ts.map pairD)) R2 rm (I.kindOk (by kernel_rfl!) (by kernel_rfl!)) (I.comp (by kernel_rfl!) rfl (by kernel_rfl!) (by kernel_rfl!))
      (by wtm_at "PE") (OpIter.list S) (HV.cons (by wtm_at "LOOK") (by kernel_rfl!) HV.nil) (fun p _ C => Asg.pairC (by kernel_rfl!) (by kernel_rfl!) (by kernel_rfl!) (by kernel_rfl!)) (fun d hd => ?_) (fun p _ C => Asg.pairC (by kernel_rfl!) (by kernel_rfl!) (by kernel_rfl!) (by kernel_rfl!)) (fun d hd d' hd' => ?_)
      (fun p _ W h' C _ S F => ?_) (fun p _ q _ W h' C _ S F => ?_) (cnt2_le nestP ht _) (I.swap1 (by with_unfolding_all rfl)) fun s3 R3 e3 => ?_
    · obtain ⟨x, _, rfl⟩ := List.mem_map.mp hd; exact off2 (by kernel_rfl!)
    · obtain ⟨x, _, rfl⟩ := List.mem_map.mp hd
      obtain ⟨y, _, rfl⟩ := List.mem_map.mp hd'
      exact off2 (by kernel_rfl!)
    · have F : Fm W _ [("b", .int p.2), ("a", .int p.1), ("ties", .lst (ts.map pairD))] h' := F
      exact ⟨by wtm_at "PE", OpIter.list S⟩
    · have F : Fm W _ [("d", .int q.2), ("c", .int q.1), ("b", .int p.2), ("a", .int p.1), ("ties", .lst (ts.map pairD))] h' := F
      exact ⟨PB.and2 (PB.cmp (by wtm_at "PE") (by wtm_at "PE") Op2.lt_int rfl) (fun _ => PB.cmp (by wtm_at "PE") (by wtm_at "PE") Op2.lt_int rfl), fun _ => by wtm_at "PE"⟩
    · have S := R3.sc
      have F := R3.fm
      exact run_ret' rm (d' := .tup [.int (cnt2 crossP ts), .int (cnt2 nestP ts)]) (PE.tuple S (PLs.cons (PE.callF (.builtin "len") (glob_bi (by wtm_at "ENVOK") S (n_len _) b_len (by decide) (by wtm_at "KIND")) (by kernel_rfl!) keep_bi (by wtm_at "PLS") PKw.nil (OpN.len_lst (cnt2_le crossP ht _)) rfl) (PLs.cons (PE.callF (.builtin "len") (glob_bi (by wtm_at "ENVOK") S (n_len _) b_len (by decide) (by wtm_at "KIND")) (by kernel_rfl!) keep_bi (by wtm_at "PLS") PKw.nil (OpN.len_lst (cnt2_le nestP ht _)) rfl) PLs.nil)) (Nat.le_of_ble_eq_true (by kernel_rfl!)))
        (by rw [cnt2_eq, cnt2_eq]) fun v s' kp r => pure_ret R3 kp r
end
end
section
set_option linter.unusedVariables false
open PySem PySem.W PySem.Calls PyProof.Rows PySem.Spec Q
noncomputable abbrev B2 (M : Addr → Prop) (env : Env) (a b : Addr) : Addr → Prop := fun x => Mof M env x ∨ x = a ∨ x = b
noncomputable abbrev B3 (M : Addr → Prop) (env : Env) (a b c : Addr) : Addr → Prop := fun x => Mof M env x ∨ x = a ∨ x = b ∨ x = c
section
variable {w : World} {K : Frag} {M N : Addr → Prop} {h : Heap} {k : Nat} {env : Env} {vm : List (Str × D)} {A A₀ : Around} {E : Value → Shared → Prop} {s₀ s s' : Shared}
theorem RunX.mutE {l : Addr} (R : RunX K A₀ s₀ N env vm s) (same : ∃ h t, s' = { s with heap := h, toks := t }) (e : Ext (· = l) s.heap s'.heap) (hN : N l) (fr : s₀.heap.get? l = none) (nL : l ≠ env.locals) (nC : ∀ x c, env.cells.lookup x = some c → l ≠ c) (al : (s'.heap.get? l).isSome = true) :
    RunX K A₀ s₀ N env vm s' := by
  obtain ⟨h', tk, rfl⟩ := same
  have eN : Ext N s.heap h' := e.mono fun a z => z ▸ hN
  obtain ⟨⟨⟨hR, tR, eR⟩, Rk, b, c, d⟩, up⟩ := R
  refine ⟨⟨⟨h', tk, by rw [eR]⟩, fun x o n q => e x o (fun z => by rw [z, fr] at q; cases q) (Rk x o n q), b.ext eN fun x m => ?_, ?_, d⟩, fun x hx o ho hd => ?_⟩
  · by_cases z : x = l
    · subst z; exact al
    · have := b.alive x m
      obtain ⟨o, ho⟩ := Option.isSome_iff_exists.mp this
      show (h'.get? x).isSome = true
      rw [e x o z ho]; rfl
  · refine ⟨c.kind, c.inL, c.inC, ?_, fun x y q => ?_, c.celK, c.apart, c.vis⟩
    · obtain ⟨m, hn, hm⟩ := c.loc
      exact ⟨m, ns_ext hn e (Ne.symm nL), fun x d' p q => let ⟨v, z, r⟩ := hm x d' p q; ⟨v, z, r.ext eN⟩⟩
    · obtain ⟨ov, ⟨o, ho, hd⟩, hv⟩ := c.cel x y q
      exact ⟨ov, ⟨o, e y o (fun z => nC x y q z.symm) ho, hd⟩, fun d' q => let ⟨v, z, r⟩ := hv d' q; ⟨v, z, r.ext eN⟩⟩
  · obtain ⟨sl, hs⟩ := up x hx o ho hd
    exact ⟨sl, e x _ (fun z => by rw [z, fr] at ho; cases ho) hs⟩
theorem RunX.xkN (R : RunX K A₀ s₀ N env vm s) (Fa : Fra A₀ A M env s₀) (Fr : Frs A N s.heap) (x : XK A s s') : RunX K A₀ s₀ N env vm s' := by
  obtain ⟨⟨⟨hR, tR, eR⟩, Rk, b, c, d⟩, up⟩ := R
  have S' := b.xk Fr x
  have F' := c.xk Fr x
  obtain ⟨⟨h', tk, rfl⟩, ext, xu⟩ := x
  refine ⟨⟨⟨h', tk, by rw [eR]⟩, fun z o n q => ext z o (fun y => ?_) (Rk z o n q), S', F', d⟩, fun z hz o ho hd => ?_⟩
  · rw [Fa.frL] at y
    rcases List.mem_cons.mp y with y | y
    · rw [d z (.inl y)] at q; cases q
    · exact n y
  · obtain ⟨sl, hs⟩ := up z hz o ho hd
    obtain ⟨sl', hs'⟩ := xu z (by rw [Fa.frL]; exact List.mem_cons_of_mem _ hz) _ hs hd
    exact ⟨sl', hs'⟩
theorem meth_mut {y name : Str} {q ap p : Pos} {x l f : Addr} {es es' : List (Str × Str)} {args : List Expr} {kws : List Keyword} {as : List D} {ks : List (Str × D)} {d : D} {j : Nat} {Q : Value → Shared → Prop}
    (rm : Room k A) (S : Sc (FK w) N s.heap) (off : Off (FK w) l) (hx : Looks (model PP w) s.heap (loadName env y) (.ref x)) (hyd : (y == ("__debug__" : Str)) = false) (H : Rd N s.heap (.ref x) (.hdr l es))
    (hf : findIn (FK w) (.ref 248) name = some (some (.ref f))) (ht : typeIn (FK w) (.ref f) = some (.type "function")) (hn : (("_headers" : Str) == name) = false) (kpf : ∀ {M : Addr → Prop} {h : Heap}, Sc (FK w) M h → Looks (model PP w) h (keeperOf (.ref f)) .frame)
    (F : FnM PP w (FK w) f as ks d es es' j) (hj : j ≤ k) (ha : PLs PP w N s.heap k env args as) (hk : PKw PP w N s.heap k env kws ks)
    (hq : ∀ v s', (∃ h t, s' = { s with heap := h, toks := t }) → Ext (· = l) s.heap s'.heap → Rd N s'.heap v d → Rd N s'.heap (.ref x) (.hdr l es') → Q v s')
    (hst : (starEach args env).any (·.1) = false := by rfl)
    (hbase : attributeBase (.Name y q) name env (eval (.Name y q) env) = eval (.Name y q) env := by rfl)
    (hfew : methodCallForm (args.length + kws.length) (backTo p (starEach args env)) (backToKw p (keywordEach kws env)) = true := by rfl)
    (hline : (ap.endLine == p.line) = true := by rfl) :
    wpAny (model PP w) A (eval (.Call (.Attribute (.Name y q) name ap) args kws p) env) Q E s := by
  rw [arm_eval_Call, hbase]
  refine wpAny_bind (wpAny_Name (hx.here (wpAny_bind (wpAny_standAt ?_))) hyd)
  unfold methodCall
  rw [hfew]
  refine wpAny_bind (wpAny_holding ?_)
  show wpAny _ _ (getMethod (.ref x) name (do return (← importBound (.Name y q) env).getD true)) _ _ _
  have H0 := H
  cases H with
  | @hdr _ dd _ _ vs n1 n2 n3 I hl hr =>
    obtain ⟨hs, tk, n, I'⟩ := I.inst
    refine method_fn S.inn I' (c_ga w) (c_gattr w) hf ht (shadow (x := x) (dd := dd) hn) ?_
    unfold methodCallPos
    rw [hline]
    refine wpAny_bind (wpAny_pure ?_)
    refine any_callWith (h := s.heap) rm (Keep.refl _) hst ha hk (kpf S) fun vs us s2 k2 r1 r2 => ?_
    refine wpAny_call (codeAny_mono (F.go N A s2 vs us x l (rm.mono hj) (S.keep k2.heap) off (H0.keep k2.heap) r1 r2) fun r s3 z => ?_)
    obtain ⟨v, rfl, ⟨h3, t3, rfl⟩, e3, rv, H3⟩ := z
    obtain ⟨⟨h2, t2, rfl⟩, kk⟩ := k2
    exact hq v _ ⟨h3, t3, rfl⟩ (fun b o n q => e3 b o n (kk b o q)) rv H3
theorem del_mut {y : Str} {q p pos : Pos} {x l : Addr} {es es' : List (Str × Str)} {i : Expr} {n : Str} {j : Nat} {Q : Flow → Shared → Prop} {rest : List Stmt}
    (rm : Room k A) (S : Sc (FK w) N s.heap) (off : Off (FK w) l) (hx : Looks (model PP w) s.heap (loadName env y) (.ref x)) (hyd : (y == ("__debug__" : Str)) = false) (H : Rd N s.heap (.ref x) (.hdr l es))
    (F : FnM PP w (FK w) 166 [.str n] [] .none es es' j) (hj : j ≤ k) (hi : PE PP w N s.heap k (eval i env) (.str n))
    (hq : ∀ s', (∃ h t, s' = { s with heap := h, toks := t }) → Ext (· = l) s.heap s'.heap → Rd N s'.heap (.ref x) (.hdr l es') → Go (model PP w) A (execs rest env) Q E s') :
    Go (model PP w) A (execs (.Delete [.Subscript (.Name y q) i p] pos :: rest) env) Q E s := by
  refine .of (wpAny_execs_cons (wpAny_Delete (wpAny_deleteEach_cons ?_)))
  rw [arm_delete_Subscript]
  refine wpAny_bind (wpAny_Name (hx.here ?_) hyd)
  refine wpAny_bind (wpAny_holding (hi.use rm (Keep.refl _) fun v s2 k2 r2 => ?_))
  refine wpAny_bind (wpAny_standAt (wpAny_bind (wpAny_holding ?_)))
  have H2 := H.keep k2.heap
  have S2 := S.keep k2.heap
  have H0 := H2
  cases H2 using Rd.hdrE with
  | @hdr _ dd _ _ vs n1 n2 n3 I hl hr =>
    obtain ⟨hs, tk, nn, I'⟩ := I.inst
    unfold delItem sequenceKey
    refine wpAny_holding (wpAny_bind (wpAny_bind (I'.type.here ?_)))
    refine wpAny_bind ((anyM_none S2.inn (c_noseq w)).here ?_)
    rw [if_pos (show (!false) = true from rfl)]
    refine wpAny_pure (wpAny_bind (special_fn S2.inn I' (c_delitem w) (t_delitem w) ?_))
    refine wpAny_call (codeAny_mono (F.go N A s2 [v] [] x l (rm.mono hj) S2 off H0 (.cons r2 .nil) .nil) fun r s3 z => ?_)
    obtain ⟨v', rfl, ⟨h3, t3, rfl⟩, e3, rv, H3⟩ := z
    obtain ⟨⟨h2, t2, rfl⟩, kk⟩ := k2
    refine wpAny_pure (any_release (wpAny_deleteEach_nil ?_))
    exact (hq _ ⟨h3, t3, rfl⟩ (fun b o n q => e3 b o n (kk b o q)) H3).run
structure TS (w : World) (A₀ : Around) (s₀ : Shared) (M : Addr → Prop) (env : Env) (x1 l1 x2 l2 T : Addr) (es1 es2 : List (Str × Str)) (ts : List (Int × Int)) (vm : List (Str × D)) (s : Shared) : Prop where
  run : RunX (FK w) A₀ s₀ (B3 M env l1 l2 T) env vm s
  h1 : Rd (B2 M env l2 T) s.heap (.ref x1) (.hdr l1 es1)
  h2 : Rd (B2 M env l1 T) s.heap (.ref x2) (.hdr l2 es2)
  tl : ∃ vs, s.heap.PlainList T vs.toArray ∧ RdL (B3 M env l1 l2 T) s.heap vs (ts.map pairD)
structure TF (w : World) (s₀ : Shared) (M : Addr → Prop) (env : Env) (l1 l2 T : Addr) : Prop where
  f1 : s₀.heap.get? l1 = none
  f2 : s₀.heap.get? l2 = none
  fT : s₀.heap.get? T = none
  o1 : Off (FK w) l1
  o2 : Off (FK w) l2
  n1 : ¬ Mof M env l1
  n2 : ¬ Mof M env l2
  nT : ¬ Mof M env T
variable {x1 l1 x2 l2 T : Addr} {es1 es2 : List (Str × Str)} {ts : List (Int × Int)}
theorem hdr_parts {x l : Addr} {es : List (Str × Str)} (H : Rd N h (.ref x) (.hdr l es)) : ¬ N l ∧ (h.get? l).isSome = true := by
  cases H with
  | hdr n1 n2 n3 I hl hr => obtain ⟨c, ho⟩ := hl; exact ⟨n3, by rw [ho]; rfl⟩
theorem TS.ne1T (t : TS w A₀ s₀ M env x1 l1 x2 l2 T es1 es2 ts vm s) : l1 ≠ T := fun z => (hdr_parts t.h1).1 (.inr (.inr z))
theorem TS.ne2T (t : TS w A₀ s₀ M env x1 l1 x2 l2 T es1 es2 ts vm s) : l2 ≠ T := fun z => (hdr_parts t.h2).1 (.inr (.inr z))
theorem TS.S0 (t : TS w A₀ s₀ M env x1 l1 x2 l2 T es1 es2 ts vm s) : Sc (FK w) (B3 M env l1 l2 T) s.heap := t.run.run.sc
theorem TS.S1 (t : TS w A₀ s₀ M env x1 l1 x2 l2 T es1 es2 ts vm s) : Sc (FK w) (B2 M env l2 T) s.heap := t.S0.sub fun a z => z.elim .inl fun z => .inr (.inr z)
theorem TS.S2 (t : TS w A₀ s₀ M env x1 l1 x2 l2 T es1 es2 ts vm s) : Sc (FK w) (B2 M env l1 T) s.heap := t.S0.sub fun a z => z.elim .inl fun z => .inr (z.elim .inl fun z => .inr (.inr z))
theorem TS.F0 (t : TS w A₀ s₀ M env x1 l1 x2 l2 T es1 es2 ts vm s) : Fm (B3 M env l1 l2 T) env vm s.heap := t.run.run.fm
theorem TS.G1 (t : TS w A₀ s₀ M env x1 l1 x2 l2 T es1 es2 ts vm s) : Fm (B2 M env l2 T) env vm s.heap :=
  t.F0.swap (fun a _ n m => n (m.elim .inl fun z => .inr (.inr z))) (.inl (.inr (.inl rfl))) fun x c e => .inl (.inr (.inr ⟨x, e⟩))
theorem TS.G2 (t : TS w A₀ s₀ M env x1 l1 x2 l2 T es1 es2 ts vm s) : Fm (B2 M env l1 T) env vm s.heap :=
  t.F0.swap (fun a _ n m => n (m.elim .inl fun z => .inr (z.elim .inl fun z => .inr (.inr z)))) (.inl (.inr (.inl rfl))) fun x c e => .inl (.inr (.inr ⟨x, e⟩))
theorem TS.pure (t : TS w A₀ s₀ M env x1 l1 x2 l2 T es1 es2 ts vm s) (kp : Kp s s') : TS w A₀ s₀ M env x1 l1 x2 l2 T es1 es2 ts vm s' :=
  ⟨t.run.pure kp, t.h1.keep kp.heap, t.h2.keep kp.heap, let ⟨vs, a, b⟩ := t.tl; ⟨vs, a.at fun o q => kp.heap _ o q, b.keep kp.heap⟩⟩
theorem TS.sub {vm' : List (Str × D)} (t : TS w A₀ s₀ M env x1 l1 x2 l2 T es1 es2 ts vm s) (i : ∀ x d, vm'.lookup x = some d → vm.lookup x = some d) : TS w A₀ s₀ M env x1 l1 x2 l2 T es1 es2 ts vm' s := ⟨t.run.sub i, t.h1, t.h2, t.tl⟩
theorem TS.own {vm' : List (Str × D)} (t : TS w A₀ s₀ M env x1 l1 x2 l2 T es1 es2 ts vm s) (f : TF w s₀ M env l1 l2 T) (R' : Run (FK w) s₀ (· ∈ frL A₀) (B3 M env l1 l2 T) env vm' s') (e : Ext (Own env) s.heap s'.heap) : TS w A₀ s₀ M env x1 l1 x2 l2 T es1 es2 ts vm' s' :=
  ⟨t.run.own R' e, t.h1.ext (e.mono fun a o => .inl (.inr o)), t.h2.ext (e.mono fun a o => .inl (.inr o)), let ⟨vs, a, b⟩ := t.tl; ⟨vs, a.at fun o q => e _ o (fun z => f.nT (.inr z)) q, b.ext (e.mono fun a o => .inl (.inr o))⟩⟩
theorem TS.ownX {vm' : List (Str × D)} (t : TS w A₀ s₀ M env x1 l1 x2 l2 T es1 es2 ts vm s) (f : TF w s₀ M env l1 l2 T) (hfr : ∀ a ∈ frL A, Mof M env a) (R' : RunX (FK w) A₀ s₀ (B3 M env l1 l2 T) env vm' s') (e : Ext (fun a => Own env a ∨ a ∈ frL A) s.heap s'.heap) : TS w A₀ s₀ M env x1 l1 x2 l2 T es1 es2 ts vm' s' := by
  have i : ∀ a, (Own env a ∨ a ∈ frL A) → Mof M env a := fun a z => z.elim (.inr ·) (hfr a)
  exact ⟨R', t.h1.ext (e.mono fun a o => .inl (i a o)), t.h2.ext (e.mono fun a o => .inl (i a o)), let ⟨vs, a, b⟩ := t.tl; ⟨vs, a.at fun o q => e _ o (fun z => f.nT (i _ z)) q, b.ext (e.mono fun a o => .inl (i a o))⟩⟩
theorem nl_of (n : ¬ Mof M env T) : T ≠ env.locals ∧ ∀ x c, env.cells.lookup x = some c → T ≠ c := ⟨fun z => n (.inr (.inl z)), fun x c e z => n (.inr (.inr ⟨x, z ▸ e⟩))⟩
theorem TS.mut1 {es' : List (Str × Str)} (t : TS w A₀ s₀ M env x1 l1 x2 l2 T es1 es2 ts vm s) (f : TF w s₀ M env l1 l2 T) (same : ∃ h t, s' = { s with heap := h, toks := t }) (e : Ext (· = l1) s.heap s'.heap) (H : Rd (B2 M env l2 T) s'.heap (.ref x1) (.hdr l1 es')) :
    TS w A₀ s₀ M env x1 l1 x2 l2 T es' es2 ts vm s' :=
  ⟨t.run.mutE same e (.inr (.inl rfl)) f.f1 (nl_of f.n1).1 (nl_of f.n1).2 (hdr_parts H).2, H, t.h2.ext (e.mono fun a z => .inr (.inl z)), let ⟨vs, a, b⟩ := t.tl; ⟨vs, a.at fun o q => e _ o (fun z => t.ne1T z.symm) q, b.ext (e.mono fun a z => .inr (.inl z))⟩⟩
theorem TS.mut2 {es' : List (Str × Str)} (t : TS w A₀ s₀ M env x1 l1 x2 l2 T es1 es2 ts vm s) (f : TF w s₀ M env l1 l2 T) (same : ∃ h t, s' = { s with heap := h, toks := t }) (e : Ext (· = l2) s.heap s'.heap) (H : Rd (B2 M env l1 T) s'.heap (.ref x2) (.hdr l2 es')) :
    TS w A₀ s₀ M env x1 l1 x2 l2 T es1 es' ts vm s' :=
  ⟨t.run.mutE same e (.inr (.inr (.inl rfl))) f.f2 (nl_of f.n2).1 (nl_of f.n2).2 (hdr_parts H).2, t.h1.ext (e.mono fun a z => .inr (.inl z)), H, let ⟨vs, a, b⟩ := t.tl; ⟨vs, a.at fun o q => e _ o (fun z => t.ne2T z.symm) q, b.ext (e.mono fun a z => .inr (.inr (.inl z)))⟩⟩
theorem TS.iter {I : Addr} {h' : Heap} {tk : Nat} (t : TS w A₀ s₀ M env x1 l1 x2 l2 T es1 es2 ts vm s) (Fr : Frs A₀ M s₀.heap) (f0 : s₀.heap.get? I = none) (nN : ¬ B3 M env l1 l2 T I) (nK : (FK w).lookup I = none) (nB : I ≠ builtinsNs) (nS : I ≠ cStatics)
    (he : ∀ b o, b ≠ I → s.heap.get? b = some o → h'.get? b = some o) (ho : ∃ o fs, s.heap.get? I = some o ∧ o.data = .fields fs ∧ ¬ Solid o) : TS w A₀ s₀ M env x1 l1 x2 l2 T es1 es2 ts vm { s with heap := h', toks := tk } := by
  have R' := t.run.run.iter (tk := tk) f0 nN nK nB nS he ho
  obtain ⟨o, fs, ho1, ho2, ho3⟩ := ho
  have n : ∀ o', s.heap.get? I = some o' → ¬ Solid o' := fun o' z => by rw [ho1] at z; cases z; exact ho3
  refine ⟨⟨R', fun b hb o q hd => ?_⟩, Rd.iter he n t.h1, Rd.iter he n t.h2, ?_⟩
  · obtain ⟨sl, hs⟩ := t.run.up b hb o q hd
    exact ⟨sl, he b _ (fun z => by rw [z, f0] at q; cases q) hs⟩
  · obtain ⟨vs, a, b⟩ := t.tl
    exact ⟨vs, a.at fun o q => he _ o (fun z => nN (.inr (.inr (.inr z.symm)))) q, RdL.iter he n b⟩
theorem TS.push {p : Int × Int} (t : TS w A₀ s₀ M env x1 l1 x2 l2 T es1 es2 ts vm s) (R' : Run (FK w) s₀ (· ∈ frL A₀) (B3 M env l1 l2 T) env vm s') (f : TF w s₀ M env l1 l2 T) (e : Ext (· = T) s.heap s'.heap) {vs' : List Value} (hP : s'.heap.PlainList T vs'.toArray) (hr : RdL (B3 M env l1 l2 T) s'.heap vs' (ts.map pairD ++ [pairD p])) :
    TS w A₀ s₀ M env x1 l1 x2 l2 T es1 es2 (ts ++ [p]) vm s' :=
  ⟨t.run.to R' e fun a z => z ▸ f.fT, t.h1.ext (e.mono fun a z => .inr (.inr z)), t.h2.ext (e.mono fun a z => .inr (.inr z)), vs', hP, by rw [List.map_append]; exact hr⟩
end
end
section
set_option linter.unusedVariables false
open PySem PySem.W PySem.Calls PyProof.Rows PySem.Spec
section
variable {w : World} {M : Addr → Prop} {h : Heap} {k : Nat} {env : Env} {vm : List (Str × D)}
noncomputable def apLit : Array UInt8 := #[65, 66, 67, 68, 69, 70, 71, 72, 73, 74, 75, 76, 77, 78, 79, 80]
noncomputable def apB (m : Nat) : Array UInt8 := if h : m = 0 then #[] else apB (m / 16) ++ #[(65 + m % 16).toUInt8]
termination_by m
decreasing_by lia
theorem apB_size (m : Nat) : (apB m).size ≤ m := by
  induction m using Nat.strongRecOn with
  | _ m ih =>
    rw [apB]
    split
    · simp
    · have := ih (m / 16) (by lia)
      simp; lia
theorem ap_pick (m : Nat) : KBy.picked apLit (some ((m % 16 : Nat) : Int)) (some (((m % 16 : Nat) : Int) + 1)) = #[(65 + m % 16).toUInt8] := by
  have : ∀ i : Fin 16, KBy.picked apLit (some ((i.val : Nat) : Int)) (some (((i.val : Nat) : Int) + 1)) = #[(65 + i.val).toUInt8] := by decide +kernel
  exact this ⟨m % 16, Nat.mod_lt _ (by decide)⟩
theorem fn_int2ap {a : Int} (ha : a.natAbs ≤ 1000000) : FnP PP w (FK w) 58 [.int a] [] (.bytes (apB a.natAbs)) (k + 1) := by
  refine FnP.by (names := ["num"]) (bds := [.int a]) (by with_unfolding_all rfl) rfl (by kernel_rfl!) ⟨rfl, rfl, rfl, rfl, by decide +kernel, by decide +kernel, by decide +kernel, by decide +kernel⟩ rfl rfl
    (fun M s vs us S r1 r2 => by obtain ⟨_, rfl, a⟩ := rdl1 r1; cases rdl0 r2; exact ⟨_, BindsTo.of_eq (by kernel_rfl!), .cons a .nil⟩) rfl ?_
  intro M env A s s₁ I rm R
  simp only [List.zip_cons_cons, List.zip_nil_right] at R
  have O := I.ok rfl
  have F := R.fm
  refine run_assign R rm (PE.to (by wtm_at "PE") (show D.bytes _ = .bytes #[] by rfl)) (I.kindOk (by kernel_rfl!) (by kernel_rfl!)) (I.swap0 (by with_unfolding_all rfl)) fun s2 R2 e2 => ?_
  have F := R2.fm
  refine run_assign R2 rm (PE.to (by wtm_at "PE") (show D.bytes _ = .bytes apLit by rfl)) (I.kindOk (by kernel_rfl!) (by kernel_rfl!)) (I.swap0 (by with_unfolding_all rfl)) fun s3 R3 e3 => ?_
  have S := R3.sc
  have F := R3.fm
  refine run_assign R3 rm (PE.to (PE.callF (.type "int") (glob_bi (by wtm_at "ENVOK") S (n_int _) b_int (by decide) (by wtm_at "KIND")) (by kernel_rfl!) keep_ty (PLs.cons (PE.callF (.builtin "abs") (glob_bi (by wtm_at "ENVOK") S (n_abs _) b_abs (by decide) (by wtm_at "KIND")) (by kernel_rfl!) keep_bi (by wtm_at "PLS") PKw.nil OpN.abs_int rfl) PLs.nil) PKw.nil OpN.int_int rfl)
    (show D.int (if a < 0 then -a else a) = .int (a.natAbs : Nat) by congr 1; split <;> lia)) (I.kindOk (by kernel_rfl!) (by kernel_rfl!)) (I.swap0 (by with_unfolding_all rfl)) fun s4 R4 e4 => ?_
  refine run_while (Inv := fun n s' => ∃ v : Array UInt8, Run (FK w) s (fun _ => False) (Mof M env) env [("num", .int (n : Nat)), ("val", .bytes v), ("AP", .bytes apLit)] s' ∧ apB n ++ v = apB a.natAbs) (c := fun n => (n : Int) != 0) rm a.natAbs ⟨#[], R4.sub (fun x d e => ?_), by simp⟩ ?_ ?_ ?_ ?_
  · have hp := mem_of_lookup e
    simp only [List.mem_cons, List.not_mem_nil, or_false, Prod.mk.injEq] at hp
    rcases hp with ⟨rfl, rfl⟩ | ⟨rfl, rfl⟩ | ⟨rfl, rfl⟩ <;> wtm_at "LOOK"
  · rintro n s' ⟨v, R, e⟩
    have F := R.fm
    exact PB.val (by wtm_at "PE") OpT.int
  · rintro n s' s'' ⟨v, R, e⟩ kp
    exact ⟨v, R.pure kp, e⟩
  · rintro n s' ⟨v, R, e⟩ hc
    have S := R.sc
    have F := R.fm
    have hn : n ≠ 0 := by simpa using hc
    have hv : v.size ≤ a.natAbs := by
      have h1 := apB_size a.natAbs
      rw [← e, Array.size_append] at h1
      lia
    refine run_assign2 R rm (PE.to (PE.callF (.builtin "divmod") (glob_bi (by wtm_at "ENVOK") S (n_divmod _) b_divmod (by decide) (by wtm_at "KIND")) (by kernel_rfl!) keep_bi (by wtm_at "PLS") PKw.nil (OpN.divmod16 S) rfl)
      (show D.tup [.int ((n : Int) / 16), .int ((n : Int) % 16)] = .tup [.int ((n / 16 : Nat) : Int), .int ((n % 16 : Nat) : Int)] by rfl)) (I.kindOk (by kernel_rfl!) (by kernel_rfl!)) (I.kindOk (by kernel_rfl!) (by kernel_rfl!)) (I.swap0 (by with_unfolding_all rfl)) (by rfl) fun s5 R5 e5 => ?_
    have F := R5.fm
    have hz : (#[(65 + n % 16).toUInt8] : Array UInt8).size + v.size ≤ 16777216 := by simp; lia
    refine run_assign R5 rm (PE.op2 (PE.to (PE.slice (by wtm_at "PE") (PO.some (by wtm_at "PE")) (PO.some (PE.op2 (by wtm_at "PE") (by wtm_at "PE") Op2.add_int)) PO.none (OpS.bytes (by decide) fun t a => ⟨_, by with_unfolding_all rfl⟩)) (by exact congrArg D.bytes (ap_pick n))) (by wtm_at "PE") (Op2.add_bytes hz)) (I.kindOk (by kernel_rfl!) (by kernel_rfl!)) (I.swap0 (by with_unfolding_all rfl)) fun s6 R6 e6 => ?_
    refine run_end ⟨n / 16, by lia, #[(65 + n % 16).toUInt8] ++ v, R6.sub (fun x d q => ?_), ?_⟩
    · have hp := mem_of_lookup q
      simp only [List.mem_cons, List.not_mem_nil, or_false, Prod.mk.injEq] at hp
      rcases hp with ⟨rfl, rfl⟩ | ⟨rfl, rfl⟩ | ⟨rfl, rfl⟩ <;> wtm_at "LOOK"
    · rw [← e, ← Array.append_assoc]
      congr 1
      conv => rhs; rw [apB]
      rw [dif_neg hn]
  · rintro n s' ⟨v, R, e⟩ hc
    have F := R.fm
    have hn : n = 0 := by simpa using hc
    subst hn
    have hv : v = apB a.natAbs := by rw [← e, apB]; simp
    rw [hv] at F
    exact run_ret rm (d := .bytes (apB a.natAbs)) (by wtm_at "PE") fun v' s5 kp r => pure_ret R kp r
end
end
section
set_option linter.unusedVariables false
open PySem PySem.W PySem.Calls PyProof.Rows PySem.Spec Q
noncomputable def hx (m : Nat) : List Nat := if h : m = 0 then [] else hx (m / 16) ++ [m % 16]
termination_by m
decreasing_by exact ar13 h
theorem hx0 : hx 0 = [] := by rw [hx]; simp
theorem hxS {m : Nat} (h : m ≠ 0) : hx m = hx (m / 16) ++ [m % 16] := by rw [hx, dif_neg h]
theorem hx_lt (m : Nat) : ∀ c ∈ hx m, c < 16 := by
  induction m using Nat.strongRecOn with
  | _ m ih =>
    intro c hc
    by_cases h : m = 0
    · subst h; rw [hx0] at hc; cases hc
    · rw [hxS h] at hc
      rcases List.mem_append.mp hc with q | q
      · exact ih _ (by exact ar13 h) c q
      · have : c = m % 16 := by simpa using q
        lia
theorem hx_ne {m : Nat} (h : m ≠ 0) : hx m ≠ [] := by rw [hxS h]; simp
theorem hx_inj : ∀ (m n : Nat), hx m = hx n → m = n := by
  intro m
  induction m using Nat.strongRecOn with
  | _ m ih =>
    intro n e
    by_cases h : m = 0
    · subst h
      rw [hx0] at e
      by_cases hn : n = 0
      · exact hn.symm
      · exact absurd e.symm (hx_ne hn)
    · by_cases hn : n = 0
      · subst hn; rw [hx0] at e; exact absurd e (hx_ne h)
      · rw [hxS h, hxS hn] at e
        obtain ⟨e1, e2⟩ := List.append_inj' e rfl
        have := ih (m / 16) (by exact ar13 h) (n / 16) e1
        have e3 : m % 16 = n % 16 := by simpa using e2
        lia
theorem hx_len {m : Nat} (h : m < 65536) : (hx m).length ≤ 4 := by
  by_cases h0 : m = 0
  · subst h0; rw [hx0]; decide
  · rw [hxS h0]
    by_cases h1 : m / 16 = 0
    · rw [h1, hx0]; simp
    · rw [hxS h1]
      by_cases h2 : m / 16 / 16 = 0
      · rw [h2, hx0]; simp
      · rw [hxS h2]
        by_cases h3 : m / 16 / 16 / 16 = 0
        · rw [h3, hx0]; simp
        · rw [hxS h3, show m / 16 / 16 / 16 / 16 = 0 by exact ar15 h, hx0]; simp
noncomputable def bigL (m : Nat) : Str := ⟨((hx m).map (65 + ·)).toArray⟩
noncomputable def smallL (m : Nat) : Str := ⟨((hx m).map (97 + ·)).toArray⟩
theorem apB_hx (m : Nat) : apB m = ((hx m).map fun c => (65 + c).toUInt8).toArray := by
  induction m using Nat.strongRecOn with
  | _ m ih =>
    by_cases h : m = 0
    · subst h; rw [apB, hx0]; simp
    · rw [apB, dif_neg h, hxS h, ih _ (by exact ar13 h)]
      simp
theorem apB_text (m : Nat) : (⟨(apB m).map (·.toNat)⟩ : Str) = bigL m := by
  unfold bigL
  rw [apB_hx]
  congr 1
  apply Array.toList_inj.mp
  simp only [Array.toList_map, List.map_map]
  refine List.map_congr_left fun c hc => ?_
  have := hx_lt m c hc
  show ((65 + c).toUInt8).toNat = 65 + c
  simp [Nat.toUInt8]
  lia
theorem letter_at {d : Nat} (h : d < 16) : lettersS.cps.getD d 0 = 65 + d :=
  (by decide +kernel : ∀ d, d < 16 → lettersS.cps.getD d 0 = 65 + d) d h
theorem wordL_nat (m e : Nat) : wordL (m : Int) (e : Int) = ⟨#[65 + m / 16 ^ e % 16]⟩ := by
  unfold wordL
  have h1 : ((m : Int) / 16 ^ ((e : Int)).toNat % 16).toNat = m / 16 ^ e % 16 := by
    have : ((m : Int) / 16 ^ ((e : Int)).toNat % 16) = ((m / 16 ^ e % 16 : Nat) : Int) := by
      simp
    rw [this, Int.toNat_natCast]
  rw [h1, letter_at (Nat.mod_lt _ (by decide))]
theorem dz {m a : Nat} (ha : 0 < a) : (a : Int) ≤ (m : Int) ↔ ¬ m / a = 0 := by rw [Int.ofNat_le, Nat.div_eq_zero_iff_lt ha, Nat.not_lt]
theorem wordU_big {m : Nat} (h : m < 65536) : wordU (m : Int) = bigL m := by
  have w3 := wordL_nat m 3
  have w2 := wordL_nat m 2
  have w1 := wordL_nat m 1
  have w0 := wordL_nat m 0
  simp only [Int.cast_ofNat_Int] at w3 w2 w1 w0
  have j : ∀ l : List Str, Txt.join "" l = ⟨(l.flatMap fun x => x.cps.toList).toArray⟩ := by
    intro l
    show Builtin.Str.glued _ l = _
    rw [StrLaws.glued_eq_join]
    induction l with
    | nil => rfl
    | cons x r ih =>
      cases r with
      | nil => simp [Str.join]
      | cons y r =>
        show x ++ Str.ofString "" ++ Str.join (Str.ofString "") (y :: r) = _
        rw [ih]
        apply Str.ext'
        rw [Str.cps_append, Str.cps_append]
        apply Array.toList_inj.mp
        have : (Str.ofString "").cps = #[] := rfl
        rw [this]
        simp
  unfold wordU bigL
  rw [j]
  congr 2
  unfold wordF
  have p3 : ((3 : Int).toNat) = 3 := rfl
  have p2 : ((2 : Int).toNat) = 2 := rfl
  have p1 : ((1 : Int).toNat) = 1 := rfl
  have p0 : ((0 : Int).toNat) = 0 := rfl
  have d2 : m / 256 = m / 16 / 16 := (Nat.div_div_eq_div_mul m 16 16).symm
  have d3 : m / 4096 = m / 16 / 16 / 16 := by rw [Nat.div_div_eq_div_mul, Nat.div_div_eq_div_mul]
  have d4 : m / 16 / 16 / 16 / 16 = 0 := by rw [← d3, Nat.div_div_eq_div_mul]; exact Nat.div_eq_of_lt h
  have e3 : (4096 : Int) ≤ m ↔ ¬ m / 16 / 16 / 16 = 0 := d3 ▸ dz (a := 4096) (by decide)
  have e2 : (256 : Int) ≤ m ↔ ¬ m / 16 / 16 = 0 := d2 ▸ dz (a := 256) (by decide)
  have e1 : (16 : Int) ≤ m ↔ ¬ m / 16 = 0 := dz (a := 16) (by decide)
  by_cases h0 : m = 0
  · subst h0; rw [hx0]; decide
  · have e0 : (1 : Int) ≤ m := Int.ofNat_le.mpr (Nat.pos_of_ne_zero h0)
    rw [hxS h0]
    by_cases c1 : m / 16 = 0
    · simp [List.filter_cons, p3, p2, p1, p0, e3, e2, e1, e0, c1, hx0, w0]
    · rw [hxS c1]
      by_cases c2 : m / 16 / 16 = 0
      · simp [List.filter_cons, p3, p2, p1, p0, e3, e2, e1, e0, c1, c2, hx0, w1, w0]
      · rw [hxS c2]
        by_cases c3 : m / 16 / 16 / 16 = 0
        · simp [List.filter_cons, p3, p2, p1, p0, e3, e2, e1, e0, c1, c2, c3, hx0, w2, w1, w0, d2]
        · rw [hxS c3, d4, hx0]
          simp [List.filter_cons, p3, p2, p1, p0, e3, e2, e1, e0, c1, c2, c3, w3, w2, w1, w0, d2, d3]
noncomputable def sw1 (c : Nat) : Nat := if 65 ≤ c ∧ c ≤ 90 then c + 32 else if 97 ≤ c ∧ c ≤ 122 then c - 32 else c
theorem isUp : ∀ c, c < 128 → Unicode.isUpper c = decide (65 ≤ c ∧ c ≤ 90) := by decide +kernel
theorem isLo : ∀ c, c < 128 → Unicode.isLower c = decide (97 ≤ c ∧ c ≤ 122) := by decide +kernel
theorem lowerAt_ascii {x : Str} (hA : ∀ c ∈ x.cps.toList, c < 128) {i c : Nat} (hc : x.cps.toList[i]? = some c) : Unicode.lowerAt x.cps i = [lo1 c] := by
  have hc' : x.cps[i]? = some c := by simpa using hc
  have hlt := hA c (List.mem_of_getElem? hc)
  unfold Unicode.lowerAt
  rw [hc']
  have hne : (c == 0x3A3) = false := by rw [beq_eq_false_iff_ne]; lia
  simp only [hne, Bool.false_and, Bool.false_eq_true, if_false]
  exact lowerOf_ascii c hlt
theorem swap_ascii {x : Str} (hA : ∀ c ∈ x.cps.toList, c < 128) : Txt.swapcase x = ⟨x.cps.map sw1⟩ := by
  unfold Txt.swapcase
  rw [placed_single x _ sw1 fun i c hc => by
    have hlt := hA c (List.mem_of_getElem? hc)
    show (if Unicode.isUpper c = true then _ else if Unicode.isLower c = true then _ else _) = _
    rw [isUp c hlt, isLo c hlt, lowerAt_ascii hA hc, upperOf_ascii c hlt]
    unfold sw1 lo1 up1
    by_cases h1 : 65 ≤ c ∧ c ≤ 90
    · simp [h1]
    · by_cases h2 : 97 ≤ c ∧ c ≤ 122 <;> simp [h1, h2]]
theorem hx_map (m a b : Nat) (f : Nat → Nat) (h : ∀ c, c < 16 → f (a + c) = b + c) : (((hx m).map (a + ·)).toArray.map f) = ((hx m).map (b + ·)).toArray := by
  apply Array.toList_inj.mp
  simp only [Array.toList_map, List.map_map]
  exact List.map_congr_left fun c hc => h c (hx_lt m c hc)
theorem big_ascii (m : Nat) : ∀ c ∈ (bigL m).cps.toList, c < 128 := fun c hc => by
  have hc : c ∈ (hx m).map (65 + ·) := hc
  obtain ⟨d, hd, rfl⟩ := List.mem_map.mp hc
  have := hx_lt m d hd
  lia
theorem small_ascii (m : Nat) : ∀ c ∈ (smallL m).cps.toList, c < 128 := fun c hc => by
  have hc : c ∈ (hx m).map (97 + ·) := hc
  obtain ⟨d, hd, rfl⟩ := List.mem_map.mp hc
  have := hx_lt m d hd
  lia
theorem lower_big (m : Nat) : Txt.lower (bigL m) = smallL m := by
  rw [lower_ascii (big_ascii m)]
  exact congrArg Str.mk (hx_map m 65 97 lo1 fun c hc => by unfold lo1; rw [if_pos (by lia)]; lia)
theorem lower_small (m : Nat) : Txt.lower (smallL m) = smallL m := by
  rw [lower_ascii (small_ascii m)]
  exact congrArg Str.mk (hx_map m 97 97 lo1 fun c hc => by unfold lo1; rw [if_neg (by lia)])
theorem upper_big (m : Nat) : Txt.upper (bigL m) = bigL m := by
  rw [upper_ascii (big_ascii m)]
  exact congrArg Str.mk (hx_map m 65 65 up1 fun c hc => by unfold up1; rw [if_neg (by lia)])
theorem upper_small (m : Nat) : Txt.upper (smallL m) = bigL m := by
  rw [upper_ascii (small_ascii m)]
  exact congrArg Str.mk (hx_map m 97 65 up1 fun c hc => by unfold up1; rw [if_pos (by lia)]; lia)
theorem swap_big (m : Nat) : Txt.swapcase (bigL m) = smallL m := by
  rw [swap_ascii (big_ascii m)]
  exact congrArg Str.mk (hx_map m 65 97 sw1 fun c hc => by unfold sw1; rw [if_pos (by lia)]; lia)
theorem swap_small (m : Nat) : Txt.swapcase (smallL m) = bigL m := by
  rw [swap_ascii (small_ascii m)]
  exact congrArg Str.mk (hx_map m 97 65 sw1 fun c hc => by unfold sw1; rw [if_neg (by lia), if_pos (by lia)]; lia)
theorem map_add_inj (a : Nat) : ∀ (l r : List Nat), l.map (a + ·) = r.map (a + ·) → l = r
  | [], [], _ => rfl
  | [], _ :: _, e => by cases e
  | _ :: _, [], e => by cases e
  | x :: l, y :: r, e => by
    rw [List.map_cons, List.map_cons] at e
    injection e with e1 e2
    rw [map_add_inj a l r e2, show x = y by lia]
theorem big_inj {m n : Nat} (e : bigL m = bigL n) : m = n := by
  have : (bigL m).cps.toList = (bigL n).cps.toList := by rw [e]
  exact hx_inj _ _ (map_add_inj 65 _ _ this)
theorem small_inj {m n : Nat} (e : smallL m = smallL n) : m = n := by
  have : (smallL m).cps.toList = (smallL n).cps.toList := by rw [e]
  exact hx_inj _ _ (map_add_inj 97 _ _ this)
theorem big_len {m : Nat} (h : m < 65536) : (bigL m).length ≤ 4 := by
  show ((hx m).map (65 + ·)).toArray.size ≤ 4
  rw [List.size_toArray, List.length_map]; exact hx_len h
theorem small_len {m : Nat} (h : m < 65536) : (smallL m).length ≤ 4 := by
  show ((hx m).map (97 + ·)).toArray.size ≤ 4
  rw [List.size_toArray, List.length_map]; exact hx_len h
theorem good_big {m : Nat} (h : m < 65536) : Good (bigL m) := by
  refine ⟨fun c hc => ?_, Nat.le_trans (big_len h) (by decide)⟩
  have hc : c ∈ (bigL m).cps.toList := by simpa using hc
  have hc : c ∈ (hx m).map (65 + ·) := hc
  obtain ⟨d, hd, rfl⟩ := List.mem_map.mp hc
  have := hx_lt m d hd
  lia
theorem good_small {m : Nat} (h : m < 65536) : Good (smallL m) := by
  refine ⟨fun c hc => ?_, Nat.le_trans (small_len h) (by decide)⟩
  have hc : c ∈ (smallL m).cps.toList := by simpa using hc
  have hc : c ∈ (hx m).map (97 + ·) := hc
  obtain ⟨d, hd, rfl⟩ := List.mem_map.mp hc
  have := hx_lt m d hd
  lia
noncomputable def nameH (m : Nat) (f : Int) : Str := if f / 256 != 0 then smallL m else bigL m
noncomputable def nameT (m : Nat) (f : Int) : Str := if f / 256 != 0 then bigL m else smallL m
theorem wordOf_nat {m : Nat} {f : Int} (h : m < 65536) : wordOf (m : Int) f = nameH m f := by
  unfold wordOf nameH
  rw [wordU_big h, lower_big]
theorem swap_nameH (m : Nat) (f : Int) : Txt.swapcase (nameH m f) = nameT m f := by
  unfold nameH nameT
  split
  · exact swap_small m
  · exact swap_big m
theorem swap_nameT (m : Nat) (f : Int) : Txt.swapcase (nameT m f) = nameH m f := by
  unfold nameH nameT
  split
  · exact swap_big m
  · exact swap_small m
theorem lower_nameH (m : Nat) (f : Int) : Txt.lower (nameH m f) = smallL m := by
  unfold nameH
  split
  · exact lower_small m
  · exact lower_big m
theorem lower_nameT (m : Nat) (f : Int) : Txt.lower (nameT m f) = smallL m := by
  unfold nameT
  split
  · exact lower_big m
  · exact lower_small m
theorem upper_nameH (m : Nat) (f : Int) : Txt.upper (nameH m f) = bigL m := by
  unfold nameH
  split
  · exact upper_small m
  · exact upper_big m
theorem good_nameH {m : Nat} (h : m < 65536) (f : Int) : Good (nameH m f) := by
  unfold nameH
  split
  · exact good_small h
  · exact good_big h
theorem good_nameT {m : Nat} (h : m < 65536) (f : Int) : Good (nameT m f) := by
  unfold nameT
  split
  · exact good_big h
  · exact good_small h
theorem len_nameH {m : Nat} (h : m < 65536) (f : Int) : (nameH m f).length ≤ 4 := by
  unfold nameH
  split
  · exact small_len h
  · exact big_len h
theorem len_nameT {m : Nat} (h : m < 65536) (f : Int) : (nameT m f).length ≤ 4 := by
  unfold nameT
  split
  · exact big_len h
  · exact small_len h
end
section
set_option linter.unusedVariables false
open PySem PySem.W PySem.Calls PyProof.Rows PySem.Spec
section
variable {w : World} {M : Addr → Prop} {h : Heap} {k : Nat} {env : Env} {vm : List (Str × D)}
theorem exc_81 (w : World) : ExcOk (FK w) 81 bmExc "Exception.__new__" := ⟨_, _, _, _, _, _, _, _, _, _, _, _, _, _, _, _, by with_unfolding_all rfl, by kernel_rfl, by kernel_rfl⟩
theorem exc_93 (w : World) : ExcOk (FK w) 93 bmExc "Exception.__new__" := ⟨_, _, _, _, _, _, _, _, _, _, _, _, _, _, _, _, by with_unfolding_all rfl, by kernel_rfl, by kernel_rfl⟩
structure Brk (x : Str) (l r : Int) (c d : Nat) : Prop where
  len : x.length ≤ 1000
  code : Txt.slice x none (some 3) = Str.ofString "229"
  left : Txt.find x (Str.ofString "(") = l
  l0 : 0 ≤ l
  right : Txt.find3 x (Str.ofString ")") (l + 1) = r
  r0 : 0 ≤ r
  lz : l ≤ 1000
  rz : r ≤ 1000
  cl : Txt.charAt x (l + 1) = some c
  cr : Txt.charAt x (r - 1) = some d
theorem fn_parse_code {x : Str} {d : D} (hz : x.length ≤ 1000) (hc : (decide (Txt.slice x none (some 3) = Str.ofString "229")) = false) : FnR PP w (FK w) 102 [.str x, d] 81 x (k + 1) := by
  refine FnR.by (names := ["resp", "peer"]) (bds := [.str x, d]) (by with_unfolding_all rfl) rfl (by kernel_rfl!) ⟨rfl, rfl, rfl, rfl, by decide +kernel, by decide +kernel, by decide +kernel, by decide +kernel⟩ rfl rfl
    (fun M s vs S r1 => by obtain ⟨_, _, rfl, a, b⟩ := rdl2 r1; exact ⟨_, BindsTo.of_eq (by kernel_rfl!), .cons a (.cons b .nil)⟩) rfl ?_
  intro M env A s s₁ I rm R
  simp only [List.zip_cons_cons, List.zip_nil_right] at R
  have O := I.ok rfl
  have S := R.sc
  have F := R.fm
  refine run_if (c := true) rm (PB.cmp (PE.slice (by wtm_at "PE") PO.none PO.lit PO.none (OpS.str (Nat.le_trans hz (by decide)) fun t a => ⟨_, by with_unfolding_all rfl⟩)) (by wtm_at "PE") (by rw [show true = !decide (Txt.slice x none (some 3) = Str.ofString "229") from by rw [hc]; rfl]; exact Op2.ne_str') rfl) (fun _ s2 k2 => ?_) fun e => nomatch e
  have R2 := R.pure k2
  exact run_raise R2 rm O (g_error_reply _) (I.kindOf (by kernel_rfl!)) (by kernel_rfl!) (exc_81 w) (by wtm_at "LOOK") (by kernel_rfl!) fun v s' m => m
theorem fn_parse_ends {x : Str} {d' : D} {l r : Int} {c d : Nat} (B : Brk x l r c d) (hc : c ≠ d) : FnR PP w (FK w) 102 [.str x, d'] 93 x (k + 1) := by
  refine FnR.by (names := ["resp", "peer"]) (bds := [.str x, d']) (by with_unfolding_all rfl) rfl (by kernel_rfl!) ⟨rfl, rfl, rfl, rfl, by decide +kernel, by decide +kernel, by decide +kernel, by decide +kernel⟩ rfl rfl
    (fun M s vs S r1 => by obtain ⟨_, _, rfl, a, b⟩ := rdl2 r1; exact ⟨_, BindsTo.of_eq (by kernel_rfl!), .cons a (.cons b .nil)⟩) rfl ?_
  intro M env A s s₁ I rm R
  simp only [List.zip_cons_cons, List.zip_nil_right] at R
  have O := I.ok rfl
  have S := R.sc
  have F := R.fm
  have b1 := B.l0; have b2 := B.lz; have b3 := B.r0; have b4 := B.rz
  refine run_if (c := false) rm (PB.cmp (PE.slice (by wtm_at "PE") PO.none PO.lit PO.none (OpS.str (Nat.le_trans B.len (by decide)) fun t a => ⟨_, by with_unfolding_all rfl⟩)) (by wtm_at "PE") (by rw [show false = !decide (Txt.slice x none (some 3) = Str.ofString "229") from by rw [decide_eq_true B.code]; rfl]; exact Op2.ne_str') rfl) (fun e => nomatch e) fun _ s2 k2 => ?_
  have R2 := R.pure k2
  have S := R2.sc
  have F := R2.fm
  refine run_end ?_
  refine run_assign R2 rm (PE.to (PE.meth (by wtm_at "PE") (by wtm_at "PLS") PKw.nil OpM.find) (congrArg D.int B.left)) (I.kindOk (by kernel_rfl!) (by kernel_rfl!)) (I.swap0 (by with_unfolding_all rfl)) fun s3 R3 e3 => ?_
  have S := R3.sc
  have F := R3.fm
  refine run_if (c := false) rm (PB.cmp (by wtm_at "PE") (by wtm_at "PE") (by rw [show false = decide (l < 0) from by rw [decide_eq_false]; lia]; exact Op2.lt_int) rfl) (fun e => nomatch e) fun _ s4 k4 => ?_
  have R4 := R3.pure k4
  have S := R4.sc
  have F := R4.fm
  refine run_end ?_
  refine run_assign R4 rm (PE.to (PE.meth (by wtm_at "PE") (by wtm_at "PLS") PKw.nil OpM.find3) (congrArg D.int B.right)) (I.kindOk (by kernel_rfl!) (by kernel_rfl!)) (I.swap0 (by with_unfolding_all rfl)) fun s5 R5 e5 => ?_
  have S := R5.sc
  have F := R5.fm
  refine run_if (c := false) rm (PB.cmp (by wtm_at "PE") (by wtm_at "PE") (by rw [show false = decide (r < 0) from by rw [decide_eq_false]; lia]; exact Op2.lt_int) rfl) (fun e => nomatch e) fun _ s6 k6 => ?_
  have R6 := R5.pure k6
  have S := R6.sc
  have F := R6.fm
  refine run_end ?_
  refine run_if (c := true) rm (PB.cmp (PE.sub (by wtm_at "PE") (by wtm_at "PE") (Op2.item_str rfl (by lia) (by lia) B.cl)) (PE.sub (by wtm_at "PE") (by wtm_at "PE") (Op2.item_str rfl (by lia) (by lia) B.cr)) (Op2.to Op2.ne_str' (congrArg D.bool (sign_ne hc))) rfl) (fun _ s7 k7 => ?_) fun e => nomatch e
  have R7 := R6.pure k7
  exact run_raise R7 rm O (g_error_proto _) (I.kindOf (by kernel_rfl!)) (by kernel_rfl!) (exc_93 w) (by wtm_at "LOOK") (by kernel_rfl!) fun v s' m => m
theorem fn_parse_count {x : Str} {d' : D} {l r : Int} {c : Nat} (B : Brk x l r c c) (hn : (Txt.split (Txt.slice x (some (l + 1)) (some r)) ⟨#[c]⟩).length ≠ 5) (hn0 : (Txt.split (Txt.slice x (some (l + 1)) (some r)) ⟨#[c]⟩).length ≤ 1000)
    (hp : (Builtin.Str.partsBetween (Txt.slice x (some (l + 1)) (some r)) (Builtin.Str.occurrences (Txt.slice x (some (l + 1)) (some r)) ⟨#[c]⟩ 0 (Txt.slice x (some (l + 1)) (some r)).length ((Txt.slice x (some (l + 1)) (some r)).length + 1)) 1).length ≤ 16777216) : FnR PP w (FK w) 102 [.str x, d'] 93 x (k + 1) := by
  refine FnR.by (names := ["resp", "peer"]) (bds := [.str x, d']) (by with_unfolding_all rfl) rfl (by kernel_rfl!) ⟨rfl, rfl, rfl, rfl, by decide +kernel, by decide +kernel, by decide +kernel, by decide +kernel⟩ rfl rfl
    (fun M s vs S r1 => by obtain ⟨_, _, rfl, a, b⟩ := rdl2 r1; exact ⟨_, BindsTo.of_eq (by kernel_rfl!), .cons a (.cons b .nil)⟩) rfl ?_
  intro M env A s s₁ I rm R
  simp only [List.zip_cons_cons, List.zip_nil_right] at R
  have O := I.ok rfl
  have S := R.sc
  have F := R.fm
  have b1 := B.l0; have b2 := B.lz; have b3 := B.r0; have b4 := B.rz
  have hz : (Txt.slice x (some (l + 1)) (some r)).length ≤ 1000 := Nat.le_trans (Txt.slice_le x _ _) B.len
  refine run_if (c := false) rm (PB.cmp (PE.slice (by wtm_at "PE") PO.none PO.lit PO.none (OpS.str (Nat.le_trans B.len (by decide)) fun t a => ⟨_, by with_unfolding_all rfl⟩)) (by wtm_at "PE") (by rw [show false = !decide (Txt.slice x none (some 3) = Str.ofString "229") from by rw [decide_eq_true B.code]; rfl]; exact Op2.ne_str') rfl) (fun e => nomatch e) fun _ s2 k2 => ?_
  have R2 := R.pure k2
  have S := R2.sc
  have F := R2.fm
  refine run_end ?_
  refine run_assign R2 rm (PE.to (PE.meth (by wtm_at "PE") (by wtm_at "PLS") PKw.nil OpM.find) (congrArg D.int B.left)) (I.kindOk (by kernel_rfl!) (by kernel_rfl!)) (I.swap0 (by with_unfolding_all rfl)) fun s3 R3 e3 => ?_
  have S := R3.sc
  have F := R3.fm
  refine run_if (c := false) rm (PB.cmp (by wtm_at "PE") (by wtm_at "PE") (by rw [show false = decide (l < 0) from by rw [decide_eq_false]; lia]; exact Op2.lt_int) rfl) (fun e => nomatch e) fun _ s4 k4 => ?_
  have R4 := R3.pure k4
  have S := R4.sc
  have F := R4.fm
  refine run_end ?_
  refine run_assign R4 rm (PE.to (PE.meth (by wtm_at "PE") (by wtm_at "PLS") PKw.nil OpM.find3) (congrArg D.int B.right)) (I.kindOk (by kernel_rfl!) (by kernel_rfl!)) (I.swap0 (by with_unfolding_all rfl)) fun s5 R5 e5 => ?_
  have S := R5.sc
  have F := R5.fm
  refine run_if (c := false) rm (PB.cmp (by wtm_at "PE") (by wtm_at "PE") (by rw [show false = decide (r < 0) from by rw [decide_eq_false]; lia]; exact Op2.lt_int) rfl) (fun e => nomatch e) fun _ s6 k6 => ?_
  have R6 := R5.pure k6
  have S := R6.sc
  have F := R6.fm
  refine run_end ?_
  refine run_if (c := false) rm (PB.cmp (PE.sub (by wtm_at "PE") (by wtm_at "PE") (Op2.item_str rfl (by lia) (by lia) B.cl)) (PE.sub (by wtm_at "PE") (by wtm_at "PE") (Op2.item_str rfl (by lia) (by lia) B.cr)) (Op2.to Op2.ne_str' (congrArg D.bool sign_eq)) rfl) (fun e => nomatch e) fun _ s7 k7 => ?_
  have R7 := R6.pure k7
  have S := R7.sc
  have F := R7.fm
  refine run_end ?_
  refine run_assign R7 rm (PE.meth (PE.slice (by wtm_at "PE") (PO.some (by wtm_at "PE")) (PO.some (by wtm_at "PE")) PO.none (OpS.str (Nat.le_trans B.len (by decide)) fun t a => ⟨_, by with_unfolding_all rfl⟩)) (PLs.cons (PE.sub (by wtm_at "PE") (by wtm_at "PE") (Op2.item_str rfl (by omega) (by omega) B.cl)) PLs.nil) PKw.nil (OpM.split S rfl hz hp)) (I.kindOk (by kernel_rfl!) (by kernel_rfl!)) (I.swap0 (by with_unfolding_all rfl)) fun s8 R8 e8 => ?_
  have S := R8.sc
  have F := R8.fm
  refine run_if (c := true) rm (PB.cmp (PE.to (PE.callF (.builtin "len") (glob_bi (by wtm_at "ENVOK") S (n_len _) b_len (by decide) (by wtm_at "KIND")) (by kernel_rfl!) keep_bi (by wtm_at "PLS") PKw.nil (OpN.len_lst (by rw [List.length_map]; lia)) rfl) (by rw [List.length_map])) (by wtm_at "PE") (Op2.to Op2.ne_int (congrArg D.bool (bne_iff_ne.mpr (by lia)))) rfl) (fun _ s9 k9 => ?_) fun e => nomatch e
  have R9 := R8.pure k9
  exact run_raise R9 rm O (g_error_proto _) (I.kindOf (by kernel_rfl!)) (by kernel_rfl!) (exc_93 w) (by wtm_at "LOOK") (by kernel_rfl!) fun v s' m => m
theorem fn_parse {x y : Str} {d1 d2 : D} {l r n : Int} {c : Nat} (B : Brk x l r c c) (hn : (Txt.split (Txt.slice x (some (l + 1)) (some r)) ⟨#[c]⟩).length = 5)
    (hp : (Builtin.Str.partsBetween (Txt.slice x (some (l + 1)) (some r)) (Builtin.Str.occurrences (Txt.slice x (some (l + 1)) (some r)) ⟨#[c]⟩ 0 (Txt.slice x (some (l + 1)) (some r)).length ((Txt.slice x (some (l + 1)) (some r)).length + 1)) 1).length ≤ 16777216)
    (hy : (Txt.split (Txt.slice x (some (l + 1)) (some r)) ⟨#[c]⟩)[3]? = some y) (hi : PySem.intText? y = some n) (hyl : y.length ≤ 640) : FnP PP w (FK w) 102 [.str x, .tup [d1, d2]] [] (.tup [d1, .int n]) (k + 1) := by
  refine FnP.by (names := ["resp", "peer"]) (bds := [.str x, .tup [d1, d2]]) (by with_unfolding_all rfl) rfl (by kernel_rfl!) ⟨rfl, rfl, rfl, rfl, by decide +kernel, by decide +kernel, by decide +kernel, by decide +kernel⟩ rfl rfl
    (fun M s vs us S r1 r2 => by obtain ⟨_, _, rfl, a, b⟩ := rdl2 r1; cases rdl0 r2; exact ⟨_, BindsTo.of_eq (by kernel_rfl!), .cons a (.cons b .nil)⟩) rfl ?_
  intro M env A s s₁ I rm R
  simp only [List.zip_cons_cons, List.zip_nil_right] at R
  have O := I.ok rfl
  have S := R.sc
  have F := R.fm
  have b1 := B.l0; have b2 := B.lz; have b3 := B.r0; have b4 := B.rz
  have hz : (Txt.slice x (some (l + 1)) (some r)).length ≤ 1000 := Nat.le_trans (Txt.slice_le x _ _) B.len
  refine run_if (c := false) rm (PB.cmp (PE.slice (by wtm_at "PE") PO.none PO.lit PO.none (OpS.str (Nat.le_trans B.len (by decide)) fun t a => ⟨_, by with_unfolding_all rfl⟩)) (by wtm_at "PE") (by rw [show false = !decide (Txt.slice x none (some 3) = Str.ofString "229") from by rw [decide_eq_true B.code]; rfl]; exact Op2.ne_str') rfl) (fun e => nomatch e) fun _ s2 k2 => ?_
  have R2 := R.pure k2
  have S := R2.sc
  have F := R2.fm
  refine run_end ?_
  refine run_assign R2 rm (PE.to (PE.meth (by wtm_at "PE") (by wtm_at "PLS") PKw.nil OpM.find) (congrArg D.int B.left)) (I.kindOk (by kernel_rfl!) (by kernel_rfl!)) (I.swap0 (by with_unfolding_all rfl)) fun s3 R3 e3 => ?_
  have S := R3.sc
  have F := R3.fm
  refine run_if (c := false) rm (PB.cmp (by wtm_at "PE") (by wtm_at "PE") (by rw [show false = decide (l < 0) from by rw [decide_eq_false]; lia]; exact Op2.lt_int) rfl) (fun e => nomatch e) fun _ s4 k4 => ?_
  have R4 := R3.pure k4
  have S := R4.sc
  have F := R4.fm
  refine run_end ?_
  refine run_assign R4 rm (PE.to (PE.meth (by wtm_at "PE") (by wtm_at "PLS") PKw.nil OpM.find3) (congrArg D.int B.right)) (I.kindOk (by kernel_rfl!) (by kernel_rfl!)) (I.swap0 (by with_unfolding_all rfl)) fun s5 R5 e5 => ?_
  have S := R5.sc
  have F := R5.fm
  refine run_if (c := false) rm (PB.cmp (by wtm_at "PE") (by wtm_at "PE") (by rw [show false = decide (r < 0) from by rw [decide_eq_false]; lia]; exact Op2.lt_int) rfl) (fun e => nomatch e) fun _ s6 k6 => ?_
  have R6 := R5.pure k6
  have S := R6.sc
  have F := R6.fm
  refine run_end ?_
  refine run_if (c := false) rm (PB.cmp (PE.sub (by wtm_at "PE") (by wtm_at "PE") (Op2.item_str rfl (by lia) (by lia) B.cl)) (PE.sub (by wtm_at "PE") (by wtm_at "PE") (Op2.item_str rfl (by lia) (by lia) B.cr)) (Op2.to Op2.ne_str' (congrArg D.bool sign_eq)) rfl) (fun e => nomatch e) fun _ s7 k7 => ?_
  have R7 := R6.pure k7
  have S := R7.sc
  have F := R7.fm
  refine run_end ?_
  refine run_assign R7 rm (PE.meth (PE.slice (by wtm_at "PE") (PO.some (by wtm_at "PE")) (PO.some (by wtm_at "PE")) PO.none (OpS.str (Nat.le_trans B.len (by decide)) fun t a => ⟨_, by with_unfolding_all rfl⟩)) (PLs.cons (PE.sub (by wtm_at "PE") (by wtm_at "PE") (Op2.item_str rfl (by omega) (by omega) B.cl)) PLs.nil) PKw.nil (OpM.split S rfl hz hp)) (I.kindOk (by kernel_rfl!) (by kernel_rfl!)) (I.swap0 (by with_unfolding_all rfl)) fun s8 R8 e8 => ?_
  have S := R8.sc
  have F := R8.fm
  refine run_if (c := false) rm (PB.cmp (PE.to (PE.callF (.builtin "len") (glob_bi (by wtm_at "ENVOK") S (n_len _) b_len (by decide) (by wtm_at "KIND")) (by kernel_rfl!) keep_bi (by wtm_at "PLS") PKw.nil (OpN.len_lst (by rw [List.length_map]; lia)) rfl) (by rw [List.length_map, hn])) (by wtm_at "PE") (by rw [show false = ((5 : Int) != 5) from rfl]; exact Op2.ne_int) rfl) (fun e => nomatch e) fun _ s9 k9 => ?_
  have R9 := R8.pure k9
  have S := R9.sc
  have F := R9.fm
  refine run_end ?_
  refine run_assign R9 rm (PE.sub (by wtm_at "PE") (by wtm_at "PE") (tup_item0 rfl rfl)) (I.kindOk (by kernel_rfl!) (by kernel_rfl!)) (I.swap0 (by with_unfolding_all rfl)) fun s10 R10 e10 => ?_
  have S := R10.sc
  have F := R10.fm
  refine run_assign R10 rm (PE.callF (.type "int") (glob_bi (by wtm_at "ENVOK") S (n_int _) b_int (by decide) (by wtm_at "KIND")) (by kernel_rfl!) keep_ty (PLs.cons (PE.sub (by wtm_at "PE") (by wtm_at "PE") (item_lst (i := 3) rfl rfl (by decide) (by rw [List.getElem?_map]; exact congrArg (Option.map D.str) hy) (by decide))) PLs.nil) PKw.nil (OpN.int_str hi hyl) rfl) (I.kindOk (by kernel_rfl!) (by kernel_rfl!)) (I.swap0 (by with_unfolding_all rfl)) fun s11 R11 e11 => ?_
  have S := R11.sc
  have F := R11.fm
  exact run_ret' rm (d' := .tup [d1, .int n]) (by wtm_at "PE") (by rfl) fun v s' kp r => pure_ret R11 kp r
end
end
section
set_option linter.unusedVariables false
open PySem PySem.W PySem.Calls PyProof.Rows PySem.Spec
section
variable {w : World} {M : Addr → Prop} {h : Heap} {k : Nat} {env : Env} {vm : List (Str × D)} {A A₀ : Around} {E : Value → Shared → Prop} {s s₀ s₁ s' : Shared} {K : Frag}
theorem str_81 (w : World) : findIn (FK w) (.ref 81) "__str__" = some (some (.builtin "BaseException.__str__")) := by kernel_rfl
theorem str_93 (w : World) : findIn (FK w) (.ref 93) "__str__" = some (some (.builtin "BaseException.__str__")) := by kernel_rfl
theorem mro_93 (w : World) : (mroK (FK w) 93).contains (.ref 81) = false := by kernel_rfl
theorem RunX.gone {h' : Heap} {tk : Nat} {m : Str → Option Value} (R : RunX K A₀ s₀ (Mof M env) env vm s) (hn : h'.Ns env.locals m) (hs : Heap.SameBut env.locals s.heap h') : RunX K A₀ s₀ (Mof M env) env [] { s with heap := h', toks := tk } := by
  have F0 : Fm (Mof M env) env [] s.heap := R.run.fm.sub fun x d e => nomatch e
  have eo : Ext (Own env) s.heap h' := Ext.sameBut hs (.inl rfl)
  have hL : Mof M env env.locals := .inr (.inl rfl)
  have hne : ∀ x c, env.cells.lookup x = some c → env.locals ≠ c := fun x c e z => by
    obtain ⟨ov, ⟨o, ho, hd⟩, _⟩ := F0.cel x c e
    obtain ⟨m', ⟨o', _, _, ho', hd', _⟩, _⟩ := F0.loc
    rw [z] at ho'
    rw [ho] at ho'; cases ho'; rw [hd] at hd'; cases hd'
  have F1 : Fm (Mof M env) env [] h' := ⟨F0.kind, F0.inL, F0.inC, ⟨m, hn, fun x d _ e => nomatch e⟩, fun x c e => by
    obtain ⟨ov, hc, _⟩ := F0.cel x c e
    exact ⟨ov, hc.sameBut hs (Ne.symm (hne x c e)), fun d q => nomatch q⟩, F0.celK, F0.apart, fun x d e => nomatch e⟩
  have S1 : Sc K (Mof M env) h' := R.run.sc.but hs hL (by obtain ⟨o, _, _, ho, _⟩ := hn; rw [ho]; rfl)
  exact R.own (R.run.frame (tk := tk) F1 S1 eo fun a z => z) eo
theorem told_suite {A : Around} {e t C : Addr} {u : Tok} {x out out2 : Str} {n1 n2 : Nat} {p1 p2 p3 p4 p5 p6 p7 p8 p9 pos : Pos} {Q : Flow → Shared → Prop} {Er : Value → Shared → Prop} {s5 : Shared}
    (O : EnvOk env) (hu : A.in1.in1.units < cLine) (R : RunX (FK w) A₀ s₀ (Mof M env) env vm s) (F : Fra A₀ A M env s₀)
    (hk : env.kindOf "fault" = some .local) (hks : env.kindOf "str" = some .globalImplicit) (hr : vm.lookup ("reply" : Str) = some (.str x)) (hq : ExcOk (FK w) C bmExc "Exception.__new__") (hs : findIn (FK w) (.ref C) "__str__" = some (some (.builtin "BaseException.__str__")))
    (h5 : ∃ h tk, s5 = { s with heap := h, toks := tk }) (fl : Heap.FlyingW (grd A s.heap) (A.frames.getD []) e (.ref C) (.ref t) s5.heap) (tup : s5.heap.TupAt t [.str x u]) (up : s.heap.UpToSlots s5.heap)
    (nx : ∀ s9 v, RunX (FK w) A₀ s₀ (Mof M env) env [] s9 → Rd (Mof M env) s9.heap v (.str out) → Q (.ret v) s9) :
    codeAny (model PP w) (A.mark (some (.ref e))) (.handlers (.ref e) [.ExceptHandler none (some "fault") [.Return (some (.IfExp (.Compare (.Call (.Name "str" p1) [.Name "fault" p2] [] p3) [.Eq] [.Name "reply" p4] p5) (.Constant (.str out) n1 p6) (.Constant (.str out2) n2 p7) p8)) p9] pos] env)
      (fun r s₂ => match r with
          | .ok f => (match (some ("fault" : Str) : Option Str) with
            | none => Q f s₂
            | some n => wpAny (model PP w) A (do bindName env n .none; unbindBehindTheSuite env n pos) (fun _ s₃ => Q f s₃) NoE s₂)
          | .error x => Er x s₂) s5 := by
  obtain ⟨h5, t5, rfl⟩ := h5
  refine codeAny_handlers_suite_as ?_
  refine lands_againW fl fun h6 fl6 up6 => ?_
  have R6 : RunX (FK w) A₀ s₀ (Mof M env) env vm { s with heap := h6, toks := t5 } := R.slots F fl6.1 (up.trans up6)
  refine R6.run.fm.store R6.run.sc (.ref e) (.inl hk) (by kernel_rfl!) fun h7 t7 F7 S7 e7 => ?_
  have eo := e7.mono fun a => own_sto (env := env) (x := "fault")
  have R7 : RunX (FK w) A₀ s₀ (Mof M env) env (("fault", .ref e) :: vm) { s with heap := h7, toks := t7 } := R6.own (R6.run.frame (tk := t7) F7 S7 eo fun a z => z) eo
  have fr6 := F.frs (fun _ => .inl) R6
  obtain ⟨oe, ws, hoe, hoec, hoed, hoe0⟩ := fl6.first
  have hoe7 : h7.get? e = some oe := eo e oe (fun z => by
    rcases z with z | ⟨y, z⟩
    · obtain ⟨m, hm, _⟩ := R6.run.fm.loc
      obtain ⟨o', ho', hd'⟩ := ns_not_fields hm
      rw [← z, hoe] at ho'
      cases ho'
      exact hd' _ hoed
    · obtain ⟨ov, ⟨o', ho', hd'⟩, _⟩ := R6.run.fm.cel y e z
      rw [hoe] at ho'; cases ho'; rw [hoed] at hd'; cases hd') hoe
  have htup7 : h7.TupAt t [.str x u] := by
    obtain ⟨ot, nt, hot, hotc, hotd⟩ := tup.of_slots up6
    refine ⟨ot, nt, eo t ot (fun z => ?_) hot, hotc, hotd⟩
    rcases z with z | ⟨y, z⟩
    · obtain ⟨m, ⟨o', _, _, ho', hd', _⟩, _⟩ := R6.run.fm.loc
      rw [← z, hot] at ho'; cases ho'; rw [hotd] at hd'; cases hd'
    · obtain ⟨ov, ⟨o', ho', hd'⟩, _⟩ := R6.run.fm.cel y t z
      rw [hot] at ho'; cases ho'; rw [hotd] at hd'; cases hd'
  refine wpAny_execs_cons ?_
  rw [exec_Return_some]
  refine wpAny_bind (wpAny_standAt (wpAny_bind ?_))
  rw [arm_eval_IfExp]
  have S := R7.run.sc
  obtain ⟨vf, lf, rf⟩ := (R7.run.fm.vars (prog := PP) (w := w)) "fault" (.ref e) (by wtm_at "LOOK")
  cases rf
  obtain ⟨vr, lr, rr⟩ := (R7.run.fm.vars (prog := PP) (w := w)) "reply" (.str x) (look_tl (by kernel_rfl!) hr)
  cases rr using Rd.strE with | str _ u' => ?_
  refine wpAny_bind (wpAny_isTrue_Compare1 (eval_call1 (glob_bi O S (n_str _) b_str (by decide) hks) (by kernel_rfl!) lf (by kernel_rfl!) keep_ty (own_str hu S.inn hq hs hoe7 hoec hoed hoe0 htup7 ?_)))
  refine wpAny_Name (lr.here ?_) (by kernel_rfl!)
  refine PyProof.Rows.eq_str ?_
  rw [beq_self_eq_true]
  refine wpAny_truthy_bool ?_
  rw [if_pos rfl]
  show wpAny _ _ (mkText out) _ _ _
  refine wpAny_mkText (wpAny_pure ?_)
  obtain ⟨m, hm, _⟩ := R7.run.fm.loc
  refine wpAny_nameGoes hk hm (by have : env.scope.kind = .function := F.kind; rw [this]; rfl) fun h8 m8 hn8 hs8 => ?_
  exact nx _ _ (R7.gone (tk := t7 + 1 + 1) hn8 hs8) (.str _ _)
theorem fn_told_code {x : Str} {d : D} (F : FnR PP w (FK w) 102 [.str x, d] 81 x k) : FnX PP w (FK w) 283 [.str x, d] (.str "code") (k + 1) := by
  refine FnX.by (names := ["reply", "peer"]) (bds := [.str x, d]) (by with_unfolding_all rfl) rfl (by kernel_rfl!) ⟨rfl, rfl, rfl, rfl, by decide +kernel, by decide +kernel, by decide +kernel, by decide +kernel⟩ rfl rfl
    (fun M s vs S r1 => by obtain ⟨_, _, rfl, a, b⟩ := rdl2 r1; exact ⟨_, BindsTo.of_eq (by kernel_rfl!), .cons a (.cons b .nil)⟩) rfl ?_
  intro M env A₀ A s s₁ I rm Fr R
  simp only [List.zip_cons_cons, List.zip_nil_right] at R
  have O := I.ok rfl
  have S := R.run.sc
  have F1 := R.run.fm
  refine .of (wpAny_execs_cons (then_run (wpAny_Try_except ?_)))
  refine wpAny_execs_cons ?_
  rw [exec_Return_some]
  refine wpAny_bind (wpAny_standAt (wpAny_bind ?_))
  have frs := Fr.frs (fun _ => .inl) R
  refine eval_raises (M := Mof M env) (as := [.str x, d]) rm S frs (glob_of O S (g_parse229 _) (I.kindOf (by kernel_rfl!))) (by kernel_rfl!) (kp_102 S) (by have F := F1; wtm_at "PLS") F (by rfl) fun s2 e t u h' tk k2 fl tup hnew up => ?_
  have R2 := R.pure k2
  have fl' := fl
  rw [Fr.st] at fl'
  refine wpAny_looks_onW Fr.st Fr.fr fl' fun h4 held up4 => ?_
  refine wpAny_landsW held fun h5 fl5 up5 => ?_
  have up45 := (up.trans up4).trans up5
  have R5 : RunX (FK w) A₀ s (Mof M env) env _ { s2 with heap := h5, toks := tk } := R2.slots Fr fl5.1 up45
  obtain ⟨oe, ws, hoe, hoec, hoed, hoe0⟩ := fl5.first
  refine wpAny_handleBy_cons (codeAny_handlers_test (wpAny_Name ((glob_of O R5.run.sc (g_error_reply _) (I.kindOf (by kernel_rfl!))).here ?_) (by kernel_rfl!))) (by intro q; cases q)
  refine own_same R5.run.sc.inn (exc_81 w) hoe hoec ?_
  refine told_suite O (by have := rm.units; have : cLine = 9900 := rfl; show A.units + 1 + 1 < _; lia) R2 Fr (I.kindOf (by kernel_rfl!)) (I.kindOf (by kernel_rfl!)) (by wtm_at "LOOK") (exc_81 w) (str_81 w) ⟨h5, tk, rfl⟩ (by rw [Fr.st]; exact fl5) ((tup.of_slots up4).of_slots up5) up45 fun s9 v R9 r => ⟨_, R9, r⟩
theorem fn_told_marks {x : Str} {d : D} (F : FnR PP w (FK w) 102 [.str x, d] 93 x k) : FnX PP w (FK w) 283 [.str x, d] (.str "marks") (k + 1) := by
  refine FnX.by (names := ["reply", "peer"]) (bds := [.str x, d]) (by with_unfolding_all rfl) rfl (by kernel_rfl!) ⟨rfl, rfl, rfl, rfl, by decide +kernel, by decide +kernel, by decide +kernel, by decide +kernel⟩ rfl rfl
    (fun M s vs S r1 => by obtain ⟨_, _, rfl, a, b⟩ := rdl2 r1; exact ⟨_, BindsTo.of_eq (by kernel_rfl!), .cons a (.cons b .nil)⟩) rfl ?_
  intro M env A₀ A s s₁ I rm Fr R
  simp only [List.zip_cons_cons, List.zip_nil_right] at R
  have O := I.ok rfl
  have S := R.run.sc
  have F1 := R.run.fm
  refine .of (wpAny_execs_cons (then_run (wpAny_Try_except ?_)))
  refine wpAny_execs_cons ?_
  rw [exec_Return_some]
  refine wpAny_bind (wpAny_standAt (wpAny_bind ?_))
  have frs := Fr.frs (fun _ => .inl) R
  refine eval_raises (M := Mof M env) (as := [.str x, d]) rm S frs (glob_of O S (g_parse229 _) (I.kindOf (by kernel_rfl!))) (by kernel_rfl!) (kp_102 S) (by have F := F1; wtm_at "PLS") F (by rfl) fun s2 e t u h' tk k2 fl tup hnew up => ?_
  have R2 := R.pure k2
  have fl' := fl
  rw [Fr.st] at fl'
  refine wpAny_looks_onW Fr.st Fr.fr fl' fun h4 held up4 => ?_
  refine wpAny_landsW held fun h5 fl5 up5 => ?_
  have up45 := (up.trans up4).trans up5
  have R5 : RunX (FK w) A₀ s (Mof M env) env _ { s2 with heap := h5, toks := tk } := R2.slots Fr fl5.1 up45
  obtain ⟨oe, ws, hoe, hoec, hoed, hoe0⟩ := fl5.first
  refine wpAny_handleBy_cons (codeAny_handlers_test (wpAny_Name ((glob_of O R5.run.sc (g_error_reply _) (I.kindOf (by kernel_rfl!))).here ?_) (by kernel_rfl!))) (by intro q; cases q)
  refine own_other R5.run.sc.inn (exc_93 w) (exc_81 w) (mro_93 w) hoe hoec ?_
  refine wpAny_handleBy_cons (codeAny_handlers_test (wpAny_Name ((glob_of O R5.run.sc (g_error_proto _) (I.kindOf (by kernel_rfl!))).here ?_) (by kernel_rfl!))) (by intro q; cases q)
  refine own_same R5.run.sc.inn (exc_93 w) hoe hoec ?_
  refine told_suite O (by have := rm.units; have : cLine = 9900 := rfl; show A.units + 1 + 1 < _; lia) R2 Fr (I.kindOf (by kernel_rfl!)) (I.kindOf (by kernel_rfl!)) (by wtm_at "LOOK") (exc_93 w) (str_93 w) ⟨h5, tk, rfl⟩ (by rw [Fr.st]; exact fl5) ((tup.of_slots up4).of_slots up5) up45 fun s9 v R9 r => ⟨_, R9, r⟩
theorem fn_told_ok {x : Str} {d d' : D} (F : FnP PP w (FK w) 102 [.str x, d] [] d' k) : FnX PP w (FK w) 283 [.str x, d] d' (k + 1) := by
  refine FnX.by (names := ["reply", "peer"]) (bds := [.str x, d]) (by with_unfolding_all rfl) rfl (by kernel_rfl!) ⟨rfl, rfl, rfl, rfl, by decide +kernel, by decide +kernel, by decide +kernel, by decide +kernel⟩ rfl rfl
    (fun M s vs S r1 => by obtain ⟨_, _, rfl, a, b⟩ := rdl2 r1; exact ⟨_, BindsTo.of_eq (by kernel_rfl!), .cons a (.cons b .nil)⟩) rfl ?_
  intro M env A₀ A s s₁ I rm Fr R
  simp only [List.zip_cons_cons, List.zip_nil_right] at R
  have O := I.ok rfl
  have S := R.run.sc
  have F1 := R.run.fm
  refine .of (wpAny_execs_cons (then_run (wpAny_Try_except ?_)))
  refine wpAny_execs_cons ?_
  rw [exec_Return_some]
  refine wpAny_bind (wpAny_standAt (wpAny_bind ?_))
  refine PE.use (PE.callF (.ref 102) (glob_of O S (g_parse229 _) (I.kindOf (by kernel_rfl!))) (by kernel_rfl!) (kp_102 S) (by have F := F1; wtm_at "PLS") PKw.nil (F.opN S (Nat.le_refl _)) (by rfl)) rm (Keep.refl _) fun v s2 k2 r2 => wpAny_pure ?_
  exact ⟨_, R.pure k2, r2⟩
end
end
section
set_option linter.unusedVariables false
open PySem PySem.W PySem.Calls PyProof.Rows PySem.Spec Q
inductive Body : List Nat → Prop
  | nil : Body []
  | one {c : Nat} {r : List Nat} : c ≠ 34 → c ≠ 92 → Body r → Body (c :: r)
  | two {c : Nat} {r : List Nat} : c ≠ 10 → Body r → Body (92 :: c :: r)
inductive Bal : List Nat → List Nat → Prop
  | nil : Bal [] []
  | chr {c : Nat} {r o : List Nat} : c ≠ 34 → Bal r o → Bal (c :: r) (c :: o)
  | quo {b r o : List Nat} : Body b → Bal r o → Bal (34 :: (b ++ 34 :: r)) o
theorem Bal.append {a o b q : List Nat} (x : Bal a o) (y : Bal b q) : Bal (a ++ b) (o ++ q) := by
  induction x with
  | nil => exact y
  | chr h _ ih => exact .chr h ih
  | quo hb _ ih =>
    rw [List.cons_append, List.append_assoc, List.cons_append]
    exact .quo hb ih
theorem at_mid {text : Array Nat} {pre r : List Nat} {c : Nat} (e : text.toList = pre ++ c :: r) : ∃ h : pre.length < text.size, text[pre.length] = c := by
  have hl : text.size = pre.length + (r.length + 1) := by
    have := congrArg List.length e
    simpa using this
  refine ⟨by lia, ?_⟩
  rw [← Array.getElem_toList]
  simp [e]
theorem eat_body {text : Array Nat} {b : List Nat} (hb : Body b) : ∀ {pre r : List Nat}, text.toList = pre ++ (b ++ 34 :: r) → Eat text pre.length (pre.length + b.length) := by
  induction hb with
  | nil =>
    intro pre r e
    obtain ⟨h, hc⟩ := at_mid (c := 34) (r := r) (by simpa using e)
    exact .stop fun _ => .inl hc
  | @one c r' h1 h2 _ ih =>
    intro pre r e
    obtain ⟨h, hc⟩ := at_mid (c := c) (r := r' ++ 34 :: r) (by simpa using e)
    have := ih (pre := pre ++ [c]) (r := r) (by rw [e]; simp)
    rw [List.length_append] at this
    have e2 : pre.length + (c :: r').length = pre.length + [c].length + r'.length := by simp; lia
    rw [e2]
    exact .one h (by rw [hc]; exact h1) (by rw [hc]; exact h2) this
  | @two c r' h1 _ ih =>
    intro pre r e
    obtain ⟨h, hc⟩ := at_mid (c := 92) (r := c :: (r' ++ 34 :: r)) (by simpa using e)
    obtain ⟨h', hc'⟩ := at_mid (text := text) (pre := pre ++ [92]) (c := c) (r := r' ++ 34 :: r) (by rw [e]; simp)
    have := ih (pre := pre ++ [92, c]) (r := r) (by rw [e]; simp)
    rw [List.length_append] at this
    have e5 : (pre ++ [92]).length = pre.length + 1 := by simp
    have e2 : pre.length + (92 :: c :: r').length = pre.length + [92, c].length + r'.length := by simp; lia
    rw [e2]
    have h'' : pre.length + 1 < text.size := by rw [← e5]; exact h'
    refine .two h'' hc ?_ (by simpa using this)
    have : text[pre.length + 1] = c := by
      have e6 : text[pre.length + 1] = text[(pre ++ [92]).length] := by congr 1; exact e5.symm
      rw [e6]; exact hc'
    rw [this]; exact h1
theorem strip_bal {text : Array Nat} {a o : List Nat} (x : Bal a o) : ∀ {pre z oz : List Nat}, text.toList = pre ++ (a ++ z) → Strip text (pre.length + a.length) oz → Strip text pre.length (o ++ oz) := by
  induction x with
  | nil => intro pre z oz e s; simpa using s
  | @chr c r o' h _ ih =>
    intro pre z oz e s
    obtain ⟨hp, hc⟩ := at_mid (c := c) (r := r ++ z) (by simpa using e)
    have := ih (pre := pre ++ [c]) (z := z) (oz := oz) (by rw [e]; simp) (by
      rw [List.length_append]
      have e2 : pre.length + [c].length + r.length = pre.length + (c :: r).length := by simp; lia
      rw [e2]; exact s)
    rw [List.length_append] at this
    have hc34 : text[pre.length] ≠ 34 := by rw [hc]; exact h
    have hd : text.toList.drop pre.length = c :: text.toList.drop (pre.length + 1) := by
      rw [e]; simp
    have hstep : ∀ {out : List Nat}, Strip text (pre.length + 1) out → Strip text pre.length (c :: out) := by
      intro out s1
      cases s1 with
      | last hle hh =>
        rw [← hd]
        exact .last (by lia) (.other hp hc34 hh)
      | @more _ s q out hps hh h2 hq hs =>
        have hsp : (text.toList.drop pre.length).take (s - pre.length) = c :: (text.toList.drop (pre.length + 1)).take (s - (pre.length + 1)) := by
          rw [hd, show s - pre.length = (s - (pre.length + 1)) + 1 by exact ar12 hps, List.take_succ_cons]
        rw [← List.cons_append, ← hsp]
        exact .more (by lia) (.other hp hc34 hh) h2 hq hs
    exact hstep this
  | @quo b r o' hb _ ih =>
    intro pre z oz e s
    obtain ⟨hp, hc⟩ := at_mid (c := 34) (r := (b ++ 34 :: r) ++ z) (by simpa using e)
    obtain ⟨hq, hcq⟩ := at_mid (text := text) (pre := pre ++ 34 :: b) (c := 34) (r := r ++ z) (by rw [e]; simp)
    have he := eat_body (text := text) hb (pre := pre ++ [34]) (r := r ++ z) (by rw [e]; simp)
    have := ih (pre := pre ++ 34 :: (b ++ [34])) (z := z) (oz := oz) (by rw [e]; simp) (by
      have e2 : (pre ++ 34 :: (b ++ [34])).length + r.length = pre.length + (34 :: (b ++ 34 :: r)).length := by simp; lia
      rw [e2]; exact s)
    have e1 : (pre ++ 34 :: b).length = pre.length + 1 + b.length := by simp; lia
    have e3 : (pre ++ [34]).length = pre.length + 1 := by simp
    have e4 : (pre ++ 34 :: (b ++ [34])).length = pre.length + 1 + b.length + 1 := by simp; lia
    rw [e4] at this
    rw [e3] at he
    have hq' : pre.length + 1 + b.length < text.size := by rw [← e1]; exact hq
    have hcq' : text[pre.length + 1 + b.length] = 34 := by
      have : text[pre.length + 1 + b.length] = text[(pre ++ 34 :: b).length] := by congr 1; exact e1.symm
      rw [this]; exact hcq
    have hm := Strip.more (text := text) (p := pre.length) (s := pre.length) (q := pre.length + 1 + b.length + 1) (Nat.le_refl _) (.hit hp hq' hc he hcq') (by lia) (by assumption) this
    simpa using hm
noncomputable def netL (o : List Nat) : Int := ((o.filter (· == 40)).length : Int) - ((o.filter (· == 41)).length : Int)
theorem netL_append (a b : List Nat) : netL (a ++ b) = netL a + netL b := by
  unfold netL
  rw [List.filter_append, List.filter_append, List.length_append, List.length_append]; lia
noncomputable def sg (c : Nat) : Int := (if c = 40 then 1 else 0) - (if c = 41 then 1 else 0)
theorem netL_cons (c : Nat) (o : List Nat) : netL (c :: o) = sg c + netL o := by
  rw [show c :: o = [c] ++ o from rfl, netL_append]
  congr 1
  unfold netL sg
  by_cases h1 : c = 40
  · subst h1; decide
  · by_cases h2 : c = 41
    · subst h2; decide
    · simp [List.filter_cons, h1, h2]
noncomputable def BalN (xs : List Nat) (d : Int) : Prop := ∃ o, Bal xs o ∧ netL o = d ∧ ∀ c ∈ o, c < 128
theorem BalN.append {a b : List Nat} {d e : Int} (x : BalN a d) (y : BalN b e) : BalN (a ++ b) (d + e) := by
  obtain ⟨o, h1, h2, h3⟩ := x
  obtain ⟨q, g1, g2, g3⟩ := y
  exact ⟨o ++ q, h1.append g1, by rw [netL_append, h2, g2], fun c hc => (List.mem_append.mp hc).elim (h3 c) (g3 c)⟩
noncomputable def scanN : Nat → List Nat → Option Int
  | 0, [] => some 0
  | _, [] => none
  | 0, c :: r => if c = 34 then scanN 1 r else if c < 128 then (scanN 0 r).map fun d => sg c + d else none
  | 1, c :: r => if c = 34 then scanN 0 r else if c = 92 then scanN 2 r else scanN 1 r
  | _, c :: r => if c = 10 then none else scanN 1 r
theorem scan_ok : ∀ (xs : List Nat), (∀ d, scanN 0 xs = some d → BalN xs d) ∧ (∀ d, scanN 1 xs = some d → ∃ b r, xs = b ++ 34 :: r ∧ Body b ∧ BalN r d) ∧ (∀ d, scanN 2 xs = some d → ∃ c b r, xs = c :: (b ++ 34 :: r) ∧ c ≠ 10 ∧ Body b ∧ BalN r d)
  | [] => by
    refine ⟨fun d e => ?_, fun d e => ?_, fun d e => ?_⟩
    · have e : some (0 : Int) = some d := e
      obtain rfl := Option.some.inj e
      exact ⟨[], .nil, rfl, fun c hc => nomatch hc⟩
    · exact nomatch (show (none : Option Int) = some d from e)
    · exact nomatch (show (none : Option Int) = some d from e)
  | c :: r => by
    obtain ⟨i0, i1, i2⟩ := scan_ok r
    refine ⟨fun d e => ?_, fun d e => ?_, fun d e => ?_⟩
    · have e : (if c = 34 then scanN 1 r else if c < 128 then (scanN 0 r).map fun d => sg c + d else none) = some d := e
      split at e
      · rename_i h
        obtain ⟨b, r', rfl, hb, o, h1, h2, h3⟩ := i1 d e
        exact ⟨o, by rw [h]; exact .quo hb h1, h2, h3⟩
      · rename_i h
        split at e
        · rename_i hc
          cases q : scanN 0 r with
          | none => rw [q] at e; cases e
          | some d' =>
            rw [q] at e
            obtain rfl : sg c + d' = d := Option.some.inj e
            obtain ⟨o, h1, h2, h3⟩ := i0 d' q
            exact ⟨c :: o, .chr h h1, by rw [netL_cons, h2], fun x hx => by
              rcases List.mem_cons.mp hx with rfl | hx
              · exact hc
              · exact h3 x hx⟩
        · cases e
    · have e : (if c = 34 then scanN 0 r else if c = 92 then scanN 2 r else scanN 1 r) = some d := e
      split at e
      · rename_i h
        exact ⟨[], r, by rw [h]; rfl, .nil, i0 d e⟩
      · rename_i h
        split at e
        · rename_i h2
          obtain ⟨x, b, r', rfl, hx, hb, hr⟩ := i2 d e
          exact ⟨92 :: x :: b, r', by rw [h2]; rfl, .two hx hb, hr⟩
        · rename_i h2
          obtain ⟨b, r', rfl, hb, hr⟩ := i1 d e
          exact ⟨c :: b, r', rfl, .one h h2 hb, hr⟩
    · have e : (if c = 10 then none else scanN 1 r) = some d := e
      split at e
      · cases e
      · rename_i h
        obtain ⟨b, r', rfl, hb, hr⟩ := i1 d e
        exact ⟨c, b, r', rfl, h, hb, hr⟩
theorem scanned {xs : List Nat} {d : Int} (h : scanN 0 xs = some d) : BalN xs d := (scan_ok xs).1 d h
theorem cnt_out (x : Nat) (hx : x < 128) : ∀ (o : List Nat), (∀ c ∈ o, c < 128) → cntB (outB o) x.toUInt8 = (o.filter (· == x)).length
  | [], _ => rfl
  | c :: o, h => by
    have ih := cnt_out x hx o fun y hy => h y (.tail _ hy)
    have hc := h c (.head _)
    have he : (c.toUInt8 == x.toUInt8) = (c == x) := by
      by_cases e : c = x
      · subst e; simp
      · have : c.toUInt8 ≠ x.toUInt8 := fun z => by
          have := congrArg UInt8.toNat z
          simp [Nat.toUInt8] at this
          lia
        rw [beq_eq_false_iff_ne.mpr this, beq_eq_false_iff_ne.mpr e]
    unfold cntB outB at ih ⊢
    rw [List.map_cons]
    show ((c.toUInt8 :: o.map (·.toUInt8)).filter (· == x.toUInt8)).length = _
    rw [List.filter_cons, List.filter_cons, he]
    split
    · rw [List.length_cons, List.length_cons]; exact congrArg (· + 1) ih
    · exact ih
theorem depth_out {o : List Nat} (h : ∀ c ∈ o, c < 128) : depthB (outB o) = netL o := by
  have h1 := cnt_out 40 (by decide) o h
  have h2 := cnt_out 41 (by decide) o h
  have e1 : (40 : Nat).toUInt8 = 40 := rfl
  have e2 : (41 : Nat).toUInt8 = 41 := rfl
  rw [e1] at h1
  rw [e2] at h2
  unfold depthB netL
  rw [h1, h2]
theorem enc_nat {x : Str} (h : Ascii x) : (encB x).map (·.toNat) = x.cps := by
  unfold encB
  rw [Array.map_map]
  have : ∀ c ∈ x.cps, ((fun y : UInt8 => y.toNat) ∘ fun c : Nat => c.toUInt8) c = c := fun c hc => by
    have := h c hc
    show (c.toUInt8).toNat = c
    simp [Nat.toUInt8]; lia
  rw [Array.map_congr_left this]
  simp
theorem depth_closed {x : Str} {d : Int} (ha : Ascii x) (hb : BalN x.cps.toList d) : ∃ out, Strip ((encB x).map (·.toNat)) 0 out ∧ depthB (outB out) = d := by
  obtain ⟨o, h1, h2, h3⟩ := hb
  rw [enc_nat ha]
  refine ⟨o, ?_, by rw [depth_out h3, h2]⟩
  have := strip_bal (text := x.cps) h1 (pre := []) (z := []) (oz := []) (by simp) (by
    have hn : ¬ x.cps.size < x.cps.size := Nat.lt_irrefl _
    have := Strip.last (text := x.cps) (p := x.cps.size) (Nat.le_refl _) (.none hn)
    have e : x.cps.toList.drop x.cps.size = [] := by simp
    rw [e] at this
    simpa using this)
  simpa using this
theorem depth_open {x : Str} {a : List Nat} {d : Int} (ha : Ascii x) (hx : x.cps.toList = a ++ [34, 40]) (hb : BalN a d) : ∃ out, Strip ((encB x).map (·.toNat)) 0 out ∧ depthB (outB out) = d + 1 := by
  obtain ⟨o, h1, h2, h3⟩ := hb
  rw [enc_nat ha]
  have hz : x.cps.size = a.length + 2 := by
    have := congrArg List.length hx
    simpa using this
  obtain ⟨l1, c1⟩ := at_mid (text := x.cps) (pre := a) (c := 34) (r := [40]) hx
  obtain ⟨l2, c2⟩ := at_mid (text := x.cps) (pre := a ++ [34]) (c := 40) (r := []) (by rw [hx]; simp)
  have e5 : (a ++ [34]).length = a.length + 1 := by simp
  have l2' : a.length + 1 < x.cps.size := by lia
  have c2' : x.cps[a.length + 1] = 40 := by
    have : x.cps[a.length + 1] = x.cps[(a ++ [34]).length] := by congr 1; exact e5.symm
    rw [this]; exact c2
  refine ⟨o ++ [34, 40], ?_, ?_⟩
  · have key : Strip x.cps a.length [34, 40] := by
      have hd : x.cps.toList.drop a.length = [34, 40] := by rw [hx]; simp
      have hs : Eat x.cps (a.length + 1) (a.length + 1 + 1) := .one l2' (by rw [c2']; decide) (by rw [c2']; decide) (.stop fun h => absurd h (by lia))
      have := Strip.last (text := x.cps) (p := a.length) (by lia) (.open_ l1 c1 hs (fun h => absurd h (by omega)) (.other l2' (by rw [c2']; decide) (.none (by omega))))
      rwa [hd] at this
    have := strip_bal (text := x.cps) h1 (pre := []) (z := [34, 40]) (oz := [34, 40]) (by simpa using hx) (by simpa using key)
    simpa using this
  · rw [depth_out fun c hc => (List.mem_append.mp hc).elim (h3 c) fun q => by simp at q; lia, netL_append, h2]
    rfl
end
section
set_option linter.unusedVariables false
open PySem PySem.W PySem.Calls PyProof.Rows PySem.Spec Q
noncomputable def markN (k : Nat) : Str := ⟨#[(Str.ofString "|!\"\\").cps.getD k 0]⟩
noncomputable def replyN (p k : Nat) : Str := Str.ofString "229 (" ++ Txt.mul (markN k) 3 ++ (toString (p : Int) : String) ++ markN k ++ Str.ofString ") ("
noncomputable def textN (a b : Nat) : Str := piecesL.getD a Str.empty ++ piecesL.getD b Str.empty
noncomputable def tailT (x : Str) : Str := if !decide (x.cps.toList.map escC = []) then Str.ofString "=\"" ++ escT x ++ Str.ofString "\"" else Str.ofString ""
theorem reply_nat {p : Nat} {f : Int} : replyOf (p : Int) f = replyN p (f / 64 % 4).toNat := rfl
theorem text_nat {f : Int} : textOf f = textN (f % 8).toNat (f / 8 % 8).toNat := rfl
theorem tail_nat {f : Int} : tailOf f = tailT (textOf f) := rfl
noncomputable def v228 (x : Str) : Str := Str.ofString "228" ++ Txt.slice x (some 3) none
noncomputable def v6 (x : Str) : Str := Txt.slice x none (some 6) ++ Txt.slice x (some 5) none
noncomputable def vA (x : Str) : Str := Builtin.Str.glued (Str.ofString "a)") (Builtin.Str.partsBetween x (Builtin.Str.occurrences x (Str.ofString ")") 0 x.length 1) (Str.ofString ")").length)
noncomputable def brkB (x : Str) : Bool :=
  decide (x.length ≤ 100) && decide (Txt.slice x none (some 3) = Str.ofString "229") && decide (0 ≤ Txt.find x (Str.ofString "(")) && decide (Txt.find x (Str.ofString "(") ≤ 1000) &&
  decide (0 ≤ Txt.find3 x (Str.ofString ")") (Txt.find x (Str.ofString "(") + 1)) && decide (Txt.find3 x (Str.ofString ")") (Txt.find x (Str.ofString "(") + 1) ≤ 1000) &&
  (Txt.charAt x (Txt.find x (Str.ofString "(") + 1)).isSome && (Txt.charAt x (Txt.find3 x (Str.ofString ")") (Txt.find x (Str.ofString "(") + 1) - 1)).isSome
noncomputable def lefts (x : Str) : Option Nat := Txt.charAt x (Txt.find x (Str.ofString "(") + 1)
noncomputable def rights (x : Str) : Option Nat := Txt.charAt x (Txt.find3 x (Str.ofString ")") (Txt.find x (Str.ofString "(") + 1) - 1)
noncomputable def inner (x : Str) : Str := Txt.slice x (some (Txt.find x (Str.ofString "(") + 1)) (some (Txt.find3 x (Str.ofString ")") (Txt.find x (Str.ofString "(") + 1)))
noncomputable def pieces (x : Str) : List Str := Txt.split (inner x) ⟨#[(lefts x).getD 0]⟩
noncomputable def partsN (x : Str) : Nat := (Builtin.Str.partsBetween (inner x) (Builtin.Str.occurrences (inner x) ⟨#[(lefts x).getD 0]⟩ 0 (inner x).length ((inner x).length + 1)) 1).length
theorem brk_of {x : Str} (h : brkB x = true) : ∃ c d, lefts x = some c ∧ rights x = some d ∧ Brk x (Txt.find x (Str.ofString "(")) (Txt.find3 x (Str.ofString ")") (Txt.find x (Str.ofString "(") + 1)) c d := by
  unfold brkB at h
  simp only [Bool.and_eq_true, decide_eq_true_eq] at h
  obtain ⟨⟨⟨⟨⟨⟨⟨h1, h2⟩, h3⟩, h4⟩, h5⟩, h6⟩, h7⟩, h8⟩ := h
  obtain ⟨c, hc⟩ := Option.isSome_iff_exists.mp h7
  obtain ⟨d, hd⟩ := Option.isSome_iff_exists.mp h8
  exact ⟨c, d, hc, hd, ⟨by lia, h2, rfl, h3, rfl, h5, h4, h6, hc, hd⟩⟩
noncomputable def okB (x : Str) (p : Nat) : Bool := brkB x && decide (lefts x = rights x) && decide ((pieces x).length = 5) && decide (partsN x ≤ 1000) && decide (((pieces x)[3]?.bind PySem.intText?) = some (p : Int)) && decide ((((pieces x)[3]?).map (·.length)).getD 0 ≤ 640)
noncomputable def okC (x : Str) : Bool := decide (x.length ≤ 100) && !decide (Txt.slice x none (some 3) = Str.ofString "229")
noncomputable def okN (x : Str) : Bool := brkB x && decide (lefts x = rights x) && !decide ((pieces x).length = 5) && decide ((pieces x).length ≤ 1000) && decide (partsN x ≤ 1000)
noncomputable def okE (x : Str) : Bool := brkB x && !decide (lefts x = rights x)
noncomputable def plainB (x : Str) : Bool := x.cps.toList.all fun c => decide (32 ≤ c) && decide (c < 127)
noncomputable abbrev repB (p k : Nat) : Bool := (okB (replyN p k) p && okC (v228 (replyN p k)) && okN (v6 (replyN p k)) && okE (vA (replyN p k)) && plainB (replyN p k) && decide ((replyN p k).length ≤ 20) &&
    decide (scanN 0 (replyN p k).cps.toList = some 1) && !(Builtin.Str.occurrences (replyN p k) (Str.ofString ")") 0 (replyN p k).length 1).isEmpty)
theorem rep_0 : ∀ p, p < 13 → repB p 0 = true := by decide +kernel
theorem rep_1 : ∀ p, p < 13 → repB p 1 = true := by decide +kernel
theorem rep_2 : ∀ p, p < 13 → repB p 2 = true := by decide +kernel
theorem rep_3 : ∀ p, p < 13 → repB p 3 = true := by decide +kernel
theorem rep_ok : ∀ p, p < 13 → ∀ k, k < 4 → (okB (replyN p k) p && okC (v228 (replyN p k)) && okN (v6 (replyN p k)) && okE (vA (replyN p k)) && plainB (replyN p k) && decide ((replyN p k).length ≤ 20) &&
    decide (scanN 0 (replyN p k).cps.toList = some 1) && !(Builtin.Str.occurrences (replyN p k) (Str.ofString ")") 0 (replyN p k).length 1).isEmpty) = true
  | p, hp, 0, _ => rep_0 p hp
  | p, hp, 1, _ => rep_1 p hp
  | p, hp, 2, _ => rep_2 p hp
  | p, hp, 3, _ => rep_3 p hp
  | _, _, k + 4, h => absurd h (Nat.not_lt_of_le (Nat.le_add_left 4 k))
theorem text_ok : ∀ a, a < 8 → ∀ b, b < 8 → (decide (paramOf (textN a b) = Str.ofString "t" ++ tailT (textN a b)) && plainB (textN a b) && plainB (paramOf (textN a b)) && decide ((textN a b).length ≤ 20) && decide ((quo1 (textN a b)).length ≤ 40) && decide ((quo2 (textN a b)).length ≤ 40) && decide ((paramOf (textN a b)).length ≤ 60) &&
    decide (scanN 0 (paramOf (textN a b)).cps.toList = some 0)) = true := by decide +kernel
theorem plain_of {x : Str} (h : plainB x = true) : Plain x := by
  intro c hc
  have hc : c ∈ x.cps.toList := by simpa using hc
  have := List.all_eq_true.mp h c hc
  simpa using this
end
section
set_option linter.unusedVariables false
open PySem PySem.W PySem.Calls PyProof.Rows PySem.Spec
section
variable {prog : Program} {w : World} {K : Frag} {M : Addr → Prop} {h : Heap} {k : Nat} {env : Env} {vm : List (Str × D)}
structure PEo (prog : Program) (w : World) (M : Addr → Prop) (h : Heap) (k : Nat) (t : Sem Value) (d : D) : Prop where
  of ::
  go : ∀ A s, Room k A → Keep h s.heap → wpAny (model prog w) A t (fun v s' => Kp s s' ∧ Rd M s'.heap v d ∧ 1 ≤ s'.toks) NoE s
structure POn (prog : Program) (w : World) (h : Heap) (k n m : Nat) (env : Env) (e : Option Expr) (i : Option Int) : Prop where
  of ::
  go : ∀ A s, Room k A → Keep h s.heap → n ≤ s.toks → wpAny (model prog w) A (valueOrNone (evalOpt e env)) (fun v s' => Kp s s' ∧ IsPart v i ∧ m ≤ s'.toks) NoE s
theorem POn.none {n : Nat} : POn prog w h k n n env none none := .of fun A s _ _ t => wpAny_pure ⟨Kp.refl s, .none, t⟩
theorem POn.lit {i : Int} {n : Nat} {c : Nat} {p : Pos} : POn prog w h k n 1 env (Option.some (Expr.Constant (Const.int i) c p)) (Option.some i) := .of fun A s _ _ _ => by
  show wpAny _ _ (mkInt i) _ _ _
  exact wpAny_mkInt ⟨Kp.tok s _, .int _ _, Nat.succ_pos _⟩
theorem PEo.slice {y : Str} {q pos p : Pos} {l u : Option Expr} {lo hi : Option Int} {x : Str} {n : Nat} (F : Fm M env vm h) (e : vm.lookup y = some (.str x)) (hd : (y == ("__debug__" : Str)) = false) (hl : POn prog w h k 0 n env l lo) (hu : POn prog w h k n 1 env u hi) (hz : x.length ≤ 16777216)
    (hs : ∀ t a, ∃ z, subscripted (.Slice l u none p) false (.str x t) (.ref a) = operate z (getItem (.str x t) (.ref a))) :
    PEo prog w M h k (eval (.Subscript (.Name y q) (.Slice l u none p) pos) env) (.str (Txt.slice x lo hi)) := by
  refine .of fun A s rm kp => Subscript_ ((PE.nameF F e hd).use rm kp fun v s1 k1 r1 => ?_)
  cases r1 using Rd.strE with
  | str _ t =>
    rw [arm_eval_Slice]
    refine wpAny_bind (wpAny_mono (hl.go A s1 rm (kp.trans k1.heap) (Nat.zero_le _)) (fun v1 s2 q1 => ?_) fun _ _ f => f.elim)
    obtain ⟨k2, i1, t2⟩ := q1
    refine wpAny_bind (wpAny_holding (wpAny_mono (hu.go A s2 rm ((kp.trans k1.heap).trans k2.heap) t2) (fun v2 s3 q2 => ?_) fun _ _ f => f.elim))
    obtain ⟨k3, i2, t3⟩ := q2
    refine wpAny_bind (wpAny_holding (m := valueOrNone (evalOpt Option.none env)) (wpAny_pure ?_))
    show wpAny _ _ (newObj (.type "slice") (.fields _)) _ _ _
    refine wpAny_newObj_type ?_
    obtain ⟨p1, rfl, rfl⟩ := part_of i1
    obtain ⟨p2, rfl, rfl⟩ := part_of i2
    have kk := ((k1.trans k2).trans k3).trans (Kp.hp s3 _ (keep_push s3.heap { cls := .type "slice", data := .fields #[partValue p1, partValue p2, Value.none] }))
    unfold subscriptTail getitemInPython
    refine wpAny_bind (wpAny_bind (wpAny_specialOf (typeIs_str _ _ _) PySem.F.slot_str_getitem.lookup (wpAny_pure ?_)))
    obtain ⟨z, hz'⟩ := hs t s3.heap.objs.size
    rw [hz']
    refine wpAny_bind (any_operate ?_)
    refine wpAny_getItem_str_slice (l := p1) (u := p2) (st := none) ⟨_, Heap.get?_push_size _ rfl, rfl, rfl⟩ rfl ?_
    unfold sliceMade
    have e2 : (if ((((none : Option (Int × Tok)).map (·.1)).getD 1 == 1 && (slicePicked x p1 p2 none).length == x.length) = true) then x else ⟨((slicePicked x p1 p2 none).filterMap (x.cps[·]?)).toArray⟩) = Txt.slice x (p1.map (·.1)) (p2.map (·.1)) := rfl
    split
    · rename_i hc
      rw [if_pos hc] at e2
      rw [← e2]
      exact wpAny_bind (wpAny_letTemporaryGo (wpAny_pure ⟨kk, .str _ _, t3⟩))
    · rename_i hc
      rw [if_neg hc] at e2
      rw [← e2]
      refine ⟨?_, wpAny_bind (wpAny_letTemporaryGo (wpAny_pure ⟨kk.trans (Kp.tok _ _), .str _ _, Nat.succ_pos _⟩))⟩
      rw [e2]
      exact Nat.le_trans (Txt.slice_le x _ _) (by rw [sizeLine_eq]; exact hz)
theorem PEo.add {l r : Expr} {p : Pos} {x y : Str} (ha : PEo prog w M h k (eval l env) (.str x)) (hb : PEo prog w M h k (eval r env) (.str y)) (hz : x.length + y.length ≤ 16777216) :
    PEo prog w M h k (eval (.BinOp l .Add r p) env) (.str (x ++ y)) := by
  refine .of ?_
  intro A s rm kp
  refine wpAny_BinOp (wpAny_mono (ha.go A s rm kp) (fun u s1 q1 => ?_) fun _ _ f => f.elim)
  obtain ⟨k1, r1, _⟩ := q1
  refine wpAny_mono (hb.go A s1 rm (kp.trans k1.heap)) (fun v s2 q2 => ?_) fun _ _ f => f.elim
  obtain ⟨k2, r2, t2⟩ := q2
  cases r1 using Rd.strE with
  | str _ t =>
    cases r2 using Rd.strE with
    | str _ t' =>
      refine concat_gives (typeIs_str s2 x t) (typeIs_str s2 y t') PySem.noFill_str_add PySem.seq_str_add F.slot_str_add F.entry_str_add (F.args_str_add_2 _ _) (gives_str_add x y t t') ?_
      have kk := k1.trans k2
      cases hb : (x.length == 0) with
      | true =>
        rw [if_pos rfl]
        have e : x ++ y = y := PySem.Str.ext' (by
          have hz : x.cps.size = 0 := by simpa [PySem.Str.length] using hb
          rw [PySem.Str.cps_append, Array.eq_empty_of_size_eq_zero hz, Array.empty_append])
        rw [e]
        exact ⟨kk, .str _ _, t2⟩
      | false =>
        rw [if_neg Bool.false_ne_true]
        cases hc : (y.length == 0) with
        | true =>
          rw [if_pos rfl]
          have e : x ++ y = x := PySem.Str.ext' (by
            have hz : y.cps.size = 0 := by simpa [PySem.Str.length] using hc
            rw [PySem.Str.cps_append, Array.eq_empty_of_size_eq_zero hz, Array.append_empty])
          rw [e]
          exact ⟨kk, .str _ _, t2⟩
        | false =>
          rw [if_neg Bool.false_ne_true]
          exact ⟨by rw [PySem.Str.length_append, sizeLine_eq]; exact hz, kk.trans (Kp.tok _ _), .str _ _, Nat.succ_pos _⟩
open Builtin Builtin.Str in
theorem gives_replace1 (x y z : PySem.Str) (t u v c : Tok) (h0 : (u == 0 || v == 0) = false) (huv : (u == v) = false) (hyz : (y == z) = false) (hy : (y.length == 0) = false) (hc : (occurrences x y 0 x.length 1).isEmpty = false) (hl : tooLong (x.length + (occurrences x y 0 x.length 1).length * z.length) = false) :
    Gives («str.replace» ⟨[.str x t, .str y u, .str z v, .int 1 c], []⟩) (.str (glued z (partsBetween x (occurrences x y 0 x.length 1) y.length))) := by
  show Gives (if ((occurrences x y 0 x.length 1).isEmpty || (y.length == 0 && z.length == 0)) = true then (do rule "str.replace.nothing"; ret (.str x t)) else
          (do let same ← isSame (.str y u) (.str z v)
              if same = true then (do rule "str.replace.old-is-new"; ret (.str x t)) else
              if tooLong (x.length + (occurrences x y 0 x.length 1).length * z.length) = true then unsupported "str.replace:memory" else
              retStr (glued z (partsBetween x (occurrences x y 0 x.length 1) y.length)))) _
  rw [hc, hy]
  rw [isSame_str_other y z u v h0 huv hyz, hl]
  exact .of_eq rfl
theorem PEt.replace1 {o : Expr} {apos p : Pos} {x : Str} {n n' n'' : Nat} {q q' q'' : Pos} (ho : PEt prog w M h k (eval o env) (.str x)) (hx : x.length ≤ 100) (hc : (Builtin.Str.occurrences x (Str.ofString ")") 0 x.length 1).isEmpty = false) (hv : (vA x).length ≤ 1000)
    (hbase : attributeBase o "replace" env (eval o env) = eval o env := by rfl)
    (hline : (apos.endLine == p.line) = true := by rfl) : PEt prog w M h k (eval (.Call (.Attribute o "replace" apos) [.Constant (.str (Str.ofString ")")) n q, .Constant (.str (Str.ofString "a)")) n' q', .Constant (.int 1) n'' q''] [] p) env) (.str (vA x)) := by
  refine .of ?_
  intro A s rm kp ps
  rw [arm_eval_Call, hbase]
  refine wpAny_bind (wpAny_mono (ho.go A s rm kp ps) (fun ov s1 g => ?_) fun _ _ f => f.elim)
  obtain ⟨k1, r1, p1⟩ := g
  cases r1 using Rd.strE with | str _ t => ?_
  refine wpAny_bind (wpAny_standAt ?_)
  unfold methodCall
  rw [show methodCallForm (([.Constant (.str (Str.ofString ")")) n q, .Constant (.str (Str.ofString "a)")) n' q', .Constant (.int 1) n'' q''] : List Expr).length + ([] : List Keyword).length) (backTo p (starEach [.Constant (.str (Str.ofString ")")) n q, .Constant (.str (Str.ofString "a)")) n' q', .Constant (.int 1) n'' q''] env)) (backToKw p (keywordEach [] env)) = true from rfl]
  refine wpAny_bind (wpAny_holding ?_)
  show wpAny _ _ (getMethod (.str x t) "replace" (do return (← importBound o env).getD true)) _ _ _
  refine GM.replace ?_
  unfold methodCallPos
  rw [hline]
  refine wpAny_bind (wpAny_pure ?_)
  unfold callWith
  refine wpAny_bind (wpAny_holding ?_)
  unfold evalArgs
  dsimp only
  split
  · rename_i u e; cases e
  have key : ∀ {Q : List Value → Shared → Prop}, Q [.str (Str.ofString ")") s1.toks, .str (Str.ofString "a)") (s1.toks + 1), .int 1 (s1.toks + 2)] { s1 with toks := s1.toks + 3 } →
      wpAny (model prog w) A (spliced (backTo p (starEach [.Constant (.str (Str.ofString ")")) n q, .Constant (.str (Str.ofString "a)")) n' q', .Constant (.int 1) n'' q''] env))) Q NoE s1 := fun hq => by
    show wpAny _ _ (spliced [(false, eval (.Constant (.str (Str.ofString ")")) n q) env), (false, eval (.Constant (.str (Str.ofString "a)")) n' q') env), (false, eval (.Constant (.int 1) n'' q'') env)]) _ _ _
    unfold spliced
    refine wpAny_bind (m := mkText (Str.ofString ")")) (wpAny_mkText ?_)
    refine wpAny_bind (wpAny_pure ?_)
    refine wpAny_bind (wpAny_holding ?_)
    unfold spliced
    refine wpAny_bind (m := mkText (Str.ofString "a)")) (wpAny_mkText ?_)
    refine wpAny_bind (wpAny_pure ?_)
    refine wpAny_bind (wpAny_holding ?_)
    unfold spliced
    refine wpAny_bind (m := mkInt 1) (wpAny_mkInt ?_)
    refine wpAny_bind (wpAny_pure ?_)
    refine wpAny_bind (wpAny_holding ?_)
    unfold spliced
    exact wpAny_pure (wpAny_pure (wpAny_pure (wpAny_pure hq)))
  refine wpAny_bind (key ?_)
  refine wpAny_bind (wpAny_pure (wpAny_holding ?_))
  refine wpAny_bind (m := evalAll []) (wpAny_pure (wpAny_bind (wpAny_pure (wpAny_pure ?_))))
  refine wpAny_bind (wpAny_standAt ?_)
  refine wpAny_bind (m := keeperOf (.builtin "str.replace")) (wpAny_pure ?_)
  have tail : ∀ {t' : Sem Value} {s₁ : Shared}, wpAny (model prog w) A t' (fun v s' => Kp s s' ∧ Rd M s'.heap v (D.str (vA x)) ∧ 1 ≤ s'.toks) NoE s₁ → wpAny (model prog w) A (t' >>= fun r => holding [r] point >>= fun _ => pure r) (fun v s' => Kp s s' ∧ Rd M s'.heap v (D.str (vA x)) ∧ 1 ≤ s'.toks) NoE s₁ :=
    fun ht => wpAny_bind (wpAny_mono ht (fun r s₂ hr => wpAny_bind (wpAny_holding (wpAny_point (wpAny_pure hr)))) fun _ _ x => x)
  refine tail ?_
  show wpAny _ _ (call (.builtin "str.replace") [.str x t, .str (Str.ofString ")") s1.toks, .str (Str.ofString "a)") (s1.toks + 1), .int 1 (s1.toks + 2)]) _ _ _
  have hocc : (Builtin.Str.occurrences x (Str.ofString ")") 0 x.length 1).length ≤ 1 := StrLaws.occ_length_le ..
  have l2 : (Str.ofString "a)").length = 2 := by decide +kernel
  refine call_gives F.slot_str_replace (typeIs_str _ _ _) F.entry_str_replace (F.args_str_replace_4 _ _ _ _) (gives_replace1 x _ _ t _ _ _ ?_ ?_ (by decide +kernel) (by decide +kernel) hc ?_) ?_
  · have : s1.toks ≠ 0 := Nat.ne_of_gt p1
    simp [this]
  · exact beq_eq_false_iff_ne.mpr (Nat.ne_of_lt (Nat.lt_succ_self _))
  · unfold Builtin.Str.tooLong
    rw [l2, sizeLine_eq]
    exact decide_eq_false (by lia)
  · exact ⟨Nat.le_trans hv (by rw [sizeLine_eq]; decide), k1.trans (Kp.tok s1 _), .str _ _, Nat.succ_pos _⟩
structure PLt (prog : Program) (w : World) (M : Addr → Prop) (h : Heap) (k n : Nat) (env : Env) (es : List Expr) (ds : List D) : Prop where
  of ::
  go : ∀ p A s, Room k A → Keep h s.heap → n ≤ s.toks → wpAny (model prog w) A (spliced (backTo p (starEach es env))) (fun v s' => Kp s s' ∧ RdL M s'.heap v ds) NoE s
theorem PLt.one {e : Expr} {d : D} (he : PEt prog w M h k (eval e env) d) (hs : starEach [e] env = [(false, eval e env)] := by rfl) : PLt prog w M h k 1 env [e] [d] := by
  refine .of fun p A s rm kp t => ?_
  rw [hs]
  show wpAny _ _ (spliced [(false, eval e env)]) _ _ _
  unfold spliced
  refine wpAny_bind (wpAny_mono (he.go A s rm kp t) (fun v s1 q => ?_) fun _ _ f => f.elim)
  refine wpAny_bind (wpAny_pure (wpAny_bind (wpAny_holding ?_)))
  unfold spliced
  exact wpAny_pure (wpAny_pure ⟨q.1, .cons q.2.1 .nil⟩)
theorem PLt.made {e : Expr} {es : List Expr} {d : D} {ds : List D} (he : PEo prog w M h k (eval e env) d) (hr : PLt prog w M h k 1 env es ds) (hs : starEach (e :: es) env = (false, eval e env) :: starEach es env := by rfl) : PLt prog w M h k 0 env (e :: es) (d :: ds) := by
  refine .of fun p A s rm kp t => ?_
  rw [hs]
  show wpAny _ _ (spliced ((false, eval e env) :: backTo p (starEach es env))) _ _ _
  unfold spliced
  refine wpAny_bind (wpAny_mono (he.go A s rm kp) (fun v s1 q => ?_) fun _ _ f => f.elim)
  obtain ⟨k1, r1, t1⟩ := q
  refine wpAny_bind (wpAny_pure (wpAny_bind (wpAny_holding (wpAny_mono (hr.go p A s1 rm (kp.trans k1.heap) t1) (fun vs s2 q2 => wpAny_pure ?_) fun _ _ f => f.elim))))
  exact ⟨k1.trans q2.1, .cons (r1.keep q2.1.heap) q2.2⟩
theorem PLt.any {e : Expr} {es : List Expr} {d : D} {ds : List D} (he : PE prog w M h k (eval e env) d) (hr : PLt prog w M h k 0 env es ds) (hs : starEach (e :: es) env = (false, eval e env) :: starEach es env := by rfl) : PLt prog w M h k 0 env (e :: es) (d :: ds) := by
  refine .of fun p A s rm kp t => ?_
  rw [hs]
  show wpAny _ _ (spliced ((false, eval e env) :: backTo p (starEach es env))) _ _ _
  unfold spliced
  refine wpAny_bind (he.use rm kp fun v s1 k1 r1 => ?_)
  refine wpAny_bind (wpAny_pure (wpAny_bind (wpAny_holding (wpAny_mono (hr.go p A s1 rm (kp.trans k1.heap) (Nat.zero_le _)) (fun vs s2 q2 => wpAny_pure ?_) fun _ _ f => f.elim))))
  exact ⟨k1.trans q2.1, .cons (r1.keep q2.1.heap) q2.2⟩
theorem PLt.pls {es : List Expr} {ds : List D} (p : PLt prog w M h k 0 env es ds) : PLs prog w M h k env es ds := .of fun q => .of fun A s rm kp => p.go q A s rm kp (Nat.zero_le _)
end
end
section
set_option linter.unusedVariables false
open PySem PySem.W PySem.Calls PyProof.Rows PySem.Spec Q
section
variable {prog : Program} {w : World} {K : Frag} {M N : Addr → Prop} {h : Heap} {k : Nat} {env : Env} {vm : List (Str × D)} {A A₀ : Around} {E : Value → Shared → Prop} {s₀ s s' : Shared}
theorem Op2.eq_bytes {b c : Array UInt8} : Op2 prog w M h k (compareOp .Eq) (.bytes b) (.bytes c) (.bool (b.toList == c.toList)) := .of fun A s u v rm kp r1 r2 => by
  cases r1 using Rd.bytesE0; cases r2 using Rd.bytesE0; exact PySem.W.eq_bytes ⟨Kp.refl s, .bool _⟩
theorem Op2.ne_bytes {b c : Array UInt8} : Op2 prog w M h k (compareOp .NotEq) (.bytes b) (.bytes c) (.bool (b.toList != c.toList)) := .of fun A s u v rm kp r1 r2 => by
  cases r1 using Rd.bytesE0; cases r2 using Rd.bytesE0; exact PySem.W.ne_bytes ⟨Kp.refl s, .bool _⟩
theorem PE.atom {t : Sem Value} {d : D} (p : PE prog w M h k t d) (a : atomD d = true) : PE prog w N h k t d := .of fun A s rm kp => wpAny_mono (p.go A s rm kp) (fun v s' q => ⟨q.1, q.2.atom a⟩) fun _ _ f => f
theorem Rd.up_strs {x l : Addr} {es : List (Str × Str)} {v : Value} {xs : List Str} (H : Rd M h (.ref x) (.hdr l es)) (r : Rd M h v (.lst (xs.map D.str))) (hxs : xs ≠ []) (i : ∀ a, N a → M a ∨ a = l) : Rd N h v (.lst (xs.map D.str)) := by
  cases r using Rd.lstE with
  | @lst a vs _ n hl hr =>
    have hne : a ≠ l := fun z => by
      cases H with
      | @hdr _ dd _ _ us n1 n2 n3 I hl' hr' =>
        obtain ⟨c1, h1⟩ := hl
        obtain ⟨c2, h2⟩ := hl'
        rw [z, h2] at h1
        have e : us.toArray = vs.toArray := by
          have := Option.some.inj h1
          injection this with _ _ e3 _
          injection e3
        have e : us = vs := by simpa using e
        subst e
        cases xs with
        | nil => exact hxs rfl
        | cons y ys =>
          rw [List.map_cons] at hr
          cases hr using RdL.consE with
          | cons r1 r2 =>
            cases es with
            | nil => cases hr' using RdL.nilE
            | cons p es =>
              rw [List.map_cons] at hr'
              cases hr' using RdL.consE with
              | cons q1 q2 => cases r1 using Rd.strE0; cases q1
    have allS : ∀ {ys : List Str} {us : List Value}, RdL M h us (ys.map D.str) → RdL N h us (ys.map D.str) := by
      intro ys
      induction ys with
      | nil => intro us r; cases r using RdL.nilE; exact .nil
      | cons y ys ih =>
        intro us r
        rw [List.map_cons] at r ⊢
        cases r using RdL.consE with | cons r1 r2 => exact .cons (r1.atom rfl) (ih r2)
    exact .lst (fun m => (i a m).elim n hne) hl (allS hr)
theorem PE.up_pair {t : Sem Value} {x l : Addr} {es : List (Str × Str)} {xs : List Str} {b : Array UInt8} (H : Rd M h (.ref x) (.hdr l es)) (hxs : xs ≠ []) (i : ∀ a, N a → M a ∨ a = l) (p : PE prog w M h k t (.tup [.lst (xs.map D.str), .bytes b])) : PE prog w N h k t (.tup [.lst (xs.map D.str), .bytes b]) := .of fun A s rm kp => by
  refine wpAny_mono (p.go A s rm kp) (fun v s' q => ⟨q.1, ?_⟩) fun _ _ f => f
  have H' := (H.keep kp).keep q.1.heap
  cases q.2 with
  | @tup a vs _ n ht hr =>
    cases hr using RdL.consE with
    | cons r1 hr => cases hr using RdL.consE with
      | cons r2 hr =>
        cases hr using RdL.nilE
        refine .tup (fun m => (i a m).elim n fun z => ?_) ht (.cons (Rd.up_strs H' r1 hxs i) (.cons (r2.atom rfl) .nil))
        cases H' using Rd.hdrE with
        | hdr n1 n2 n3 I hl' hr' =>
          obtain ⟨c1, h1⟩ := ht
          obtain ⟨c2, h2⟩ := hl'
          rw [z, h2] at h1
          have := Option.some.inj h1
          injection this with e1 _ _ _
          exact ty_ne (by decide) e1
theorem run_ifF {m : Model} {t : Expr} {body rest : List Stmt} {pos : Pos} {Q : Flow → Shared → Prop} (h : wpAny m A (isTrue t env (eval t env)) (fun b s' => b = false ∧ Go m A (execs rest env) Q E s') E s) : Go m A (execs (.If t body [] pos :: rest) env) Q E s := by
  refine .of (wpAny_execs_cons (wpAny_If (wpAny_mono h (fun b s1 q => ?_) fun _ _ f => f)))
  obtain ⟨rfl, g⟩ := q
  rw [if_neg Bool.false_ne_true]
  exact wpAny_execs_nil g.run
theorem two_muts {y name : Str} {q1 ap1 p1 q2 ap2 p2 pl : Pos} {x l f : Addr} {es es' es'' : List (Str × Str)} {args1 args2 : List Expr} {as1 as2 : List D} {d1 d2 : D} {j : Nat} {Q : Value → Shared → Prop}
    (rm : Room k A) (S : Sc (FK w) N s.heap) (off : Off (FK w) l) (hx : ∀ h', Ext (· = l) s.heap h' → Looks (model PP w) h' (loadName env y) (.ref x)) (hyd : (y == ("__debug__" : Str)) = false) (H : Rd N s.heap (.ref x) (.hdr l es))
    (hf : findIn (FK w) (.ref 248) name = some (some (.ref f))) (ht : typeIn (FK w) (.ref f) = some (.type "function")) (hn : (("_headers" : Str) == name) = false) (kpf : ∀ {M : Addr → Prop} {h : Heap}, Sc (FK w) M h → Looks (model PP w) h (keeperOf (.ref f)) .frame)
    (F1 : FnM PP w (FK w) f as1 [] d1 es es' j) (F2 : FnM PP w (FK w) f as2 [] d2 es' es'' j) (hj : j ≤ k) (a1 : atomD d1 = true) (ha1 : PLs PP w N s.heap k env args1 as1) (ha2 : ∀ h', Ext (· = l) s.heap h' → Sc (FK w) N h' → PLs PP w N h' k env args2 as2)
    (hq : ∀ s2 s', (∃ h t, s2 = { s with heap := h, toks := t }) → Ext (· = l) s.heap s2.heap → Rd N s2.heap (.ref x) (.hdr l es'') → Kp s2 s' → ∀ v, Rd N s'.heap v (.lst [d1, d2]) → Q v s')
    (hs : starEach [.Call (.Attribute (.Name y q1) name ap1) args1 [] p1, .Call (.Attribute (.Name y q2) name ap2) args2 [] p2] env = [(false, eval (.Call (.Attribute (.Name y q1) name ap1) args1 [] p1) env), (false, eval (.Call (.Attribute (.Name y q2) name ap2) args2 [] p2) env)] := by rfl)
    (hst1 : (starEach args1 env).any (·.1) = false := by rfl) (hst2 : (starEach args2 env).any (·.1) = false := by rfl)
    (hb1 : attributeBase (.Name y q1) name env (eval (.Name y q1) env) = eval (.Name y q1) env := by rfl) (hb2 : attributeBase (.Name y q2) name env (eval (.Name y q2) env) = eval (.Name y q2) env := by rfl)
    (hw1 : methodCallForm (args1.length + ([] : List Keyword).length) (backTo p1 (starEach args1 env)) (backToKw p1 (keywordEach [] env)) = true := by rfl)
    (hw2 : methodCallForm (args2.length + ([] : List Keyword).length) (backTo p2 (starEach args2 env)) (backToKw p2 (keywordEach [] env)) = true := by rfl)
    (hl1 : (ap1.endLine == p1.line) = true := by rfl) (hl2 : (ap2.endLine == p2.line) = true := by rfl) :
    wpAny (model PP w) A (eval (.List [.Call (.Attribute (.Name y q1) name ap1) args1 [] p1, .Call (.Attribute (.Name y q2) name ap2) args2 [] p2] pl) env) Q E s := by
  refine List_ ?_
  rw [hs]
  show wpAny _ _ (spliced [(false, eval (.Call (.Attribute (.Name y q1) name ap1) args1 [] p1) env), (false, eval (.Call (.Attribute (.Name y q2) name ap2) args2 [] p2) env)]) _ _ _
  unfold spliced
  refine wpAny_bind (meth_mut rm S off ((hx _ (Ext.refl _))) hyd H hf ht hn kpf F1 hj ha1 PKw.nil (fun v1 s1 same1 e1 r1 H1 => ?_) hst1 hb1 hw1 hl1)
  refine wpAny_bind (wpAny_pure (wpAny_bind (wpAny_holding ?_)))
  have S1 : Sc (FK w) N s1.heap := S.iter (I := l) (fun b o hb q => e1 b o hb q) (hdr_parts H).1 off.k off.b off.s
  unfold spliced
  refine wpAny_bind (meth_mut rm S1 off (hx _ e1) hyd H1 hf ht hn kpf F2 hj (ha2 _ e1 S1) PKw.nil (fun v2 s2 same2 e2 r2 H2 => ?_) hst2 hb2 hw2 hl2)
  refine wpAny_bind (wpAny_pure (wpAny_bind (wpAny_holding ?_)))
  unfold spliced
  refine wpAny_pure (wpAny_pure (wpAny_pure ?_))
  have S2 : Sc (FK w) N s2.heap := S1.iter (I := l) (fun b o hb q => e2 b o hb q) (hdr_parts H1).1 off.k off.b off.s
  refine wpAny_newList (hq s2 _ ?_ (fun b o n q => e2 b o n (e1 b o n q)) H2 (Kp.hp _ _ (keep_push _ _)) _ ?_) (by rw [sizeLine_eq]; simp)
  · obtain ⟨h1, t1, rfl⟩ := same1
    obtain ⟨h2, t2, rfl⟩ := same2
    exact ⟨h2, t2, rfl⟩
  · exact .lst (vs := [v1, v2]) S2.size ⟨0, Heap.get?_push_size _ rfl⟩ (.cons (r1.atom a1) (.cons (r2.keep (keep_push _ _)) .nil))
end
end
section
set_option linter.unusedVariables false
open PySem PySem.W PySem.Calls PyProof.Rows PySem.Spec Q
section
variable {w : World} {M N : Addr → Prop} {h : Heap} {k : Nat} {env : Env} {vm : List (Str × D)} {A A₀ : Around} {E : Value → Shared → Prop} {s₀ s s' : Shared}
theorem kp_248 (S : Sc (FK w) M h) : Looks (model PP w) h (keeperOf (.ref 248)) .machine := Looks.of_peek S.inn (by kernel_rfl)
theorem eval_new {q p : Pos} {Q : Value → Shared → Prop} (rm : Room (k + 3) A) (S : Sc (FK w) M s.heap) (O : EnvOk env) (hk : env.kindOf "Headers" = some .globalImplicit)
    (hq : ∀ x l s', Kp s s' → s.heap.get? x = none → s.heap.get? l = none → Rd M s'.heap (.ref x) (.hdr l []) → Q (.ref x) s') : wpAny (model PP w) A (eval (.Call (.Name "Headers" q) [] [] p) env) Q E s := by
  refine wpAny_Call_Name_kw (wpAny_Name ((glob_of O S (g_Headers _) hk).here ?_) (by kernel_rfl!))
  refine any_callWith (h := s.heap) (M := M) rm (Keep.refl _) (by rfl) PLs.nil PKw.nil (kp_248 S) fun vs us s1 k1 r1 r2 => ?_
  cases r1 using RdL.nilE; cases r2 using RdL.nilE
  refine wpAny_mono (new_headers (k := k) (S.keep k1.heap) A s1 rm (Keep.refl _)) (fun v s2 z => ?_) fun _ _ f => f.elim
  obtain ⟨k2, x, l, rfl, fx, fl, H⟩ := z
  have back : ∀ a, s1.heap.get? a = none → s.heap.get? a = none := fun a f => by
    cases q : s.heap.get? a with
    | none => rfl
    | some o => rw [k1.heap _ _ q] at f; cases f
  exact hq x l s2 (k1.trans k2) (back x fx) (back l fl) H
theorem go_sw3 {x y z : Str} {p p' p'' q pos : Pos} {n : Nat} {e : Expr} {rest : List Stmt} {Q : Flow → Shared → Prop} {m : Model}
    (hs : swapsWith e (some (.Tuple [.Name x p, .Name y p', .Name z p''] n q)) pos.line env = pure false) (hsw : swappedStores [.Tuple [.Name x p, .Name y p', .Name z p''] n q] e env = pure (some [x, y, z]))
    (h : wpAny m A (eval e env) (fun v s1 => wpAny m A (unpackItems v 3 none) (fun items s2 => wpAny m A (assignInOrder [fun v => bindName env z v, fun v => bindName env y v, fun v => bindName env x v] items.reverse) (fun _ s' => Go m A (execs rest env) Q E s') E s2) E s1) E s) :
    Go m A (execs (.Assign [.Tuple [.Name x p, .Name y p', .Name z p''] n q] e pos :: rest) env) Q E s := by
  refine .of (wpAny_execs_cons ?_)
  show wpAny _ _ (do
    standAt pos
    if ← swapsWith e (some (.Tuple [.Name x p, .Name y p', .Name z p''] n q)) pos.line env then do
      evalThenUse e env fun v => assignAll v ((assignEach [.Tuple [.Name x p, .Name y p', .Name z p''] n q] env).map (·.2))
      pure .next
    else do
      let v ← eval e env
      assignStores env v (← swappedStores [.Tuple [.Name x p, .Name y p', .Name z p''] n q] e env) ((assignEach [.Tuple [.Name x p, .Name y p', .Name z p''] n q] env).map (·.2))) _ _ _
  refine wpAny_bind (wpAny_standAt (wpAny_bind (wpAny_of_eq hs ?_)))
  rw [if_neg Bool.false_ne_true]
  refine wpAny_bind (wpAny_mono h (fun v s1 q => wpAny_bind (wpAny_of_eq hsw ?_)) fun _ _ f => f)
  unfold assignStores
  refine wpAny_bind (wpAny_rule ?_)
  refine wpAny_bind (wpAny_mono q (fun items s2 q => ?_) fun _ _ f => f)
  refine wpAny_bind (wpAny_mono q (fun u s3 g => ?_) fun _ _ f => f)
  exact wpAny_pure g.run
theorem start_turn (Fa : Fra A₀ A M env s₀) {p1 p2 p3 pt q1 q2 q3 q4 q5 pv pos : Pos} {n1 n2 : Nat} {rest : List Stmt} {Q : Flow → Shared → Prop} (R : RunX (FK w) A₀ s₀ (Mof M env) env vm s) (rm : Room (k + 3) A) (O : EnvOk env) (hH : env.kindOf "Headers" = some .globalImplicit)
    (hh : KindOk env "here") (ht : KindOk env "there") (hu : KindOk env "turned")
    (hs : swapsWith (.Tuple [.Call (.Name "Headers" q1) [] [] q2, .Call (.Name "Headers" q3) [] [] q4, .List [] q5] n2 pv) (some (.Tuple [.Name "here" p1, .Name "there" p2, .Name "turned" p3] n1 pt)) pos.line env = pure false)
    (hsw : swappedStores [.Tuple [.Name "here" p1, .Name "there" p2, .Name "turned" p3] n1 pt] (.Tuple [.Call (.Name "Headers" q1) [] [] q2, .Call (.Name "Headers" q3) [] [] q4, .List [] q5] n2 pv) env = pure (some [("here" : Str), ("there" : Str), ("turned" : Str)]))
    (nx : ∀ x1 l1 x2 l2 T s', TF w s₀ M env l1 l2 T → TS w A₀ s₀ M env x1 l1 x2 l2 T [] [] [] (("here", .ref x1) :: ("there", .ref x2) :: ("turned", .ref T) :: vm) s' → Go (model PP w) A (execs rest env) Q E s') :
    Go (model PP w) A (execs (.Assign [.Tuple [.Name "here" p1, .Name "there" p2, .Name "turned" p3] n1 pt] (.Tuple [.Call (.Name "Headers" q1) [] [] q2, .Call (.Name "Headers" q3) [] [] q4, .List [] q5] n2 pv) pos :: rest) env) Q E s := by
  refine go_sw3 hs hsw ?_
  refine Tuple_ ?_
  show wpAny _ _ (spliced [(false, eval (.Call (.Name "Headers" q1) [] [] q2) env), (false, eval (.Call (.Name "Headers" q3) [] [] q4) env), (false, eval (.List [] q5) env)]) _ _ _
  have S := R.run.sc
  unfold spliced
  refine wpAny_bind (eval_new rm S O hH fun x1 l1 s1 k1 fx1 fl1 H1 => ?_)
  refine wpAny_bind (wpAny_pure (wpAny_bind (wpAny_holding ?_)))
  have S1 := S.keep k1.heap
  unfold spliced
  refine wpAny_bind (eval_new rm S1 O hH fun x2 l2 s2 k2 fx2 fl2 H2 => ?_)
  refine wpAny_bind (wpAny_pure (wpAny_bind (wpAny_holding ?_)))
  have S2 := S1.keep k2.heap
  unfold spliced
  refine wpAny_bind (List_ ?_)
  show wpAny _ _ (spliced []) _ _ _
  unfold spliced
  refine wpAny_pure (wpAny_newList ?_ (by rw [sizeLine_eq]; simp))
  refine wpAny_bind (wpAny_pure (wpAny_bind (wpAny_holding ?_)))
  refine wpAny_pure (wpAny_pure (wpAny_pure (wpAny_pure ?_)))
  generalize hT : s2.heap.objs.size = T
  have fT2 : s2.heap.get? T = none := by rw [← hT]; exact get_size _
  generalize hH3 : s2.heap.push { cls := .type "list", dict := none, data := .seq ([] : List Value).toArray } = H3
  have k3 : Kp s2 { s2 with heap := H3 } := Kp.hp _ _ (hH3 ▸ keep_push _ _)
  have hPT : H3.PlainList T ([] : List Value).toArray := ⟨0, by rw [← hH3, ← hT]; exact Heap.get?_push_size _ rfl⟩
  refine wpAny_newTuple (s := { s2 with heap := H3 }) ?_ (by rw [sizeLine_eq]; simp)
  have k4 : Kp { s2 with heap := H3 } { s2 with heap := H3.push { cls := .type "tuple", dict := none, data := .seq ([.ref x1, .ref x2, .ref T] : List Value).toArray } } := Kp.hp { s2 with heap := H3 } _ (keep_push _ _)
  have kk := ((k1.trans k2).trans k3).trans k4
  have ht4 : PTup (H3.push { cls := .type "tuple", dict := none, data := .seq ([.ref x1, .ref x2, .ref T] : List Value).toArray }) H3.objs.size #[.ref x1, .ref x2, .ref T] := ⟨0, Heap.get?_push_size _ rfl⟩
  refine (unpackItems_tuple (items := #[.ref x1, .ref x2, .ref T]) rm.handled ht4.isTup fun h₁ he => ?_)
  have k5 : Keep (H3.push { cls := .type "tuple", dict := none, data := .seq ([.ref x1, .ref x2, .ref T] : List Value).toArray }) h₁ := keep_extBut he (get_size _)
  have k6 : Kp s { s2 with heap := h₁ } := kk.trans (Kp.hp { s2 with heap := H3.push { cls := .type "tuple", dict := none, data := .seq ([.ref x1, .ref x2, .ref T] : List Value).toArray } } _ k5)
  have back1 : ∀ a, s1.heap.get? a = none → s.heap.get? a = none := fun a f => by
    cases q : s.heap.get? a with
    | none => rfl
    | some o => rw [k1.heap _ _ q] at f; cases f
  have back2 : ∀ a, s2.heap.get? a = none → s1.heap.get? a = none := fun a f => by
    cases q : s1.heap.get? a with
    | none => rfl
    | some o => rw [k2.heap _ _ q] at f; cases f
  have fl2s := back1 _ fl2
  have fTs := back1 _ (back2 _ fT2)
  have toS0 : ∀ a, s.heap.get? a = none → s₀.heap.get? a = none := fun a f => by
    cases q : s₀.heap.get? a with
    | none => rfl
    | some o =>
      by_cases hb : a ∈ frL A₀
      · obtain ⟨_, m, hm⟩ := Fa.out.mem hb
        obtain ⟨o', ho', hd'⟩ := ns_not_fields hm
        rw [q] at ho'
        cases ho'
        obtain ⟨sl, hs⟩ := R.up a hb o q hd'
        rw [f] at hs; cases hs
      · rw [R.run.keep a o hb q] at f; cases f
  have l1a1 : (s1.heap.get? l1).isSome = true := (hdr_parts H1).2
  have l2a2 : (s2.heap.get? l2).isSome = true := (hdr_parts H2).2
  have up : ∀ {a : Addr} {h h' : Heap}, Keep h h' → (h.get? a).isSome = true → (h'.get? a).isSome = true := fun {a h h'} k e => by
    obtain ⟨o, ho⟩ := Option.isSome_iff_exists.mp e
    rw [k _ _ ho]; rfl
  have k36 : Keep s2.heap h₁ := (k3.heap.trans k4.heap).trans k5
  have ne21 : l2 ≠ l1 := fun z => by rw [z] at fl2; rw [fl2] at l1a1; cases l1a1
  have neT1 : T ≠ l1 := fun z => by
    have := up k2.heap l1a1
    rw [← z, fT2] at this; cases this
  have neT2 : T ≠ l2 := fun z => by rw [← z, fT2] at l2a2; cases l2a2
  have f : TF w s₀ M env l1 l2 T := by
    have a1 := S.newOff fl1
    have a2 := S.newOff fl2s
    exact ⟨toS0 _ fl1, toS0 _ fl2s, toS0 _ fTs, ⟨a1.2.1, a1.2.2.1, a1.2.2.2⟩, ⟨a2.2.1, a2.2.2.1, a2.2.2.2⟩, S.dead fl1, S.dead fl2s, S.dead fTs⟩
  have hT6 : h₁.PlainList T ([] : List Value).toArray := hPT.at fun o q => k5 _ _ (k4.heap _ _ q)
  have R6 : RunX (FK w) A₀ s₀ (B3 M env l1 l2 T) env vm { s2 with heap := h₁ } := by
    have aT := S.newOff fTs
    have S6 := S.keep k6.heap
    have sc : Sc (FK w) (B3 M env l1 l2 T) h₁ := by
      refine ⟨S6.inn, S6.bns, S6.lim, S6.dig, fun a m => ?_, fun a m => ?_, fun m => ?_, fun m => ?_⟩
      · rcases m with m | m | m | m
        · exact S6.alive a m
        · rw [m]; exact up (k2.heap.trans k36) l1a1
        · rw [m]; exact up k36 l2a2
        · rw [m]; obtain ⟨c, ho⟩ := hT6; rw [ho]; rfl
      · rcases m with m | m | m | m
        · exact S6.offK a m
        · rw [m]; exact f.o1.k
        · rw [m]; exact f.o2.k
        · rw [m]; exact aT.2.1
      · rcases m with m | m | m | m
        · exact S6.offB m
        · exact f.o1.b m.symm
        · exact f.o2.b m.symm
        · exact aT.2.2.1 m.symm
      · rcases m with m | m | m | m
        · exact S6.offS m
        · exact f.o1.s m.symm
        · exact f.o2.s m.symm
        · exact aT.2.2.2 m.symm
    have fm : Fm (B3 M env l1 l2 T) env vm s.heap := R.run.fm.swap (fun a ha nm m => by
      rcases m with m | m | m | m
      · exact nm m
      · rw [m, fl1] at ha; cases ha
      · rw [m, fl2s] at ha; cases ha
      · rw [m, fTs] at ha; cases ha) (.inl R.run.fm.inL) fun x c e => .inl (R.run.fm.inC x c e)
    have R6' := R.pure k6
    exact ⟨⟨R6'.run.same, R6'.run.keep, sc, fm.keep k6.heap, R6'.run.own⟩, R6'.up⟩
  have G1 : Rd (B2 M env l2 T) h₁ (.ref x1) (.hdr l1 []) := (H1.swap fun a ha nm m => by
    rcases m with m | m | m
    · exact nm m
    · rw [m, fl2] at ha; cases ha
    · rw [m, back2 _ fT2] at ha; cases ha).keep (k2.heap.trans k36)
  have G2 : Rd (B2 M env l1 T) h₁ (.ref x2) (.hdr l2 []) := by
    have : Rd (B2 M env l1 T) s2.heap (.ref x2) (.hdr l2 []) := by
      have hl1 : s2.heap.PlainList l1 ([] : List Value).toArray := by
        cases H1 using Rd.hdrE with | hdr n1 n2 n3 I hl hr => cases hr using RdL.nilE; exact hl.at fun o q => k2.heap _ _ q
      cases H2 using Rd.hdrE with
      | @hdr _ dd _ _ vs n1 n2 n3 I hl hr =>
        have hl0 := hl
        obtain ⟨hx, hh', tk, nn, hd⟩ := I
        have nT : ∀ a o, s2.heap.get? a = some o → a ≠ T := fun a o q z => by rw [z, fT2] at q; cases q
        obtain ⟨c, hlo⟩ := hl0
        refine .hdr (fun m => ?_) (fun m => ?_) (fun m => ?_) ⟨hx, hh', tk, nn, hd⟩ hl (by cases hr using RdL.nilE; exact .nil)
        · rcases m with m | m | m
          · exact n1 m
          · rw [m] at fx2; rw [fx2] at l1a1; cases l1a1
          · exact nT _ _ hx m
        · rcases m with m | m | m
          · exact n2 m
          · obtain ⟨c1, h1⟩ := hl1
            rw [m, h1] at hd
            exact nomatch congrArg Obj.data (Option.some.inj hd)
          · exact nT _ _ hd m
        · rcases m with m | m | m
          · exact n3 m
          · exact ne21 m
          · exact nT _ _ hlo m
    exact this.keep k36
  have t6 : TS w A₀ s₀ M env x1 l1 x2 l2 T [] [] [] vm { s2 with heap := h₁ } := ⟨R6, G1, G2, [], hT6, .nil⟩
  show wpAny _ _ (assignInOrder [fun v => bindName env "turned" v, fun v => bindName env "there" v, fun v => bindName env "here" v] [.ref T, .ref x2, .ref x1]) _ _ _
  unfold assignInOrder
  refine wpAny_bind (wpAny_holding (wpAny_bindName (run_store t6.run.run (.ref T) hu fun s7 R7 e7 => ?_)))
  have t7 := t6.own f R7 e7
  unfold assignInOrder
  refine wpAny_bind (wpAny_holding (wpAny_bindName (run_store t7.run.run (.ref x2) ht fun s8 R8 e8 => ?_)))
  have t8 := t7.own f R8 e8
  unfold assignInOrder
  refine wpAny_bind (wpAny_holding (wpAny_bindName (run_store t8.run.run (.ref x1) hh fun s9 R9 e9 => ?_)))
  have t9 := t8.own f R9 e9
  unfold assignInOrder
  exact wpAny_pure (nx x1 l1 x2 l2 T s9 f t9)
end
end
section
set_option linter.unusedVariables false
namespace P
noncomputable abbrev Op := Option Nat × Bool
noncomputable def opened (o : Bool) (p : Int) (W : List Int) : List Int := if o then W ++ [p] else W
noncomputable def run (p : Int) (W : List Int) : List Op → List (Int × Int)
  | [] => []
  | (some i, o) :: r => (W.getD i 0, p) :: run (p + 1) (opened o p (W.eraseIdx i)) r
  | (none, o) :: r => run (p + 1) (opened o p W) r
noncomputable def flip (n : Nat) : List Op → List Op
  | [] => []
  | (some i, o) :: r => (some (n - 1 - i), o) :: flip (n - 1 + o.toNat) r
  | (none, o) :: r => (none, o) :: flip (n + o.toNat) r
noncomputable def ok (n : Nat) : List Op → Bool
  | [] => n == 0
  | (some i, o) :: r => decide (i < n) && ok (n - 1 + o.toNat) r
  | (none, o) :: r => ok (n + o.toNat) r
noncomputable def crossN (n : Nat) : List Op → Nat
  | [] => 0
  | (some i, o) :: r => (n - 1 - i) + crossN (n - 1 + o.toNat) r
  | (none, o) :: r => crossN (n + o.toNat) r
noncomputable def nestN (n : Nat) : List Op → Nat
  | [] => 0
  | (some i, o) :: r => i + nestN (n - 1 + o.toNat) r
  | (none, o) :: r => nestN (n + o.toNat) r
theorem ok_flip : ∀ (n : Nat) (ops : List Op), ok n ops = true → ok n (flip n ops) = true
  | n, [], h => h
  | n, (some i, o) :: r, h => by
    simp only [ok, flip, Bool.and_eq_true, decide_eq_true_eq] at h ⊢
    exact ⟨by exact Nat.lt_of_le_of_lt (Nat.sub_le _ _) (Nat.sub_lt (Nat.zero_lt_of_lt h.1) Nat.one_pos), ok_flip _ r h.2⟩
  | n, (none, o) :: r, h => ok_flip (n + o.toNat) r h
theorem flip_flip : ∀ (n : Nat) (ops : List Op), ok n ops = true → flip n (flip n ops) = ops
  | n, [], h => rfl
  | n, (some i, o) :: r, h => by
    simp only [ok, Bool.and_eq_true, decide_eq_true_eq] at h
    simp only [flip]
    rw [flip_flip _ r h.2, show n - 1 - (n - 1 - i) = i by exact ar8 h.1]
  | n, (none, o) :: r, h => by simp only [flip]; rw [flip_flip (n + o.toNat) r h]
theorem cross_flip : ∀ (n : Nat) (ops : List Op), ok n ops = true → crossN n (flip n ops) = nestN n ops
  | n, [], h => rfl
  | n, (some i, o) :: r, h => by
    simp only [ok, Bool.and_eq_true, decide_eq_true_eq] at h
    simp only [flip, crossN, nestN]
    rw [cross_flip _ r h.2]; rw [ar8 h.1]
  | n, (none, o) :: r, h => by simp only [flip, crossN, nestN]; exact cross_flip (n + o.toNat) r h
theorem nest_flip : ∀ (n : Nat) (ops : List Op), ok n ops = true → nestN n (flip n ops) = crossN n ops
  | n, [], h => rfl
  | n, (some i, o) :: r, h => by
    simp only [ok, Bool.and_eq_true, decide_eq_true_eq] at h
    simp only [flip, crossN, nestN]
    rw [nest_flip _ r h.2]
  | n, (none, o) :: r, h => by simp only [flip, crossN, nestN]; exact nest_flip (n + o.toNat) r h
theorem opened_len (o : Bool) (p : Int) (W : List Int) : (opened o p W).length = W.length + o.toNat := by
  cases o <;> simp [opened]
structure Wt (p : Int) (W : List Int) : Prop where
  up : W.Pairwise (· < ·)
  lt : ∀ x ∈ W, x < p
theorem Wt.erase {p : Int} {W : List Int} (h : Wt p W) (i : Nat) : Wt p (W.eraseIdx i) :=
  ⟨h.up.sublist (List.eraseIdx_sublist ..), fun x hx => h.lt x ((List.eraseIdx_sublist ..).subset hx)⟩
theorem Wt.opened {p : Int} {W : List Int} (h : Wt p W) (o : Bool) : Wt (p + 1) (opened o p W) := by
  cases o
  · exact ⟨h.up, fun x hx => by have := h.lt x hx; lia⟩
  · refine ⟨List.pairwise_append.mpr ⟨h.up, by simp, fun a ha b hb => ?_⟩, fun x hx => ?_⟩
    · have : b = p := by simpa using hb
      rw [this]; exact h.lt a ha
    · have : x ∈ W ++ [p] := hx
      rcases List.mem_append.mp this with q | q
      · have := h.lt x q; omega
      · have : x = p := by simpa using q
        lia
theorem run_snd : ∀ (p : Int) (W : List Int) (ops : List Op), ∀ t ∈ run p W ops, p ≤ t.2
  | p, W, [], t, h => by cases h
  | p, W, (some i, o) :: r, t, h => by
    rcases List.mem_cons.mp h with rfl | h
    · exact Int.le_refl _
    · have := run_snd _ _ r t h; lia
  | p, W, (none, o) :: r, t, h => by have := run_snd _ _ r t h; omega
theorem countP_erase (P : Int → Bool) : ∀ (W : List Int) (i : Nat), i < W.length → W.countP P = (if P (W.getD i 0) then 1 else 0) + (W.eraseIdx i).countP P
  | [], i, h => by cases h
  | x :: W, 0, h => by simp [List.countP_cons]; lia
  | x :: W, i + 1, h => by
    have := countP_erase P W i (by simpa using h)
    simp only [List.countP_cons, List.eraseIdx_cons_succ, List.getD_cons_succ]
    lia
theorem countP_opened (P : Int → Bool) (o : Bool) (p : Int) (W : List Int) (h : P p = false) : (opened o p W).countP P = W.countP P := by
  cases o <;> simp [opened, List.countP_append, h]
theorem begins : ∀ (p : Int) (W : List Int) (ops : List Op) (P : Int → Bool), ok W.length ops = true → (∀ x, p ≤ x → P x = false) → (run p W ops).countP (fun t => P t.1) = W.countP P
  | p, W, [], P, h, hp => by
    have : W = [] := List.eq_nil_of_length_eq_zero (by simpa [ok] using h)
    subst this; rfl
  | p, W, (some i, o) :: r, P, h, hp => by
    simp only [ok, Bool.and_eq_true, decide_eq_true_eq] at h
    have hl : (opened o p (W.eraseIdx i)).length = W.length - 1 + o.toNat := by rw [opened_len, List.length_eraseIdx_of_lt h.1]
    have ih := begins (p + 1) (opened o p (W.eraseIdx i)) r P (by rw [hl]; exact h.2) (fun x hx => hp x (by lia))
    simp only [run, List.countP_cons]
    rw [ih, countP_opened P o p _ (hp p (Int.le_refl _)), countP_erase P W i h.1]
    lia
  | p, W, (none, o) :: r, P, h, hp => by
    have ih := begins (p + 1) (opened o p W) r P (by rw [opened_len]; exact h) (fun x hx => hp x (by lia))
    simp only [run]
    rw [ih, countP_opened P o p _ (hp p (Int.le_refl _))]
theorem before : ∀ (W : List Int) (i : Nat), W.Pairwise (· < ·) → i < W.length → W.countP (fun x => decide (x < W.getD i 0)) = i
  | x :: W, 0, h, _ => by
    have : ∀ y ∈ x :: W, ¬ y < x := fun y hy => by
      rcases List.mem_cons.mp hy with rfl | hy
      · lia
      · have := List.rel_of_pairwise_cons h hy; lia
    refine List.countP_eq_zero.mpr fun y hy => ?_
    simpa using this y hy
  | x :: W, i + 1, h, hi => by
    have hi' : i < W.length := by simpa using hi
    have ih := before W i (List.Pairwise.of_cons h) hi'
    have hx : x < W.getD i 0 := by
      have : W.getD i 0 ∈ W := by simp [List.getD, hi']
      exact List.rel_of_pairwise_cons h this
    simp only [List.getD_cons_succ, List.countP_cons]
    rw [ih, if_pos (decide_eq_true hx)]
theorem behind : ∀ (W : List Int) (i : Nat), W.Pairwise (· < ·) → i < W.length → W.countP (fun x => decide (W.getD i 0 < x)) = W.length - 1 - i
  | x :: W, 0, h, _ => by
    have hx : ∀ y ∈ W, x < y := fun y hy => List.rel_of_pairwise_cons h hy
    have : W.countP (fun y => decide (x < y)) = W.length := List.countP_eq_length.mpr fun y hy => by simpa using hx y hy
    simp only [List.getD_cons_zero, List.countP_cons, this]
    simp
  | x :: W, i + 1, h, hi => by
    have hi' : i < W.length := by simpa using hi
    have ih := behind W i (List.Pairwise.of_cons h) hi'
    have hx : x < W.getD i 0 := by
      have : W.getD i 0 ∈ W := by simp [List.getD, hi']
      exact List.rel_of_pairwise_cons h this
    have hn : ¬ W.getD i 0 < x := by lia
    simp only [List.getD_cons_succ, List.countP_cons, List.length_cons]
    rw [ih, if_neg (by rw [decide_eq_false hn]; exact Bool.false_ne_true)]; lia
noncomputable def crossP (a b : Int × Int) : Bool := decide (a.1 < b.1) && (decide (b.1 < a.2) && decide (a.2 < b.2))
noncomputable def nestP (a b : Int × Int) : Bool := decide (a.1 < b.1) && decide (b.2 < a.2)
noncomputable def cnt2 (q : Int × Int → Int × Int → Bool) (ts : List (Int × Int)) : Nat := (ts.flatMap fun a => ts.filter (q a)).length
theorem cnt2_sum (q : Int × Int → Int × Int → Bool) (us : List (Int × Int)) : ∀ ts : List (Int × Int), (ts.flatMap fun a => us.filter (q a)).length = (ts.map fun a => us.countP (q a)).sum
  | [] => rfl
  | t :: ts => by rw [List.flatMap_cons, List.length_append, cnt2_sum q us ts, List.map_cons, List.sum_cons, List.countP_eq_length_filter]
theorem sum_add (f g : Int × Int → Nat) : ∀ ts : List (Int × Int), (ts.map fun a => f a + g a).sum = (ts.map f).sum + (ts.map g).sum
  | [] => rfl
  | t :: ts => by simp only [List.map_cons, List.sum_cons, sum_add f g ts]; lia
theorem sum_countP (q : Int × Int → Bool) : ∀ ts : List (Int × Int), (ts.map fun a => if q a = true then 1 else 0).sum = ts.countP q
  | [] => rfl
  | t :: ts => by
    rw [List.map_cons, List.sum_cons, sum_countP q ts, List.countP_cons]; lia
theorem cnt2_cons (q : Int × Int → Int × Int → Bool) (t : Int × Int) (ts : List (Int × Int)) (h : q t t = false) : cnt2 q (t :: ts) = ts.countP (q t) + ts.countP (fun a => q a t) + cnt2 q ts := by
  unfold cnt2
  rw [cnt2_sum, cnt2_sum, List.map_cons, List.sum_cons, List.countP_cons, h]
  have e : (ts.map fun a => (t :: ts).countP (q a)) = ts.map fun a => ts.countP (q a) + (if q a t = true then 1 else 0) := by
    refine List.map_congr_left fun a _ => ?_
    rw [List.countP_cons]
  rw [e, sum_add, sum_countP]
  simp
  lia
theorem cross_run : ∀ (p : Int) (W : List Int) (ops : List Op), Wt p W → ok W.length ops = true → cnt2 crossP (run p W ops) = crossN W.length ops ∧ cnt2 nestP (run p W ops) = nestN W.length ops
  | p, W, [], hw, h => ⟨rfl, rfl⟩
  | p, W, (some i, o) :: r, hw, h => by
    simp only [ok, Bool.and_eq_true, decide_eq_true_eq] at h
    have hl : (opened o p (W.eraseIdx i)).length = W.length - 1 + o.toNat := by rw [opened_len, List.length_eraseIdx_of_lt h.1]
    have hk : ok (opened o p (W.eraseIdx i)).length r = true := by rw [hl]; exact h.2
    obtain ⟨ih1, ih2⟩ := cross_run (p + 1) (opened o p (W.eraseIdx i)) r ((hw.erase i).opened o) hk
    rw [hl] at ih1 ih2
    have hs : ∀ t ∈ run (p + 1) (opened o p (W.eraseIdx i)) r, p < t.2 := fun t ht => by have := run_snd _ _ r t ht; assumption
    have hp : W.getD i 0 < p := hw.lt _ (by simp [List.getD, h.1])
    simp only [run, crossN, nestN]
    rw [cnt2_cons crossP _ _ (by simp [crossP]), cnt2_cons nestP _ _ (by simp [nestP]), ih1, ih2]
    have c1 : (run (p + 1) (opened o p (W.eraseIdx i)) r).countP (crossP (W.getD i 0, p)) = W.length - 1 - i := by
      have e : (run (p + 1) (opened o p (W.eraseIdx i)) r).countP (crossP (W.getD i 0, p)) = (run (p + 1) (opened o p (W.eraseIdx i)) r).countP (fun t => (fun x => decide (W.getD i 0 < x) && decide (x < p)) t.1) := by
        refine List.countP_congr fun t ht => ?_
        have := hs t ht
        simp [crossP, this]
      rw [e, begins (p + 1) _ r (fun x => decide (W.getD i 0 < x) && decide (x < p)) hk (fun x hx => by simp; intro _; lia), countP_opened _ o p _ (by simp)]
      have e2 := countP_erase (fun x => decide (W.getD i 0 < x) && decide (x < p)) W i h.1
      have e3 : W.countP (fun x => decide (W.getD i 0 < x) && decide (x < p)) = W.countP (fun x => decide (W.getD i 0 < x)) := by
        refine List.countP_congr fun x hx => ?_
        have := hw.lt x hx
        simp [this]
      rw [e3, behind W i hw.up h.1, if_neg (by rw [decide_eq_false (Int.lt_irrefl _)]; exact Bool.false_ne_true)] at e2
      lia
    have c2 : (run (p + 1) (opened o p (W.eraseIdx i)) r).countP (fun a => crossP a (W.getD i 0, p)) = 0 := by
      refine List.countP_eq_zero.mpr fun t ht => ?_
      have := hs t ht
      simp [crossP]; intro _ _; lia
    have n1 : (run (p + 1) (opened o p (W.eraseIdx i)) r).countP (nestP (W.getD i 0, p)) = 0 := by
      refine List.countP_eq_zero.mpr fun t ht => ?_
      have := hs t ht
      simp [nestP]; intro _; omega
    have n2 : (run (p + 1) (opened o p (W.eraseIdx i)) r).countP (fun a => nestP a (W.getD i 0, p)) = i := by
      have e : (run (p + 1) (opened o p (W.eraseIdx i)) r).countP (fun a => nestP a (W.getD i 0, p)) = (run (p + 1) (opened o p (W.eraseIdx i)) r).countP (fun t => (fun x => decide (x < W.getD i 0)) t.1) := by
        refine List.countP_congr fun t ht => ?_
        have := hs t ht
        simp [nestP, this]
      rw [e, begins (p + 1) _ r (fun x => decide (x < W.getD i 0)) hk (fun x hx => decide_eq_false (by lia)), countP_opened _ o p _ (decide_eq_false (by lia))]
      have e2 := countP_erase (fun x => decide (x < W.getD i 0)) W i h.1
      rw [before W i hw.up h.1, if_neg (by rw [decide_eq_false (Int.lt_irrefl _)]; exact Bool.false_ne_true)] at e2
      lia
    rw [c1, c2, n1, n2]
    exact ⟨by lia, by lia⟩
  | p, W, (none, o) :: r, hw, h => by
    have hl := opened_len o p W
    have := cross_run (p + 1) (opened o p W) r (hw.opened o) (by rw [hl]; exact h)
    rw [hl] at this
    exact this
end P
end
section
set_option linter.unusedVariables false
open PySem PySem.W PySem.Calls PyProof.Rows PySem.Spec Q
section
variable {w : World} {j : Nat}
theorem kLt (f : Int) : (f / 64 % 4).toNat < 4 := by
  have := Int.emod_nonneg (f / 64) (show (4 : Int) ≠ 0 by decide)
  have := Int.emod_lt_of_pos (f / 64) (show (0 : Int) < 4 by decide)
  lia
theorem aLt (f : Int) : (f % 8).toNat < 8 := by
  have := Int.emod_nonneg f (show (8 : Int) ≠ 0 by decide)
  have := Int.emod_lt_of_pos f (show (0 : Int) < 8 by decide)
  lia
structure RepOk (x : Str) (p : Nat) : Prop where
  ok : okB x p = true
  code : okC (v228 x) = true
  more : okN (v6 x) = true
  ends : okE (vA x) = true
  plain : Plain x
  len : x.length ≤ 20
  scan : scanN 0 x.cps.toList = some 1
  occ : (Builtin.Str.occurrences x (Str.ofString ")") 0 x.length 1).isEmpty = false
theorem rep_at {p : Nat} {f : Int} (hp : p < 13) : RepOk (replyOf (p : Int) f) p := by
  have h := rep_ok p hp _ (kLt f)
  rw [reply_nat]
  simp only [Bool.and_eq_true, decide_eq_true_eq, Bool.not_eq_true'] at h
  obtain ⟨⟨⟨⟨⟨⟨⟨h1, h2⟩, h3⟩, h4⟩, h5⟩, h6⟩, h7⟩, h8⟩ := h
  exact ⟨h1, h2, h3, h4, plain_of h5, h6, h7, h8⟩
structure TxtOk (t : Str) : Prop where
  par : paramOf t = Str.ofString "t" ++ tailT t
  plain : Plain t
  pplain : Plain (paramOf t)
  len : t.length ≤ 20
  q1 : (quo1 t).length ≤ 40
  q2 : (quo2 t).length ≤ 40
  plen : (paramOf t).length ≤ 60
  scan : scanN 0 (paramOf t).cps.toList = some 0
theorem txt_at (f : Int) : TxtOk (textOf f) := by
  have h := text_ok _ (aLt f) _ (aLt (f / 8))
  rw [text_nat]
  simp only [Bool.and_eq_true, decide_eq_true_eq] at h
  obtain ⟨⟨⟨⟨⟨⟨⟨h1, h2⟩, h3⟩, h4⟩, h5⟩, h6⟩, h7⟩, h8⟩ := h
  exact ⟨h1, plain_of h2, plain_of h3, h4, h5, h6, h7, h8⟩
theorem told_self {x : Str} {p : Nat} {d1 d2 : D} (h : okB x p = true) : FnX PP w (FK w) 283 [.str x, .tup [d1, d2]] (.tup [d1, .int p]) (j + 2) := by
  unfold okB at h
  simp only [Bool.and_eq_true, decide_eq_true_eq] at h
  obtain ⟨⟨⟨⟨⟨h1, h2⟩, h3⟩, h4⟩, h5⟩, h6⟩ := h
  obtain ⟨c, d, hc, hd, B⟩ := brk_of h1
  have : c = d := by rw [hc, hd] at h2; exact Option.some.inj h2
  subst this
  have e : pieces x = Txt.split (Txt.slice x (some (Txt.find x (Str.ofString "(") + 1)) (some (Txt.find3 x (Str.ofString ")") (Txt.find x (Str.ofString "(") + 1)))) ⟨#[c]⟩ := by unfold pieces; rw [hc]; rfl
  have e2 : partsN x = (Builtin.Str.partsBetween (inner x) (Builtin.Str.occurrences (inner x) ⟨#[c]⟩ 0 (inner x).length ((inner x).length + 1)) 1).length := by unfold partsN; rw [hc]; rfl
  have hl : 3 < (pieces x).length := by lia
  obtain ⟨y, hy⟩ : ∃ y, (pieces x)[3]? = some y := ⟨_, List.getElem?_eq_getElem hl⟩
  rw [hy] at h5 h6
  rw [e2] at h4
  refine fn_told_ok (fn_parse (y := y) B (by rw [← e]; exact h3) (Nat.le_trans h4 (by decide)) (by rw [← e]; exact hy) h5 h6)
theorem told_code {x : Str} {d : D} (h : okC x = true) : FnX PP w (FK w) 283 [.str x, d] (.str "code") (j + 2) := by
  unfold okC at h
  simp only [Bool.and_eq_true, decide_eq_true_eq, Bool.not_eq_true'] at h
  exact fn_told_code (fn_parse_code (by lia) h.2)
theorem told_more {x : Str} {d : D} (h : okN x = true) : FnX PP w (FK w) 283 [.str x, d] (.str "marks") (j + 2) := by
  unfold okN at h
  simp only [Bool.and_eq_true, decide_eq_true_eq, Bool.not_eq_true', decide_eq_false_iff_not] at h
  obtain ⟨⟨⟨⟨h1, h2⟩, h3⟩, h4⟩, h5⟩ := h
  obtain ⟨c, d, hc, hd, B⟩ := brk_of h1
  have : c = d := by rw [hc, hd] at h2; exact Option.some.inj h2
  subst this
  have e : pieces x = Txt.split (Txt.slice x (some (Txt.find x (Str.ofString "(") + 1)) (some (Txt.find3 x (Str.ofString ")") (Txt.find x (Str.ofString "(") + 1)))) ⟨#[c]⟩ := by unfold pieces; rw [hc]; rfl
  have e2 : partsN x = (Builtin.Str.partsBetween (inner x) (Builtin.Str.occurrences (inner x) ⟨#[c]⟩ 0 (inner x).length ((inner x).length + 1)) 1).length := by unfold partsN; rw [hc]; rfl
  rw [e] at h3 h4
  rw [e2] at h5
  exact fn_told_marks (fn_parse_count B h3 h4 (Nat.le_trans h5 (by decide)))
theorem told_ends {x : Str} {d : D} (h : okE x = true) : FnX PP w (FK w) 283 [.str x, d] (.str "marks") (j + 2) := by
  unfold okE at h
  simp only [Bool.and_eq_true, Bool.not_eq_true', decide_eq_false_iff_not] at h
  obtain ⟨c, d, hc, hd, B⟩ := brk_of h.1
  exact fn_told_marks (fn_parse_ends B fun e => h.2 (by rw [hc, hd, e]))
end
noncomputable def mOf (n0 : Nat) (i : Int) : Nat := n0 + i.toNat
noncomputable def entH (n0 : Nat) (fig : Int → Int) (i : Int) : Str × Str := (nameH (mOf n0 i) (fig i), entOf (replyOf i (fig i)) (textOf (fig i)))
noncomputable def entT (n0 : Nat) (fig : Int → Int) (i : Int) : Str × Str := (nameT (mOf n0 i) (fig i), replyOf i (fig i))
structure Pl (W : List Int) : Prop where
  nd : W.Nodup
  lo : ∀ i ∈ W, 1 ≤ i
  hi : ∀ i ∈ W, i ≤ 12
theorem Pl.len {W : List Int} (h : Pl W) : W.length ≤ 12 := by
  have hs : W ⊆ (List.range 13).map (fun n : Nat => (n : Int)) := fun i hi => by
    have h1 := h.lo i hi
    have h2 := h.hi i hi
    exact List.mem_map.mpr ⟨i.toNat, by simp; lia, by lia⟩
  have key : ∀ (l r : List Int), l.Nodup → (∀ i ∈ l, i ∈ r) → l.length ≤ r.length := by
    intro l
    induction l with
    | nil => intro r _ _; exact Nat.zero_le _
    | cons a l ih =>
      intro r nd hr
      rw [List.nodup_cons] at nd
      have ha := hr a (.head _)
      have := ih (r.erase a) nd.2 fun i hi => (List.mem_erase_of_ne (fun (z : i = a) => nd.1 (by rw [← z]; exact hi))).mpr (hr i (.tail _ hi))
      rw [List.length_erase_of_mem ha] at this
      have : 0 < r.length := List.length_pos_of_mem ha
      rw [List.length_cons]; lia
  have hs2 : ∀ i ∈ W, i ∈ (List.range 12).map (fun n : Nat => (n : Int) + 1) := fun i hi => by
    have h1 := h.lo i hi
    have h2 := h.hi i hi
    exact List.mem_map.mpr ⟨(i - 1).toNat, by simp; lia, by lia⟩
  have := key W _ h.nd hs2
  simpa using this
theorem m_lt {n0 : Nat} {i : Int} (h : n0 < 4096) (hi : i ≤ 12) : mOf n0 i < 65536 := by unfold mOf; lia
theorem m_inj {n0 : Nat} {i j : Int} (h1 : 1 ≤ i) (h2 : 1 ≤ j) (e : mOf n0 i = mOf n0 j) : i = j := by unfold mOf at e; lia
theorem rep_in {i : Int} {f : Int} (h1 : 1 ≤ i) (h2 : i ≤ 12) : RepOk (replyOf i f) i.toNat := by
  have := rep_at (p := i.toNat) (f := f) (by lia)
  rwa [show ((i.toNat : Nat) : Int) = i by lia] at this
theorem str_len_append (x y : Str) : (x ++ y).length = x.length + y.length := Str.length_append x y
theorem ent_is (v t : Str) : entOf v t = v ++ Str.ofString "; " ++ paramOf t := by
  unfold entOf
  show Builtin.Str.glued _ _ = _
  rw [StrLaws.glued_eq_join]; rfl
theorem ent_len {v t : Str} (hv : v.length ≤ 20) (ht : TxtOk t) : (entOf v t).length ≤ 100 := by
  rw [ent_is, str_len_append, str_len_append]
  have := ht.plen
  have : (Str.ofString "; ").length = 2 := rfl
  lia
theorem fitH {W : List Int} {n0 : Nat} {fig : Int → Int} (P : Pl W) (hn : n0 < 4096) : FitH (W.map (entH n0 fig)) := by
  refine ⟨by rw [List.length_map]; exact Nat.le_trans P.len (by decide), fun p hp => ?_⟩
  obtain ⟨i, hi, rfl⟩ := List.mem_map.mp hp
  have h1 := P.lo i hi
  have h2 := P.hi i hi
  exact ⟨Nat.le_trans (len_nameH (m_lt hn h2) _) (by decide), Nat.le_trans (ent_len (rep_in h1 h2).len (txt_at _)) (by decide)⟩
theorem goodT {W : List Int} {n0 : Nat} {fig : Int → Int} (P : Pl W) (hn : n0 < 4096) : GoodH (W.map (entT n0 fig)) := fun p hp => by
  obtain ⟨i, hi, rfl⟩ := List.mem_map.mp hp
  exact Nat.le_trans (len_nameT (m_lt hn (P.hi i hi)) _) (by decide)
theorem goodHH {W : List Int} {n0 : Nat} {fig : Int → Int} (P : Pl W) (hn : n0 < 4096) : GoodH (W.map (entH n0 fig)) := fun p hp => ((fitH P hn).2 p hp).1
theorem find_map {α β : Type} (f : α → β) (q : β → Bool) : ∀ l : List α, (l.map f).find? q = (l.find? fun a => q (f a)).map f
  | [] => rfl
  | a :: l => by
    rw [List.map_cons, List.find?_cons, List.find?_cons]
    split <;> simp_all [find_map f q l]
theorem look_at {V : List Int} {n0 : Nat} {fig : Int → Int} {nm : Str} {i : Int} (P : Pl V) (hn : n0 < 4096) (hnm : Txt.lower nm = smallL (mOf n0 i)) (h1 : 1 ≤ i) : lookH (V.map (entT n0 fig)) nm = if i ∈ V then .str (replyOf i (fig i)) else .none := by
  unfold lookH
  rw [find_map]
  have e : (V.find? fun a => Txt.lower (entT n0 fig a).1 == Txt.lower nm) = if i ∈ V then some i else none := by
    have hq : ∀ a ∈ V, (Txt.lower (entT n0 fig a).1 == Txt.lower nm) = decide (a = i) := fun a ha => by
      show (Txt.lower (nameT (mOf n0 a) (fig a)) == Txt.lower nm) = _
      rw [lower_nameT, hnm]
      by_cases z : a = i
      · subst z; simp
      · rw [decide_eq_false z]
        exact beq_eq_false_iff_ne.mpr fun y => z (m_inj (P.lo a ha) h1 (small_inj y))
    have key : ∀ l : List Int, (∀ a ∈ l, (Txt.lower (entT n0 fig a).1 == Txt.lower nm) = decide (a = i)) → (l.find? fun a => Txt.lower (entT n0 fig a).1 == Txt.lower nm) = if i ∈ l then some i else none := by
      intro l
      induction l with
      | nil => intro _; rfl
      | cons a l ih =>
        intro hl
        rw [List.find?_cons, hl a (.head _)]
        by_cases z : a = i
        · subst z; simp
        · rw [decide_eq_false z, ih fun b hb => hl b (.tail _ hb)]
          have : (i ∈ a :: l) ↔ i ∈ l := by
            rw [List.mem_cons]
            exact ⟨fun q => q.resolve_left fun y => z y.symm, .inr⟩
          simp [this]
    exact key V hq
  rw [e]
  by_cases h : i ∈ V
  · rw [if_pos h, if_pos h]; rfl
  · rw [if_neg h, if_neg h]; rfl
theorem drop_gen {W : List Int} {ent : Int → Str × Str} {n0 : Nat} {nm : Str} {c : Nat} (P : Pl W) (hn : n0 < 4096) (he : ∀ i, Txt.lower (ent i).1 = smallL (mOf n0 i)) (hc : c < W.length) (hnm : Txt.lower nm = smallL (mOf n0 (W.getD c 0))) : dropH (W.map ent) nm = (W.eraseIdx c).map ent := by
  unfold dropH
  rw [List.filter_map]
  congr 1
  have hw : W.getD c 0 = W[c] := by simp [List.getD, hc]
  have hq : ∀ a ∈ W, ((fun p : Str × Str => !decide (Txt.lower p.1 = Txt.lower nm)) ∘ ent) a = !decide (a = W[c]) := fun a ha => by
    show (!decide (Txt.lower (ent a).1 = Txt.lower nm)) = _
    rw [he, hnm, hw]
    by_cases z : a = W[c]
    · simp [z]
    · rw [decide_eq_false z, decide_eq_false]
      exact fun y => z (m_inj (P.lo a ha) (P.lo _ (List.getElem_mem hc)) (small_inj y))
  rw [List.filter_congr hq]
  have key : ∀ (l : List Int) (c : Nat) (h : c < l.length), l.Nodup → l.filter (fun a => !decide (a = l[c])) = l.eraseIdx c := by
    intro l
    induction l with
    | nil => intro c h; cases h
    | cons a l ih =>
      intro c h nd
      rw [List.nodup_cons] at nd
      cases c with
      | zero =>
        rw [List.eraseIdx_cons_zero, List.filter_cons]
        simp only [List.getElem_cons_zero, decide_true, Bool.not_true, Bool.false_eq_true, if_false]
        refine List.filter_eq_self.mpr fun b hb => ?_
        rw [decide_eq_false fun (z : b = a) => nd.1 (by rw [← z]; exact hb)]; rfl
      | succ c =>
        have hc : c < l.length := by simpa using h
        rw [List.eraseIdx_cons_succ, List.filter_cons]
        have ha : a ≠ l[c] := fun z => nd.1 (z ▸ List.getElem_mem hc)
        simp only [List.getElem_cons_succ, decide_eq_false ha, Bool.not_false, if_true]
        rw [ih c hc nd.2]
  exact key W c hc P.nd
end
section
set_option linter.unusedVariables false
structure TInv (ties total : List (Int × Int)) (ops : List P.Op) (j : Nat) (W V : List Int) (ts : List (Int × Int)) : Prop where
  len : V.length = W.length
  w1 : P.Wt (1 + (j : Int)) W
  w2 : P.Wt (1 + (j : Int)) V
  lo1 : ∀ x ∈ W, 1 ≤ x
  lo2 : ∀ x ∈ V, 1 ≤ x
  ok : P.ok W.length (ops.drop j) = true
  ties : ∃ done, ties = done ++ P.run (1 + (j : Int)) W (ops.drop j) ∧ ∀ t ∈ done, t.1 < 1 + (j : Int) ∧ t.2 < 1 + (j : Int)
  tot : total = ts ++ P.run (1 + (j : Int)) V (P.flip W.length (ops.drop j))
noncomputable def endsAt (ties : List (Int × Int)) (p : Int) : List Int := (ties.filter fun t => t.2 == p).map (·.1)
noncomputable def waitsAt (ties : List (Int × Int)) (p : Int) : List Int := (ties.filter fun t => decide (t.1 < p) && decide (p ≤ t.2)).map (·.1)
noncomputable def beginsAt (ties : List (Int × Int)) (p : Int) : List Int := (ties.filter fun t => t.1 == p).map (·.1)
variable {ties total : List (Int × Int)} {ops : List P.Op} {j : Nat} {W V : List Int} {ts : List (Int × Int)}
theorem TInv.start (h : P.ok 0 ops = true) : TInv (P.run 1 [] ops) (P.run 1 [] (P.flip 0 ops)) ops 0 [] [] [] :=
  ⟨rfl, ⟨.nil, (by simp)⟩, ⟨.nil, (by simp)⟩, (by simp), (by simp), h, ⟨[], rfl, (by simp)⟩, rfl⟩
theorem TInv.stop (h : TInv ties total ops ops.length W V ts) : W = [] ∧ V = [] ∧ total = ts := by
  have ho := h.ok
  have ht := h.tot
  rw [List.drop_length] at ho ht
  have hW : W = [] := List.eq_nil_of_length_eq_zero (by simpa [P.ok] using ho)
  have hV : V = [] := List.eq_nil_of_length_eq_zero (by rw [h.len, hW]; rfl)
  subst hW; subst hV
  exact ⟨rfl, rfl, by simpa [P.run, P.flip] using ht⟩
theorem filter_none {α : Type} {q : α → Bool} {l : List α} (h : ∀ x ∈ l, q x = false) : l.filter q = [] := List.filter_eq_nil_iff.mpr fun x hx => by rw [h x hx]; exact Bool.false_ne_true
theorem count_fst (q : Int → Bool) (ts : List (Int × Int)) (x : Int) : ((ts.filter fun t => q t.1).map (·.1)).count x = ts.countP fun t => q t.1 && t.1 == x := by
  induction ts with
  | nil => rfl
  | cons t ts ih =>
    rw [List.countP_cons, ← ih]
    cases hq : q t.1 with
    | true => rw [List.filter_cons_of_pos (p := fun t : Int × Int => q t.1) hq, List.map_cons, List.count_cons]; simp
    | false => rw [List.filter_cons_of_neg (p := fun t : Int × Int => q t.1) (by show ¬ q t.1 = true; rw [hq]; exact Bool.false_ne_true)]; simp
theorem TInv.waits (h : TInv ties total ops j W V ts) : W.Perm (waitsAt ties (1 + (j : Int))) := by
  obtain ⟨done, e, hd⟩ := h.ties
  have e2 : waitsAt ties (1 + (j : Int)) = ((P.run (1 + (j : Int)) W (ops.drop j)).filter fun t => decide (t.1 < 1 + (j : Int))).map (·.1) := by
    unfold waitsAt
    rw [e, List.filter_append, filter_none fun t ht => by rw [decide_eq_false (show ¬ 1 + (j : Int) ≤ t.2 by have := (hd t ht).2; lia), Bool.and_false], List.nil_append]
    refine congrArg _ (List.filter_congr fun t ht => ?_)
    rw [decide_eq_true (P.run_snd _ _ _ t ht), Bool.and_true]
  rw [e2]
  refine List.perm_iff_count.mpr fun x => ?_
  rw [count_fst (fun y => decide (y < 1 + (j : Int)))]
  have := P.begins (1 + (j : Int)) W (ops.drop j) (fun y => decide (y < 1 + (j : Int)) && y == x) h.ok fun y hy => by rw [decide_eq_false (by lia), Bool.false_and]
  rw [this]
  rw [List.count, List.countP_congr fun y hy => ?_]
  rw [decide_eq_true (h.w1.lt y hy), Bool.true_and]
theorem drop_at {α : Type} {l : List α} {j : Nat} {a : α} (h : l[j]? = some a) : l.drop j = a :: l.drop (j + 1) := by
  obtain ⟨hj, e⟩ := List.getElem?_eq_some_iff.mp h
  rw [List.drop_eq_getElem_cons hj, e]
theorem TInv.noend {o : Bool} (h : TInv ties total ops j W V ts) (ho : ops[j]? = some (none, o)) : endsAt ties (1 + (j : Int)) = [] := by
  obtain ⟨done, e, hd⟩ := h.ties
  rw [drop_at ho] at e
  unfold endsAt
  rw [e, List.filter_append, filter_none fun t ht => beq_eq_false_iff_ne.mpr (by have := (hd t ht).2; omega), filter_none fun t ht => beq_eq_false_iff_ne.mpr (by have := P.run_snd _ _ _ t (show t ∈ P.run (1 + (j : Int) + 1) _ _ from ht); omega)]
  rfl
theorem TInv.oneend {o : Bool} {c : Nat} (h : TInv ties total ops j W V ts) (ho : ops[j]? = some (some c, o)) : endsAt ties (1 + (j : Int)) = [W.getD c 0] ∧ c < W.length := by
  obtain ⟨done, e, hd⟩ := h.ties
  have hk := h.ok
  rw [drop_at ho] at e hk
  simp only [P.ok, Bool.and_eq_true, decide_eq_true_eq] at hk
  refine ⟨?_, hk.1⟩
  unfold endsAt
  rw [e, List.filter_append, filter_none fun t ht => beq_eq_false_iff_ne.mpr (by have := (hd t ht).2; lia)]
  simp only [P.run]
  rw [List.filter_cons_of_pos (by simp), filter_none fun t ht => beq_eq_false_iff_ne.mpr (by have := P.run_snd _ _ _ t ht; omega)]
  rfl
theorem wt_not {p : Int} {W : List Int} (h : P.Wt p W) : W.countP (fun y => y == p) = 0 := List.countP_eq_zero.mpr fun y hy => by have := h.lt y hy; simp; lia
theorem count_opened {p : Int} {W : List Int} {o : Bool} (h : P.Wt p W) : (P.opened o p W).countP (fun y => y == p) = o.toNat := by
  cases o
  · exact wt_not h
  · show (W ++ [p]).countP _ = 1
    rw [List.countP_append, wt_not h]; simp
theorem TInv.opens {oc : Option Nat} {o : Bool} (h : TInv ties total ops j W V ts) (ho : ops[j]? = some (oc, o)) : decide (beginsAt ties (1 + (j : Int)) = []) = !o := by
  obtain ⟨done, e, hd⟩ := h.ties
  have hk := h.ok
  rw [drop_at ho] at e hk
  have hc : (ties.countP fun t => t.1 == 1 + (j : Int)) = o.toNat := by
    rw [e, List.countP_append, List.countP_eq_zero.mpr (fun t ht => by have := (hd t ht).1; simp; omega), Nat.zero_add]
    cases oc with
    | none =>
      simp only [P.run]
      rw [P.begins (1 + (j : Int) + 1) (P.opened o (1 + (j : Int)) W) (ops.drop (j + 1)) (fun y => y == 1 + (j : Int)) (by rw [P.opened_len]; exact hk) fun x hx => beq_eq_false_iff_ne.mpr (by omega)]
      exact count_opened h.w1
    | some c =>
      simp only [P.ok, Bool.and_eq_true, decide_eq_true_eq] at hk
      simp only [P.run, List.countP_cons]
      have hm : W.getD c 0 ∈ W := by simp [List.getD, hk.1]
      have := h.w1.lt _ hm
      rw [P.begins (1 + (j : Int) + 1) (P.opened o (1 + (j : Int)) (W.eraseIdx c)) (ops.drop (j + 1)) (fun y => y == 1 + (j : Int)) (by rw [P.opened_len, List.length_eraseIdx_of_lt hk.1]; exact hk.2) fun x hx => beq_eq_false_iff_ne.mpr (by lia), count_opened (h.w1.erase c), if_neg (by simp only [beq_iff_eq]; lia)]
      rfl
  have hl : (beginsAt ties (1 + (j : Int))).length = o.toNat := by
    unfold beginsAt
    rw [List.length_map, ← List.countP_eq_length_filter]
    exact hc
  cases o with
  | false =>
    exact decide_eq_true (List.eq_nil_of_length_eq_zero hl)
  | true =>
    refine decide_eq_false fun z => ?_
    rw [z] at hl; cases hl
theorem lo_opened {p : Int} {W : List Int} {o : Bool} (h : ∀ x ∈ W, 1 ≤ x) (hp : 1 ≤ p) : ∀ x ∈ P.opened o p W, 1 ≤ x := by
  cases o
  · exact h
  · intro x hx
    rcases List.mem_append.mp (show x ∈ W ++ [p] from hx) with q | q
    · exact h x q
    · have : x = p := by simpa using q
      lia
theorem lo_erase {W : List Int} {c : Nat} (h : ∀ x ∈ W, 1 ≤ x) : ∀ x ∈ W.eraseIdx c, 1 ≤ x := fun x hx => h x ((List.eraseIdx_sublist ..).subset hx)
theorem cast1 : 1 + ((j + 1 : Nat) : Int) = 1 + (j : Int) + 1 := by lia
theorem TInv.next0 {o : Bool} (h : TInv ties total ops j W V ts) (ho : ops[j]? = some (none, o)) : TInv ties total ops (j + 1) (P.opened o (1 + (j : Int)) W) (P.opened o (1 + (j : Int)) V) ts := by
  obtain ⟨done, e, hd⟩ := h.ties
  have hk := h.ok
  have ht := h.tot
  rw [drop_at ho] at e hk ht
  refine ⟨by rw [P.opened_len, P.opened_len, h.len], by rw [cast1]; exact h.w1.opened o, by rw [cast1]; exact h.w2.opened o, lo_opened h.lo1 (by lia), lo_opened h.lo2 (by omega), by rw [P.opened_len]; exact hk, ⟨done, by rw [cast1]; exact e, fun t q => by have := hd t q; omega⟩, ?_⟩
  rw [cast1, P.opened_len]; exact ht
theorem TInv.next1 {o : Bool} {c : Nat} (h : TInv ties total ops j W V ts) (ho : ops[j]? = some (some c, o)) :
    TInv ties total ops (j + 1) (P.opened o (1 + (j : Int)) (W.eraseIdx c)) (P.opened o (1 + (j : Int)) (V.eraseIdx (W.length - 1 - c))) (ts ++ [(V.getD (W.length - 1 - c) 0, 1 + (j : Int))]) := by
  obtain ⟨done, e, hd⟩ := h.ties
  have hk := h.ok
  have ht := h.tot
  rw [drop_at ho] at e hk ht
  simp only [P.ok, Bool.and_eq_true, decide_eq_true_eq] at hk
  have hc' : W.length - 1 - c < V.length := by rw [h.len]; exact ar7 hk.1
  have hm : W.getD c 0 ∈ W := by simp [List.getD, hk.1]
  have hlt := h.w1.lt _ hm
  refine ⟨by rw [P.opened_len, P.opened_len, List.length_eraseIdx_of_lt hk.1, List.length_eraseIdx_of_lt hc', h.len], by rw [cast1]; exact (h.w1.erase c).opened o, by rw [cast1]; exact (h.w2.erase _).opened o, lo_opened (lo_erase h.lo1) (by lia), lo_opened (lo_erase h.lo2) (by omega), by rw [P.opened_len, List.length_eraseIdx_of_lt hk.1]; exact hk.2, ⟨done ++ [(W.getD c 0, 1 + (j : Int))], ?_, fun t q => ?_⟩, ?_⟩
  · rw [cast1, List.append_assoc]; exact e
  · rcases List.mem_append.mp q with q | q
    · have := hd t q; lia
    · obtain rfl : t = (W.getD c 0, 1 + (j : Int)) := by simpa using q
      exact ⟨by show W.getD c 0 < _; lia, by show 1 + (j : Int) < _; lia⟩
  · rw [cast1, List.append_assoc, P.opened_len, List.length_eraseIdx_of_lt hk.1]; exact ht
theorem TInv.plW (h : TInv ties total ops j W V ts) (hj : j < 13) : Pl W := ⟨h.w1.up.imp fun q => by lia, h.lo1, fun x hx => by have := h.w1.lt x hx; lia⟩
theorem TInv.plV (h : TInv ties total ops j W V ts) (hj : j < 13) : Pl V := ⟨h.w2.up.imp fun q => by lia, h.lo2, fun x hx => by have := h.w2.lt x hx; lia⟩
end
section
set_option linter.unusedVariables false
open PySem PySem.W PySem.Calls PyProof.Rows PySem.Spec Q
theorem cpsL_append (x y : Str) : (x ++ y).cps.toList = x.cps.toList ++ y.cps.toList := by rw [Str.cps_append, Array.toList_append]
theorem str_of_list {x y : Str} (h : x.cps.toList = y.cps.toList) : x = y := Str.ext' (Array.toList_inj.mp h)
theorem join0L (l : List Str) : (Txt.join (Str.ofString "") l).cps.toList = l.flatMap fun x => x.cps.toList := by
  show (Builtin.Str.glued _ l).cps.toList = _
  rw [StrLaws.glued_eq_join]
  induction l with
  | nil => rfl
  | cons x r ih =>
    cases r with
    | nil => simp [Str.join]
    | cons y r =>
      show (x ++ Str.ofString "" ++ Str.join (Str.ofString "") (y :: r)).cps.toList = _
      rw [cpsL_append, cpsL_append, ih]
      have : (Str.ofString "").cps.toList = [] := rfl
      rw [this]
      simp
theorem joinCR (l : List Str) : (Txt.join (Str.ofString "\r\n") (l ++ [Str.ofString "", Str.ofString ""])).cps.toList = (l.flatMap fun x => x.cps.toList ++ [13, 10]) ++ [13, 10] := by
  show (Builtin.Str.glued _ _).cps.toList = _
  rw [StrLaws.glued_eq_join]
  have hcr : (Str.ofString "\r\n").cps.toList = [13, 10] := by decide +kernel
  have h0 : (Str.ofString "").cps.toList = [] := rfl
  induction l with
  | nil =>
    show (Str.ofString "" ++ Str.ofString "\r\n" ++ Str.join (Str.ofString "\r\n") [Str.ofString ""]).cps.toList = _
    rw [cpsL_append, cpsL_append, hcr, h0]
    rfl
  | cons x r ih =>
    have e : Str.join (Str.ofString "\r\n") ((x :: r) ++ [Str.ofString "", Str.ofString ""]) = x ++ Str.ofString "\r\n" ++ Str.join (Str.ofString "\r\n") (r ++ [Str.ofString "", Str.ofString ""]) := by
      cases r <;> rfl
    rw [e, cpsL_append, cpsL_append, ih, hcr]
    simp
noncomputable def sentW (first : Int) (fig : Int → Int) (W : List Int) : Str := Txt.join (Str.ofString "") (W.map fun i => sentOf i (fig i) first) ++ Str.ofString "\r\n"
theorem sent_line {n0 : Nat} {first i : Int} {fig : Int → Int} (h : first % 4096 = (n0 : Int)) (hn : n0 < 4096) (h1 : 1 ≤ i) (h2 : i ≤ 12) : (sentOf i (fig i) first).cps.toList = (lineOf (entH n0 fig i)).cps.toList ++ [13, 10] := by
  unfold sentOf lineOf entH
  rw [h, show (n0 : Int) + i = ((mOf n0 i : Nat) : Int) by unfold mOf; lia, wordOf_nat (m_lt hn h2)]
  dsimp only
  rw [ent_is, (txt_at (fig i)).par, ← tail_nat]
  have hcr : (Str.ofString "\r\n").cps.toList = [13, 10] := by decide +kernel
  have ht : (Str.ofString "; t").cps.toList = (Str.ofString "; ").cps.toList ++ (Str.ofString "t").cps.toList := by decide +kernel
  simp only [cpsL_append, hcr, ht]
  simp
theorem flatMap_eq {α β : Type} {f g : α → List β} : ∀ {l : List α}, (∀ x ∈ l, f x = g x) → l.flatMap f = l.flatMap g
  | [], _ => rfl
  | x :: l, h => by rw [List.flatMap_cons, List.flatMap_cons, h x (.head _), flatMap_eq fun y hy => h y (.tail _ hy)]
theorem sent_eq {n0 : Nat} {first : Int} {fig : Int → Int} {W : List Int} (h : first % 4096 = (n0 : Int)) (hn : n0 < 4096) (P : Pl W) : sentH (W.map (entH n0 fig)) = sentW first fig W := by
  apply str_of_list
  unfold sentH sentW
  have hcr : (Str.ofString "\r\n").cps.toList = [13, 10] := by decide +kernel
  have e1 := joinCR ((W.map (entH n0 fig)).map lineOf)
  rw [e1, cpsL_append, join0L, hcr]
  have e2 : ((W.map (entH n0 fig)).map lineOf).flatMap (fun x => x.cps.toList ++ [13, 10]) = W.flatMap fun i => (lineOf (entH n0 fig i)).cps.toList ++ [13, 10] := by rw [List.flatMap_map, List.flatMap_map]
  have e3 : (W.map fun i => sentOf i (fig i) first).flatMap (fun x => x.cps.toList) = W.flatMap fun i => (sentOf i (fig i) first).cps.toList := by rw [List.flatMap_map]
  rw [e2, e3]
  exact congrArg (· ++ [13, 10]) (flatMap_eq fun i hi => (sent_line h hn (P.lo i hi) (P.hi i hi)).symm)
theorem letters_bal : ∀ {xs : List Nat}, (∀ c ∈ xs, 65 ≤ c ∧ c < 127) → BalN xs 0
  | [], _ => ⟨[], .nil, rfl, fun c hc => nomatch hc⟩
  | c :: xs, h => by
    obtain ⟨o, h1, h2, h3⟩ := letters_bal (xs := xs) fun x hx => h x (.tail _ hx)
    have hc := h c (.head _)
    refine ⟨c :: o, .chr (by lia) h1, ?_, fun x hx => ?_⟩
    · rw [netL_cons, h2]
      unfold sg
      rw [if_neg (by lia), if_neg (by lia)]; rfl
    · rcases List.mem_cons.mp hx with rfl | hx
      · lia
      · exact h3 x hx
theorem nameH_letters (m : Nat) (f : Int) : ∀ c ∈ (nameH m f).cps.toList, 65 ≤ c ∧ c < 127 := by
  unfold nameH
  intro c hc
  split at hc
  · have hc : c ∈ (hx m).map (97 + ·) := hc
    obtain ⟨d, hd, rfl⟩ := List.mem_map.mp hc
    have := hx_lt m d hd
    lia
  · have hc : c ∈ (hx m).map (65 + ·) := hc
    obtain ⟨d, hd, rfl⟩ := List.mem_map.mp hc
    have := hx_lt m d hd
    lia
theorem line_bal {n0 : Nat} {fig : Int → Int} {i : Int} (h1 : 1 ≤ i) (h2 : i ≤ 12) : BalN ((lineOf (entH n0 fig i)).cps.toList ++ [13, 10]) 1 := by
  have T := txt_at (fig i)
  have Rp := rep_in (f := fig i) h1 h2
  have e : (lineOf (entH n0 fig i)).cps.toList ++ [13, 10] = (nameH (mOf n0 i) (fig i)).cps.toList ++ ((Str.ofString ": ").cps.toList ++ ((replyOf i (fig i)).cps.toList ++ ((Str.ofString "; ").cps.toList ++ ((paramOf (textOf (fig i))).cps.toList ++ [13, 10])))) := by
    unfold lineOf entH
    dsimp only
    rw [ent_is]
    simp only [cpsL_append]
    simp
  rw [e]
  have b1 := letters_bal (nameH_letters (mOf n0 i) (fig i))
  have b2 : BalN (Str.ofString ": ").cps.toList 0 := scanned (by decide +kernel)
  have b3 := scanned Rp.scan
  have b4 : BalN (Str.ofString "; ").cps.toList 0 := scanned (by decide +kernel)
  have b5 := scanned T.scan
  have b6 : BalN [13, 10] 0 := scanned (by decide)
  exact b1.append (b2.append (b3.append (b4.append (b5.append b6))))
theorem lines_bal {n0 : Nat} {fig : Int → Int} : ∀ {W : List Int}, (∀ i ∈ W, 1 ≤ i ∧ i ≤ 12) → BalN (W.flatMap fun i => (lineOf (entH n0 fig i)).cps.toList ++ [13, 10]) (W.length : Int)
  | [], _ => ⟨[], .nil, rfl, fun c hc => nomatch hc⟩
  | i :: W, h => by
    have := (line_bal (n0 := n0) (fig := fig) (h i (.head _)).1 (h i (.head _)).2).append (lines_bal (n0 := n0) (fig := fig) (W := W) fun x hx => h x (.tail _ hx))
    rw [List.flatMap_cons]
    have e : ((i :: W).length : Int) = 1 + (W.length : Int) := by simp; lia
    rw [e]; exact this
theorem plain_ascii {x : Str} (h : Plain x) : ∀ c ∈ x.cps.toList, c < 128 := fun c hc => by
  have := h c (by simpa using hc)
  lia
theorem line_ascii {n0 : Nat} {fig : Int → Int} {i : Int} (h1 : 1 ≤ i) (h2 : i ≤ 12) : ∀ c ∈ (lineOf (entH n0 fig i)).cps.toList, c < 128 := by
  have T := txt_at (fig i)
  have Rp := rep_in (f := fig i) h1 h2
  unfold lineOf entH
  dsimp only
  rw [ent_is]
  simp only [cpsL_append]
  intro c hc
  simp only [List.mem_append] at hc
  have c1 : ∀ c ∈ (Str.ofString ": ").cps.toList, c < 128 := by decide +kernel
  have c2 : ∀ c ∈ (Str.ofString "; ").cps.toList, c < 128 := by decide +kernel
  rcases hc with (q | q) | (q | q) | q
  · have := nameH_letters _ _ c q; lia
  · exact c1 c q
  · exact plain_ascii Rp.plain c q
  · exact c2 c q
  · exact plain_ascii T.pplain c q
theorem sentH_list {n0 : Nat} {fig : Int → Int} (W : List Int) : (sentH (W.map (entH n0 fig))).cps.toList = (W.flatMap fun i => (lineOf (entH n0 fig i)).cps.toList ++ [13, 10]) ++ [13, 10] := by
  unfold sentH
  have e1 := joinCR ((W.map (entH n0 fig)).map lineOf)
  rw [e1]
  congr 1
  rw [List.flatMap_map, List.flatMap_map]
theorem sentH_ascii {n0 : Nat} {fig : Int → Int} {W : List Int} (P : Pl W) : Ascii (sentH (W.map (entH n0 fig))) := by
  intro c hc
  have hc : c ∈ (sentH (W.map (entH n0 fig))).cps.toList := by simpa using hc
  rw [sentH_list] at hc
  rcases List.mem_append.mp hc with q | q
  · obtain ⟨i, hi, q⟩ := List.mem_flatMap.mp q
    rcases List.mem_append.mp q with q | q
    · exact line_ascii (P.lo i hi) (P.hi i hi) c q
    · simp at q; lia
  · simp at q; omega
theorem depth_here {n0 : Nat} {fig : Int → Int} {W : List Int} (P : Pl W) : ∃ out, Strip ((encB (sentH (W.map (entH n0 fig)))).map (·.toNat)) 0 out ∧ depthB (outB out) = (W.length : Int) := by
  refine depth_closed (sentH_ascii P) ?_
  rw [sentH_list]
  have b := lines_bal (n0 := n0) (fig := fig) (W := W) fun i hi => ⟨P.lo i hi, P.hi i hi⟩
  have b6 : BalN [13, 10] 0 := scanned (by decide)
  have := b.append b6
  rwa [Int.add_zero] at this
theorem sentH_len {n0 : Nat} {fig : Int → Int} {W : List Int} (P : Pl W) (hn : n0 < 4096) : (sentH (W.map (entH n0 fig))).length ≤ 2500000 := by
  have h := fit_sum (fitH (fig := fig) P hn)
  exact Nat.le_trans (join_fits (sep := "\r\n") (xs := (W.map (entH n0 fig)).map lineOf ++ [Str.ofString "", Str.ofString ""]) (Nat.le_trans h (by decide))) (Nat.le_trans h (by decide))
noncomputable def tailQ : Str := Str.ofString " \"\\(\n(\" \"("
theorem tailQ_list : tailQ.cps.toList = [32, 34, 92, 40, 10, 40, 34, 32] ++ [34, 40] := by decide +kernel
theorem depth_reply {i f : Int} (h1 : 1 ≤ i) (h2 : i ≤ 12) : Ascii (replyOf i f ++ tailQ) ∧ ∃ out, Strip ((encB (replyOf i f ++ tailQ)).map (·.toNat)) 0 out ∧ depthB (outB out) = 2 := by
  have Rp := rep_in (f := f) h1 h2
  have ha : Ascii (replyOf i f ++ tailQ) := by
    intro c hc
    have hc : c ∈ (replyOf i f ++ tailQ).cps.toList := by simpa using hc
    rw [cpsL_append] at hc
    rcases List.mem_append.mp hc with q | q
    · exact plain_ascii Rp.plain c q
    · rw [tailQ_list] at q
      simp at q; lia
  refine ⟨ha, ?_⟩
  have b1 := scanned Rp.scan
  have b2 : BalN [32, 34, 92, 40, 10, 40, 34, 32] 0 := scanned (by decide)
  obtain ⟨out, s, e⟩ := depth_open (a := (replyOf i f).cps.toList ++ [32, 34, 92, 40, 10, 40, 34, 32]) ha (by rw [cpsL_append, tailQ_list, List.append_assoc]) (b1.append b2)
  exact ⟨out, s, by rw [e]; rfl⟩
theorem idx_of {W : List Int} {n0 : Nat} {c : Nat} (P : Pl W) (hc : c < W.length) : (W.map fun i => bigL (mOf n0 i)).findIdx (fun x => decide (x = bigL (mOf n0 (W.getD c 0)))) = c := by
  have hw : W.getD c 0 = W[c] := by simp [List.getD, hc]
  rw [hw, List.findIdx_eq (by simpa using hc)]
  refine ⟨by simp, fun j hj => ?_⟩
  simp only [List.getElem_map, decide_eq_false_iff_not]
  intro e
  have hjl : j < W.length := by lia
  have := m_inj (P.lo _ (List.getElem_mem hjl)) (P.lo _ (List.getElem_mem hc)) (big_inj e)
  exact List.pairwise_iff_getElem.mp P.nd j c hjl hc hj this
end
section
set_option linter.unusedVariables false
open PySem PySem.W PySem.Calls PyProof.Rows PySem.Spec Q
section
variable {w : World} {K : Frag} {M N : Addr → Prop} {h : Heap} {k : Nat} {env : Env} {vm vm' : List (Str × D)} {A A₀ : Around} {E : Value → Shared → Prop} {s₀ sa s s' : Shared} {x1 l1 x2 l2 T : Addr} {es1 es2 es' : List (Str × Str)} {ts : List (Int × Int)}
theorem EnvIs.stores {sc : Scope} (I : EnvIs env sc) {ts : List Expr} {e : Expr} {r : Option (List Str)} (h : swappedStores ts e { (default : Env) with scope := sc } = pure r) : swappedStores ts e env = pure r := by
  have : swappedStores ts e env = swappedStores ts e { (default : Env) with scope := sc } := by
    unfold swappedStores Env.blockKind Env.kindOf
    rw [I.scope]
  rw [this]; exact h
theorem Fra.none0 (Fa : Fra A₀ A M env s₀) (R : RunX K A₀ s₀ N env vm s) {a : Addr} (f : s.heap.get? a = none) : s₀.heap.get? a = none := by
  cases q : s₀.heap.get? a with
  | none => rfl
  | some o =>
    by_cases hb : a ∈ Mine.frL A₀
    · obtain ⟨_, m, hm⟩ := Fa.out.mem hb
      obtain ⟨o', ho', hd'⟩ := ns_not_fields hm
      rw [q] at ho'
      cases ho'
      obtain ⟨sl, hs⟩ := R.up a hb o q hd'
      rw [f] at hs; cases hs
    · rw [R.run.keep a o hb q] at f; cases f
structure TX (w : World) (A₀ : Around) (s₀ : Shared) (M : Addr → Prop) (env : Env) (x1 l1 x2 l2 T : Addr) (es1 es2 : List (Str × Str)) (ts : List (Int × Int)) (vm : List (Str × D)) (sa s : Shared) : Prop where
  t : TS w A₀ s₀ M env x1 l1 x2 l2 T es1 es2 ts vm s
  e : Ext (B3 M env l1 l2 T) sa.heap s.heap
theorem TS.tx (t : TS w A₀ s₀ M env x1 l1 x2 l2 T es1 es2 ts vm s) : TX w A₀ s₀ M env x1 l1 x2 l2 T es1 es2 ts vm s s := ⟨t, Ext.refl _⟩
theorem own_b3 {a : Addr} (o : Own env a) : B3 M env l1 l2 T a := .inl (.inr o)
theorem TX.pure (t : TX w A₀ s₀ M env x1 l1 x2 l2 T es1 es2 ts vm sa s) (kp : Kp s s') : TX w A₀ s₀ M env x1 l1 x2 l2 T es1 es2 ts vm sa s' := ⟨t.t.pure kp, t.e.trans kp.heap.ext⟩
theorem TX.own (t : TX w A₀ s₀ M env x1 l1 x2 l2 T es1 es2 ts vm sa s) (f : TF w s₀ M env l1 l2 T) (R' : Run (FK w) s₀ (· ∈ frL A₀) (B3 M env l1 l2 T) env vm' s') (e : Ext (Own env) s.heap s'.heap) : TX w A₀ s₀ M env x1 l1 x2 l2 T es1 es2 ts vm' sa s' :=
  ⟨t.t.own f R' e, t.e.trans (e.mono fun a o => own_b3 o)⟩
theorem TX.ownX (t : TX w A₀ s₀ M env x1 l1 x2 l2 T es1 es2 ts vm sa s) (f : TF w s₀ M env l1 l2 T) (hfr : ∀ a ∈ frL A, Mof M env a) (R' : RunX (FK w) A₀ s₀ (B3 M env l1 l2 T) env vm' s') (e : Ext (fun a => Own env a ∨ a ∈ frL A) s.heap s'.heap) : TX w A₀ s₀ M env x1 l1 x2 l2 T es1 es2 ts vm' sa s' :=
  ⟨t.t.ownX f hfr R' e, t.e.trans (e.mono fun a z => z.elim own_b3 fun z => .inl (hfr a z))⟩
theorem TX.mut1 (t : TX w A₀ s₀ M env x1 l1 x2 l2 T es1 es2 ts vm sa s) (f : TF w s₀ M env l1 l2 T) (same : ∃ h t, s' = { s with heap := h, toks := t }) (e : Ext (· = l1) s.heap s'.heap) (H : Rd (B2 M env l2 T) s'.heap (.ref x1) (.hdr l1 es')) :
    TX w A₀ s₀ M env x1 l1 x2 l2 T es' es2 ts vm sa s' := ⟨t.t.mut1 f same e H, t.e.trans (e.mono fun a z => .inr (.inl z))⟩
theorem TX.mut2 (t : TX w A₀ s₀ M env x1 l1 x2 l2 T es1 es2 ts vm sa s) (f : TF w s₀ M env l1 l2 T) (same : ∃ h t, s' = { s with heap := h, toks := t }) (e : Ext (· = l2) s.heap s'.heap) (H : Rd (B2 M env l1 T) s'.heap (.ref x2) (.hdr l2 es')) :
    TX w A₀ s₀ M env x1 l1 x2 l2 T es1 es' ts vm sa s' := ⟨t.t.mut2 f same e H, t.e.trans (e.mono fun a z => .inr (.inr (.inl z)))⟩
theorem TX.push {p : Int × Int} (t : TX w A₀ s₀ M env x1 l1 x2 l2 T es1 es2 ts vm sa s) (R' : Run (FK w) s₀ (· ∈ frL A₀) (B3 M env l1 l2 T) env vm s') (f : TF w s₀ M env l1 l2 T) (e : Ext (· = T) s.heap s'.heap) {vs' : List Value} (hP : s'.heap.PlainList T vs'.toArray) (hr : RdL (B3 M env l1 l2 T) s'.heap vs' (ts.map pairD ++ [pairD p])) :
    TX w A₀ s₀ M env x1 l1 x2 l2 T es1 es2 (ts ++ [p]) vm sa s' := ⟨t.t.push R' f e hP hr, t.e.trans (e.mono fun a z => .inr (.inr (.inr z)))⟩
theorem TS.step {I : Addr} {h' : Heap} {tk : Nat} {vmL : List (Str × D)} {sL : Shared} (L : TS w A₀ s₀ M env x1 l1 x2 l2 T es1 es2 ts vmL sL) (Fa : Fra A₀ A M env s₀) {es3 es4 : List (Str × Str)} {ts' : List (Int × Int)} (t : TS w A₀ s₀ M env x1 l1 x2 l2 T es3 es4 ts' vm s) (f0 : sL.heap.get? I = none)
    (he : ∀ b o, b ≠ I → s.heap.get? b = some o → h'.get? b = some o) (ho : ∃ o fs, s.heap.get? I = some o ∧ o.data = .fields fs ∧ ¬ Solid o) : TS w A₀ s₀ M env x1 l1 x2 l2 T es3 es4 ts' vm { s with heap := h', toks := tk } := by
  have nof := L.S0.newOff f0
  exact t.iter Fa.out (Fa.none0 L.run f0) nof.1 nof.2.1 nof.2.2.1 nof.2.2.2 he ho
theorem TX.step {I : Addr} {h' : Heap} {tk : Nat} {vmL : List (Str × D)} {sL : Shared} (L : TX w A₀ s₀ M env x1 l1 x2 l2 T es1 es2 ts vmL sa sL) (Fa : Fra A₀ A M env s₀) {es3 es4 : List (Str × Str)} {ts' : List (Int × Int)} (t : TX w A₀ s₀ M env x1 l1 x2 l2 T es3 es4 ts' vm sa s) (f0 : sL.heap.get? I = none)
    (he : ∀ b o, b ≠ I → s.heap.get? b = some o → h'.get? b = some o) (ho : ∃ o fs, s.heap.get? I = some o ∧ o.data = .fields fs ∧ ¬ Solid o) : TX w A₀ s₀ M env x1 l1 x2 l2 T es3 es4 ts' vm sa { s with heap := h', toks := tk } := by
  refine ⟨L.t.step Fa t.t f0 he ho, fun b o n q => he b o (fun z => ?_) (t.e b o n q)⟩
  have := L.e b o n q
  rw [z, f0] at this; cases this
noncomputable def intsL (a b : Int) : List Int := (List.range (b - a).toNat).map fun i => a + (i : Nat)
theorem rng_ints (a b : Int) : rngD a b = (intsL a b).map D.int := by unfold rngD intsL; rw [List.map_map]; rfl
theorem TX.bind {x : Str} {p : Pos} {v : Value} {d : D} {Q : PUnit → Shared → Prop} (t : TX w A₀ s₀ M env x1 l1 x2 l2 T es1 es2 ts vm sa s) (f : TF w s₀ M env l1 l2 T) (hk : KindOk env x) (r : Rd (B3 M env l1 l2 T) s.heap v d)
    (nx : ∀ s', TX w A₀ s₀ M env x1 l1 x2 l2 T es1 es2 ts ((x, d) :: vm) sa s' → Q () s') : wpAny (model PP w) A (assign (.Name x p) env v) Q E s := by
  exact wpAny_assign_Name (run_store t.t.run.run r hk fun s' R' e' => nx s' (t.own f R' e'))
theorem tx_assign {x : Str} {p pos : Pos} {e : Expr} {rest : List Stmt} {d : D} {Q : Flow → Shared → Prop} (t : TX w A₀ s₀ M env x1 l1 x2 l2 T es1 es2 ts vm sa s) (f : TF w s₀ M env l1 l2 T) (rm : Room k A) (pe : PE PP w (B3 M env l1 l2 T) s.heap k (eval e env) d) (hk : KindOk env x)
    (hs : swapsWith e (some (.Name x p)) pos.line env = pure false) (nx : ∀ s', TX w A₀ s₀ M env x1 l1 x2 l2 T es1 es2 ts ((x, d) :: vm) sa s' → Go (model PP w) A (execs rest env) Q E s') :
    Go (model PP w) A (execs (.Assign [.Name x p] e pos :: rest) env) Q E s := run_assign t.t.run.run rm pe hk hs fun s' R' e' => nx s' (t.own f R' e')
theorem tx_assign2s {x y : Str} {p p' q pos : Pos} {n : Nat} {e : Expr} {rest : List Stmt} {d d' : D} {Q : Flow → Shared → Prop} (t : TX w A₀ s₀ M env x1 l1 x2 l2 T es1 es2 ts vm sa s) (f : TF w s₀ M env l1 l2 T) (rm : Room k A) (pe : PE PP w (B3 M env l1 l2 T) s.heap k (eval e env) (.tup [d, d'])) (hx : KindOk env x) (hy : KindOk env y)
    (hs : swapsWith e (some (.Tuple [.Name x p, .Name y p'] n q)) pos.line env = pure false) (hsw : swappedStores [.Tuple [.Name x p, .Name y p'] n q] e env = pure (some [x, y]))
    (nx : ∀ s', TX w A₀ s₀ M env x1 l1 x2 l2 T es1 es2 ts ((x, d) :: (y, d') :: vm) sa s' → Go (model PP w) A (execs rest env) Q E s') :
    Go (model PP w) A (execs (.Assign [.Tuple [.Name x p, .Name y p'] n q] e pos :: rest) env) Q E s := run_assign2s t.t.run.run rm pe hx hy hs hsw fun s' R' e' => nx s' (t.own f R' e')
theorem tx_ifF {pos : Pos} {c : Expr} {body rest : List Stmt} {b : Bool} {Q : Flow → Shared → Prop} (t : TX w A₀ s₀ M env x1 l1 x2 l2 T es1 es2 ts vm sa s) (rm : Room k A) (pb : PB PP w s.heap k (isTrue c env (eval c env)) b) (hb : b = false)
    (nx : ∀ s', TX w A₀ s₀ M env x1 l1 x2 l2 T es1 es2 ts vm sa s' → Go (model PP w) A (execs rest env) Q E s') : Go (model PP w) A (execs (.If c body [] pos :: rest) env) Q E s := by
  subst hb
  exact run_if rm pb (fun e => nomatch e) fun _ s' kp => run_end (nx s' (t.pure kp))
end
end
section
set_option linter.unusedVariables false
open PySem PySem.W PySem.Calls PyProof.Rows PySem.Spec Q
section
variable {prog : Program} {w : World} {K : Frag} {M N : Addr → Prop} {h : Heap} {k : Nat} {env : Env} {vm vm' : List (Str × D)} {A A₀ : Around} {E : Value → Shared → Prop} {s₀ sa s s' : Shared}
theorem PB.to {t : Sem Bool} {b c : Bool} (p : PB prog w h k t b) (e : b = c) : PB prog w h k t c := e ▸ p
theorem enc_size {x : Str} (ha : Ascii x) : (encB x).size = x.length := by
  have := congrArg Array.size (enc_nat ha)
  rw [Array.size_map] at this
  exact this
theorem ap_low (m : Nat) : ∀ c ∈ apB m, c.toNat < 128 := fun c hc => by
  have h : c.toNat ∈ ((apB m).map (·.toNat)).toList := by
    rw [Array.toList_map]; exact List.mem_map.mpr ⟨c, Array.mem_toList_iff.mpr hc, rfl⟩
  have e : ((apB m).map (·.toNat)) = (bigL m).cps := congrArg Str.cps (apB_text m)
  rw [e] at h
  exact big_ascii m _ h
theorem ap_size {m : Nat} : (apB m).size = (bigL m).length := by
  have := congrArg Str.length (apB_text m)
  rw [← this]
  show _ = ((apB m).map (·.toNat)).size
  rw [Array.size_map]
theorem ap_ne {m : Nat} (h : m ≠ 0) : (apB m).size ≠ 0 := by
  rw [ap_size]
  intro z
  have : (bigL m).cps.toList = [] := List.eq_nil_of_length_eq_zero z
  unfold bigL at this
  have h2 : (hx m).map (65 + ·) = [] := by simpa using this
  exact hx_ne h (by simpa using h2)
theorem sum_join (xs : List Str) : sumLn xs = (Txt.join (Str.ofString "") xs).length := by
  have h := congrArg List.length (join0L xs)
  have e : (Txt.join (Str.ofString "") xs).length = (Txt.join (Str.ofString "") xs).cps.toList.length := rfl
  rw [e, h]
  unfold sumLn
  induction xs with
  | nil => rfl
  | cons x xs ih => rw [List.map_cons, List.sum_cons, ih (join0L xs |> congrArg List.length) rfl, List.flatMap_cons, List.length_append]; rfl
theorem eval_callX {x : Str} {q p : Pos} {es : List Expr} {f : Addr} {as : List D} {d : D} (rm : Room k A) (S : Sc K M s.heap) (Fr : Frs A M s.heap) (hf : Looks (model prog w) s.heap (loadName env x) (.ref f)) (hx : (x == ("__debug__" : Str)) = false)
    (hkeep : Looks (model prog w) s.heap (keeperOf (.ref f)) .frame) (ha : PLs prog w M s.heap k env es as) (F : FnX prog w K f as d k) (hst : (starEach es env).any (·.1) = false) :
    wpAny (model prog w) A (eval (.Call (.Name x q) es [] p) env) (fun v s2 => XK A s s2 ∧ Rd M s2.heap v d) E s := by
  refine wpAny_Call_Name_kw (wpAny_Name (hf.here ?_) hx)
  refine any_callWith (h := s.heap) (M := M) rm (Keep.refl _) hst ha PKw.nil hkeep fun vs us s1 k1 r1 r2 => ?_
  cases r2 using RdL.nilE
  refine wpAny_call (codeAny_mono (F.go M A s1 vs rm (S.keep k1.heap) (Fr.keep k1.heap) r1) fun r s' q => ?_)
  obtain ⟨v, rfl, xk, r⟩ := q
  exact ⟨(XK.of k1).trans xk, r⟩
theorem cmp_tail {r : Expr} {op : CmpOp} {d b : D} {c : Bool} {u : Value} {Q : Bool → Shared → Prop} (rm : Room k A) (rv : Rd N s.heap u d) (hb : PE prog w N s.heap k (eval r env) b) (ho : Op2 prog w N s.heap k (compareOp op) d b (.bool c)) (hq : ∀ s', Kp s s' → Q c s') :
    wpAny (model prog w) A (eval r env) (fun v s2 => wpAny (model prog w) A (compareOp op u v) (fun x s3 => wpAny (model prog w) A (truthy x) Q E s3) E s2) E s := by
  refine hb.use rm (Keep.refl _) fun v s2 k2 r2 => ?_
  refine wpAny_mono (ho.go A s2 u v rm k2.heap (rv.keep k2.heap) r2) (fun x s3 q => ?_) fun _ _ f => f.elim
  obtain ⟨k3, r3⟩ := q
  cases r3 using Rd.boolE0
  exact wpAny_truthy_bool (hq s3 (k2.trans k3))
theorem Fm.looks {x : Str} {a : Addr} (F : Fm M env vm h) (e : vm.lookup x = some (.ref a)) : Looks (model prog w) h (loadName env x) (.ref a) := by
  obtain ⟨v, l, r⟩ := (F.vars (prog := prog) (w := w)) x (.ref a) e
  cases r using Rd.refE0
  exact l
theorem Fm.mutE {l : Addr} {h' : Heap} (F : Fm N env vm h) (e : Ext (· = l) h h') (hN : N l) (nL : l ≠ env.locals) (nC : ∀ x c, env.cells.lookup x = some c → l ≠ c) : Fm N env vm h' := by
  have eN : Ext N h h' := e.mono fun a z => z ▸ hN
  refine ⟨F.kind, F.inL, F.inC, ?_, fun x y q => ?_, F.celK, F.apart, F.vis⟩
  · obtain ⟨m, hn, hm⟩ := F.loc
    exact ⟨m, ns_ext hn e (Ne.symm nL), fun x d' p q => let ⟨v, z, r⟩ := hm x d' p q; ⟨v, z, r.ext eN⟩⟩
  · obtain ⟨ov, ⟨o, ho, hd⟩, hv⟩ := F.cel x y q
    exact ⟨ov, ⟨o, e y o (fun z => nC x y q z.symm) ho, hd⟩, fun d' q => let ⟨v, z, r⟩ := hv d' q; ⟨v, z, r.ext eN⟩⟩
theorem TS.fm2 {x1 l1 x2 l2 T : Addr} {es1 es2 : List (Str × Str)} {ts : List (Int × Int)} {h' : Heap} (t : TS w A₀ s₀ M env x1 l1 x2 l2 T es1 es2 ts vm s) (f : TF w s₀ M env l1 l2 T) (e : Ext (· = l2) s.heap h') : Fm (B2 M env l1 T) env vm h' :=
  (t.F0.mutE e (.inr (.inr (.inl rfl))) (nl_of f.n2).1 (nl_of f.n2).2).swap (fun a _ n m => n (m.elim .inl fun z => .inr (z.elim .inl fun z => .inr (.inr z)))) (.inl (.inr (.inl rfl))) fun x c e => .inl (.inr (.inr ⟨x, e⟩))
theorem tx_if {pos : Pos} {c : Expr} {body rest : List Stmt} {b : Bool} {Q : Flow → Shared → Prop} (rm : Room k A) (pb : PB PP w s.heap k (isTrue c env (eval c env)) b)
    (h1 : b = true → ∀ s', Kp s s' → Go (model PP w) A (execs body env) (Then (model PP w) A rest env Q E) E s') (h2 : b = false → ∀ s', Kp s s' → Go (model PP w) A (execs rest env) Q E s') : Go (model PP w) A (execs (.If c body [] pos :: rest) env) Q E s :=
  run_if rm pb h1 fun e s' kp => run_end (h2 e s' kp)
theorem TS.frs {x1 l1 x2 l2 T : Addr} {es1 es2 : List (Str × Str)} {ts : List (Int × Int)} (t : TS w A₀ s₀ M env x1 l1 x2 l2 T es1 es2 ts vm s) (Fa : Fra A₀ A M env s₀) : Frs A (B3 M env l1 l2 T) s.heap ∧ ∀ a ∈ frL A, Mof M env a := by
  have F := Fa.frs (fun _ => .inl) ⟨t.run.run.less (M := Mof M env) (fun a m => .inl m) (.inr (.inl rfl)) fun x c e => .inr (.inr ⟨x, e⟩), t.run.up⟩
  refine ⟨⟨F.st, fun e he => ?_⟩, fun a ha => (F.mem ha).1⟩
  obtain ⟨a, L, m, b, c, d⟩ := F.all e he
  exact ⟨a, L, m, b, .inl c, d⟩
theorem flip_len (n : Nat) (ops : List P.Op) : (P.flip n ops).length = ops.length := by
  induction ops generalizing n with
  | nil => rfl
  | cons a r ih =>
    obtain ⟨c, o⟩ := a
    cases c with
    | none => simp [P.flip, ih]
    | some c => simp [P.flip, ih]
theorem pick1 {M : Addr → Prop} {h : Heap} {a b c d : D} {vs : List Value} (r : RdL M h vs [a, b, c, d]) : RdL M h (slicePick vs.toArray (some 1) none none).toList [b, c, d] := by
  cases r using RdL.consE with | @cons v1 _ _ _ r1 r => cases r using RdL.consE with | @cons v2 _ _ _ r2 r => cases r using RdL.consE with | @cons v3 _ _ _ r3 r => cases r using RdL.consE with | @cons v4 _ _ _ r4 r =>
    cases r using RdL.nilE
    have e : sliceRange (sliceBounds (some 1) none none 4).1 (sliceBounds (some 1) none none 4).2.1 (sliceBounds (some 1) none none 4).2.2 = [1, 2, 3] := by decide +kernel
    have e2 : (slicePick ([v1, v2, v3, v4] : List Value).toArray (some 1) none none).toList = [v2, v3, v4] := by
      unfold slicePick
      show ((sliceRange (sliceBounds (some 1) none none 4).1 (sliceBounds (some 1) none none 4).2.1 (sliceBounds (some 1) none none 4).2.2).filterMap _).toArray.toList = _
      rw [e]; rfl
    rw [e2]
    exact .cons r2 (.cons r3 (.cons r4 .nil))
theorem okE_len {x : Str} (h : okE x = true) : x.length ≤ 100 := by
  unfold okE brkB at h
  simp only [Bool.and_eq_true, decide_eq_true_eq] at h
  exact h.1.1.1.1.1.1.1.1
noncomputable def Half (oc : Option Nat) (p : Int) (W V : List Int) (ts : List (Int × Int)) (j : Nat) (W' V' : List Int) (ts' : List (Int × Int)) : Prop :=
  (j = 0 ∧ W' = W ∧ V' = V ∧ ts' = ts) ∨ ∃ c, oc = some c ∧ j = 1 ∧ W' = W.eraseIdx c ∧ V' = V.eraseIdx (W.length - 1 - c) ∧ ts' = ts ++ [(V.getD (W.length - 1 - c) 0, p)]
theorem TInv.half {ties total : List (Int × Int)} {ops : List P.Op} {j : Nat} {W V W' V' : List Int} {ts ts' : List (Int × Int)} {oc : Option Nat} {o : Bool} (h : TInv ties total ops j W V ts) (ho : ops[j]? = some (oc, o)) (hh : Half oc (1 + (j : Int)) W V ts (endsAt ties (1 + (j : Int))).length W' V' ts') :
    TInv ties total ops (j + 1) (P.opened o (1 + (j : Int)) W') (P.opened o (1 + (j : Int)) V') ts' ∧ P.Wt (1 + (j : Int)) W' ∧ P.Wt (1 + (j : Int)) V' ∧ (∀ x ∈ W', 1 ≤ x) ∧ (∀ x ∈ V', 1 ≤ x) := by
  cases oc with
  | none =>
    rcases hh with ⟨_, rfl, rfl, rfl⟩ | ⟨c, e, _⟩
    · exact ⟨h.next0 ho, h.w1, h.w2, h.lo1, h.lo2⟩
    · cases e
  | some c =>
    have he := (h.oneend ho).1
    rw [he] at hh
    rcases hh with ⟨e, _⟩ | ⟨c', e, _, rfl, rfl, rfl⟩
    · cases e
    · cases e
      exact ⟨h.next1 ho, h.w1.erase _, h.w2.erase _, lo_erase h.lo1, lo_erase h.lo2⟩
theorem pl_of {p : Int} {W : List Int} (h : P.Wt p W) (lo : ∀ x ∈ W, 1 ≤ x) (hp : p ≤ 13) : Pl W := ⟨h.up.imp fun q => by lia, lo, fun x hx => by have := h.lt x hx; lia⟩
noncomputable def toldD (p : Nat) (d1 : D) : D → D
  | .str x => if okC x then .str "code" else if okB x p then .tup [d1, .int p] else .str "marks"
  | d => d
theorem brk_code {x : Str} (h : brkB x = true) : okC x = false := by
  unfold brkB at h
  simp only [Bool.and_eq_true, decide_eq_true_eq] at h
  obtain ⟨⟨⟨⟨⟨⟨⟨h1, h2⟩, h3⟩, h4⟩, h5⟩, h6⟩, h7⟩, h8⟩ := h
  unfold okC
  rw [decide_eq_true h2, Bool.not_true, Bool.and_false]
theorem toldD_self {x : Str} {p : Nat} {d : D} (h : okB x p = true) : toldD p d (.str x) = .tup [d, .int p] := by
  have hb : brkB x = true := by
    unfold okB at h
    simp only [Bool.and_eq_true] at h
    exact h.1.1.1.1.1
  show (if okC x then D.str "code" else if okB x p then .tup [d, .int p] else .str "marks") = _
  rw [if_neg (by rw [brk_code hb]; exact Bool.false_ne_true), if_pos h]
theorem toldD_code {x : Str} {p : Nat} {d : D} (h : okC x = true) : toldD p d (.str x) = .str "code" := by
  show (if okC x then D.str "code" else if okB x p then .tup [d, .int p] else .str "marks") = _
  rw [if_pos h]
theorem toldD_more {x : Str} {p : Nat} {d : D} (h : okN x = true) : toldD p d (.str x) = .str "marks" := by
  unfold okN at h
  simp only [Bool.and_eq_true, Bool.not_eq_true'] at h
  obtain ⟨⟨⟨⟨h1, h2⟩, h3⟩, h4⟩, h5⟩ := h
  show (if okC x then D.str "code" else if okB x p then .tup [d, .int p] else .str "marks") = _
  have : okB x p = false := by unfold okB; rw [h3]; simp
  rw [if_neg (by rw [brk_code h1]; exact Bool.false_ne_true), if_neg (by rw [this]; exact Bool.false_ne_true)]
theorem toldD_ends {x : Str} {p : Nat} {d : D} (h : okE x = true) : toldD p d (.str x) = .str "marks" := by
  unfold okE at h
  simp only [Bool.and_eq_true, Bool.not_eq_true'] at h
  show (if okC x then D.str "code" else if okB x p then .tup [d, .int p] else .str "marks") = _
  have : okB x p = false := by unfold okB; rw [h.2]; simp
  rw [if_neg (by rw [brk_code h.1]; exact Bool.false_ne_true), if_neg (by rw [this]; exact Bool.false_ne_true)]
theorem told_any {x : Str} {p j : Nat} {d1 d2 : D} (h : okB x p = true ∨ okC x = true ∨ okN x = true ∨ okE x = true) : FnX PP w (FK w) 283 [.str x, .tup [d1, d2]] (toldD p d1 (.str x)) (j + 2) := by
  rcases h with h | h | h | h
  · rw [toldD_self h]; exact told_self h
  · rw [toldD_code h]; exact told_code h
  · rw [toldD_more h]; exact told_more h
  · rw [toldD_ends h]; exact told_ends h
theorem names_are {n0 : Nat} {first : Int} {fig : Int → Int} {W : List Int} (e : first % 4096 = (n0 : Int)) (hn : n0 < 4096) (P : Pl W) : (W.map (entH n0 fig)).map (·.1) = W.map fun i => wordOf (first % 4096 + i) (fig i) := by
  rw [List.map_map]
  refine List.map_congr_left fun i hi => ?_
  have h1 := P.lo i hi
  have h2 := P.hi i hi
  show nameH (mOf n0 i) (fig i) = _
  rw [e, show (n0 : Int) + i = ((mOf n0 i : Nat) : Int) by unfold mOf; lia]
  exact (wordOf_nat (m_lt hn h2)).symm
theorem uppers_are {n0 : Nat} {fig : Int → Int} {W : List Int} : ((W.map (entH n0 fig)).map (·.1)).map Txt.upper = W.map fun i => bigL (mOf n0 i) := by
  rw [List.map_map, List.map_map]
  exact List.map_congr_left fun i _ => upper_nameH _ _
end
end
section
set_option linter.unusedVariables false
open PySem PySem.W PySem.Calls PyProof.Rows PySem.Spec
section
variable {prog : Program} {w : World} {K : Frag} {W M : Addr → Prop} {h : Heap} {k : Nat} {env : Env} {vm : List (Str × D)} {A : Around} {E : Value → Shared → Prop} {s₀ s : Shared}
theorem OpN.sum {ns : List Int} : OpN prog w M h k (.builtin "sum") [.lst (ns.map D.int)] [] (.int ns.sum) := .of fun A s vs us rm kp r1 r2 => by
  cases r2 using RdL.nilE
  cases r1 using RdL.consE with
  | cons r r' =>
    cases r' using RdL.nilE
    cases r using Rd.lstE with
    | @lst a us' _ n hl hr =>
      have i := ints_are hr
      obtain ⟨xs, hx⟩ := i.allInts.items
      have hl' : s.heap.IsList a (intItems xs) := by
        have := hl.isList
        rw [hx] at this; exact this
      refine sum_intListG rm.handled hl' fun h' tk t' hk => ⟨⟨⟨h', tk, rfl⟩, hk⟩, ?_⟩
      have e : preSum (numAt xs) xs.size = ns.sum := by
        rw [preSum_eq, List.take_of_length_le (by simp), ← i.numsOf, ← nums_intItems, ← hx]
      rw [e]
      exact .int _ _
theorem Op2.mul_lst {ds : List D} {n : Int} (S : Sc K M h) (h0 : 0 ≤ n) (h1 : n ≤ 100) (hz : ds.length ≤ 100) : Op2 prog w M h k (binaryOp .Mult) (.lst ds) (.int n) (.lst (List.replicate n.toNat ds).flatten) := .of fun A s u v rm kp r1 r2 => by
  cases r2 using Rd.intE with
  | int _ t =>
  cases r1 using Rd.lstE with
  | @lst a us' _ nm hl hr =>
    have e := hr.length
    obtain ⟨c, ho⟩ := hl
    have hb : us'.length * n.toNat ≤ 100 * 100 := Nat.mul_le_mul (by lia) (by lia)
    have hb2 : us'.toArray.size * n.toNat ≤ 10000 := by simpa using hb
    refine wpAny_binaryOp_repeat_ref (T := "list") (U := "int") (by decide) ⟨_, ho, rfl⟩ (fun s' => typeIs_int s' n t) noFill_list_mul F.fills_int_mul F.slot_int_rmul repeat_list F.slot_int_index.lookup
      (call_meets F.slot_int_rmul (typeIs_int s n t) F.entry_int_rmul (F.args_int_rmul_2 _ _) (lm_int_rmul_list_any n t a us'.toArray c none #[])
        ⟨ho, rfl, ⟨_, ho, rfl⟩, call_meets F.slot_list_mul ⟨_, ho, rfl⟩ F.entry_list_mul (F.args_list_mul_2 _ _)
          (lm_list_mul_any a us'.toArray c none #[] n t (by simp [Builtin.List.listFitsIndex]; lia) (by lia) (by simp [Builtin.List.listTooLong, sizeLine]; lia))
          ⟨ho, ?_⟩⟩)
    rw [listMul_foldl_if]
    refine ⟨Kp.hp _ _ (keep_push _ _), .lst (vs := (List.replicate n.toNat us').flatten) (S.keep kp).size ⟨0, Heap.get?_push_size _ rfl⟩ (RdL.keep ?_ (keep_push _ _))⟩
    clear hb hb2 ho
    induction n.toNat with
    | zero => exact .nil
    | succ j ih => rw [List.replicate_succ, List.replicate_succ, List.flatten_cons, List.flatten_cons]; exact hr.append ih
theorem kms_nat (n len : Nat) : kms_lo (some (n : Int)) len = min n len ∧ kms_hi (some (n : Int)) len = min n len := by
  have h : ¬ ((n : Int) < 0) := by lia
  simp only [kms_lo, kms_hi, if_neg h, Int.toNat_natCast, and_self]
theorem slice_take {vs : List Value} {n : Nat} : (slicePick vs.toArray none (some (n : Int)) none).toList = vs.take n := by
  rw [kms_pick_eq]
  show kms_pick vs none (some (n : Int)) = _
  unfold kms_pick
  rw [(kms_nat n vs.length).2]
  show (vs.drop 0).take (min n vs.length - 0) = _
  rw [List.drop_zero, Nat.sub_zero]
  by_cases h : n ≤ vs.length
  · rw [Nat.min_eq_left h]
  · rw [Nat.min_eq_right (by lia), List.take_of_length_le (Nat.le_refl _), List.take_of_length_le (by omega)]
theorem slice_drop {vs : List Value} {n : Nat} : (slicePick vs.toArray (some (n : Int)) none none).toList = vs.drop n := by
  rw [kms_pick_eq]
  show kms_pick vs (some (n : Int)) none = _
  unfold kms_pick
  rw [(kms_nat n vs.length).1]
  show (vs.drop (min n vs.length)).take (vs.length - min n vs.length) = _
  rw [kmk_drop_min, List.take_of_length_le (by rw [List.length_drop]; exact Nat.sub_le_sub_left (Nat.min_le_left _ _) _)]
noncomputable def pickL {α : Type} (l : List α) (lo hi st : Option Int) : List α := (sliceRange (sliceBounds lo hi st l.length).1 (sliceBounds lo hi st l.length).2.1 (sliceBounds lo hi st l.length).2.2).filterMap (l[·]?)
theorem pick_eq {vs : List Value} {lo hi st : Option Int} : (slicePick vs.toArray lo hi st).toList = pickL vs lo hi st := by
  unfold slicePick pickL
  simp
theorem RdL.at_ {vs : List Value} {ds : List D} (r : RdL M h vs ds) (i : Nat) : (∃ v d, vs[i]? = some v ∧ ds[i]? = some d ∧ Rd M h v d) ∨ (vs[i]? = none ∧ ds[i]? = none) := by
  induction i generalizing vs ds with
  | zero => cases r with
    | nil => exact .inr ⟨rfl, rfl⟩
    | cons a r => exact .inl ⟨_, _, rfl, rfl, a⟩
  | succ i ih => cases r with
    | nil => exact .inr ⟨rfl, rfl⟩
    | cons a r => exact ih r
theorem RdL.pick {vs : List Value} {ds : List D} {lo hi st : Option Int} (r : RdL M h vs ds) : RdL M h (pickL vs lo hi st) (pickL ds lo hi st) := by
  unfold pickL
  rw [r.length]
  generalize sliceRange _ _ _ = is
  induction is with
  | nil => exact .nil
  | cons i is ih =>
    rcases r.at_ i with ⟨v, d, e1, e2, rv⟩ | ⟨e1, e2⟩
    · rw [List.filterMap_cons_some e1, List.filterMap_cons_some e2]; exact .cons rv ih
    · rw [List.filterMap_cons_none e1, List.filterMap_cons_none e2]; exact ih
theorem pick_map {α β : Type} (f : α → β) (l : List α) (lo hi st : Option Int) : pickL (l.map f) lo hi st = (pickL l lo hi st).map f := by
  unfold pickL
  rw [List.length_map, List.map_filterMap]
  refine congrArg (fun g => List.filterMap g _) (funext fun i => ?_)
  rw [List.getElem?_map]
theorem OpS.pick {value slice : Expr} {ns : List Int} {lo hi st : Option Int} (S : Sc K M h) (h0 : st ≠ some 0) (hz : ns.length ≤ 100000)
    (hs : ∀ a b, ∃ z, subscripted slice false (.ref a) (.ref b) = operate z (getItem (.ref a) (.ref b))) : OpS prog w M h k value slice (.lst (ns.map D.int)) lo hi st (.lst ((pickL ns lo hi st).map D.int)) :=
  OpS.list S h0 (by rw [List.length_map]; exact hz) _ (fun vs _ M h r => by rw [pick_eq, ← pick_map]; exact r.pick) hs
theorem OpS.take {value slice : Expr} {ds : List D} {n : Nat} (S : Sc K M h) (hz : ds.length ≤ 100000)
    (hs : ∀ a b, ∃ z, subscripted slice false (.ref a) (.ref b) = operate z (getItem (.ref a) (.ref b))) : OpS prog w M h k value slice (.lst ds) none (some (n : Int)) none (.lst (ds.take n)) :=
  OpS.list S (by decide) hz _ (fun vs _ M h r => by rw [slice_take]; exact r.take n) hs
theorem OpS.drop {value slice : Expr} {ds : List D} {n : Nat} (S : Sc K M h) (hz : ds.length ≤ 100000)
    (hs : ∀ a b, ∃ z, subscripted slice false (.ref a) (.ref b) = operate z (getItem (.ref a) (.ref b))) : OpS prog w M h k value slice (.lst ds) (some (n : Int)) none none (.lst (ds.drop n)) :=
  OpS.list S (by decide) hz _ (fun vs _ M h r => by rw [slice_drop]; exact r.drop n) hs
end
end
section
set_option linter.unusedVariables false
open PySem PySem.W PySem.Calls PyProof.Rows PySem.Spec Q
noncomputable abbrev N1 (M : Addr → Prop) (env : Env) (T : Addr) : Addr → Prop := fun x => Mof M env x ∨ x = T
section
variable {w : World} {K : Frag} {M N : Addr → Prop} {h : Heap} {k : Nat} {env : Env} {vm vm' : List (Str × D)} {A A₀ : Around} {E : Value → Shared → Prop} {s₀ sa s s' : Shared} {T : Addr} {ties : List (Int × Int)}
structure LS (w : World) (A₀ : Around) (s₀ : Shared) (M : Addr → Prop) (env : Env) (T : Addr) (ties : List (Int × Int)) (vm : List (Str × D)) (sa s : Shared) : Prop where
  run : RunX (FK w) A₀ s₀ (N1 M env T) env vm s
  tl : ∃ vs, s.heap.PlainList T vs.toArray ∧ RdL (N1 M env T) s.heap vs (ties.map pairD)
  fT : s₀.heap.get? T = none
  nT : ¬ Mof M env T
  e : Ext (N1 M env T) sa.heap s.heap
theorem LS.again (t : LS w A₀ s₀ M env T ties vm sa s) : LS w A₀ s₀ M env T ties vm s s := ⟨t.run, t.tl, t.fT, t.nT, Ext.refl _⟩
theorem LS.back {sb : Shared} (t : LS w A₀ s₀ M env T ties vm sa s) (e : Ext (N1 M env T) sb.heap sa.heap) : LS w A₀ s₀ M env T ties vm sb s := ⟨t.run, t.tl, t.fT, t.nT, e.trans t.e⟩
theorem LS.S (t : LS w A₀ s₀ M env T ties vm sa s) : Sc (FK w) (N1 M env T) s.heap := t.run.run.sc
theorem LS.F (t : LS w A₀ s₀ M env T ties vm sa s) : Fm (N1 M env T) env vm s.heap := t.run.run.fm
theorem LS.pure (t : LS w A₀ s₀ M env T ties vm sa s) (kp : Kp s s') : LS w A₀ s₀ M env T ties vm sa s' :=
  ⟨t.run.pure kp, let ⟨vs, a, b⟩ := t.tl; ⟨vs, a.at fun o q => kp.heap _ o q, b.keep kp.heap⟩, t.fT, t.nT, t.e.trans kp.heap.ext⟩
theorem LS.sub (t : LS w A₀ s₀ M env T ties vm sa s) (i : ∀ x d, vm'.lookup x = some d → vm.lookup x = some d) : LS w A₀ s₀ M env T ties vm' sa s := ⟨t.run.sub i, t.tl, t.fT, t.nT, t.e⟩
theorem own_n1 {a : Addr} (o : Own env a) : N1 M env T a := .inl (.inr o)
theorem LS.own (t : LS w A₀ s₀ M env T ties vm sa s) (R' : Run (FK w) s₀ (· ∈ frL A₀) (N1 M env T) env vm' s') (e : Ext (Own env) s.heap s'.heap) : LS w A₀ s₀ M env T ties vm' sa s' :=
  ⟨t.run.own R' e, let ⟨vs, a, b⟩ := t.tl; ⟨vs, a.at fun o q => e _ o (fun z => t.nT (.inr z)) q, b.ext (e.mono fun a o => own_n1 o)⟩, t.fT, t.nT, t.e.trans (e.mono fun a o => own_n1 o)⟩
theorem LS.push {p : Int × Int} (t : LS w A₀ s₀ M env T ties vm sa s) (R' : Run (FK w) s₀ (· ∈ frL A₀) (N1 M env T) env vm s') (e : Ext (· = T) s.heap s'.heap) {vs' : List Value} (hP : s'.heap.PlainList T vs'.toArray) (hr : RdL (N1 M env T) s'.heap vs' (ties.map pairD ++ [pairD p])) :
    LS w A₀ s₀ M env T (ties ++ [p]) vm sa s' :=
  ⟨t.run.to R' e fun a z => z ▸ t.fT, ⟨vs', hP, by rw [List.map_append]; exact hr⟩, t.fT, t.nT, t.e.trans (e.mono fun a z => .inr z)⟩
theorem LS.step {I : Addr} {h' : Heap} {tk : Nat} {vmL : List (Str × D)} {sL : Shared} {ties' : List (Int × Int)} (L : LS w A₀ s₀ M env T ties vmL sa sL) (Fa : Fra A₀ A M env s₀) (t : LS w A₀ s₀ M env T ties' vm sa s) (f0 : sL.heap.get? I = none)
    (he : ∀ b o, b ≠ I → s.heap.get? b = some o → h'.get? b = some o) (ho : ∃ o fs, s.heap.get? I = some o ∧ o.data = .fields fs ∧ ¬ Solid o) : LS w A₀ s₀ M env T ties' vm sa { s with heap := h', toks := tk } := by
  have nof := L.S.newOff f0
  have g0 := Fa.none0 L.run f0
  have R' := t.run.run.iter (tk := tk) g0 nof.1 nof.2.1 nof.2.2.1 nof.2.2.2 he ho
  obtain ⟨o, fs, ho1, ho2, ho3⟩ := ho
  have n : ∀ o', s.heap.get? I = some o' → ¬ Solid o' := fun o' z => by rw [ho1] at z; cases z; exact ho3
  refine ⟨⟨R', fun b hb o q hd => ?_⟩, ?_, t.fT, t.nT, fun b o nb q => he b o (fun z => ?_) (t.e b o nb q)⟩
  · obtain ⟨sl, hs⟩ := t.run.up b hb o q hd
    exact ⟨sl, he b _ (fun z => by rw [z, g0] at q; cases q) hs⟩
  · obtain ⟨vs, a, b⟩ := t.tl
    exact ⟨vs, a.at fun o q => he _ o (fun z => nof.1 (.inr z.symm)) q, RdL.iter he n b⟩
  · have := L.e b o nb q
    rw [z, f0] at this; cases this
theorem LS.less (t : LS w A₀ s₀ M env T ties vm sa s) (e : vm.lookup ("ties" : Str) = some (.ref T)) : RunX (FK w) A₀ s₀ (Mof M env) env (("ties", .lst (ties.map pairD)) :: vm) s := by
  have R := t.run.run.less (M := Mof M env) (fun a m => .inl m) (.inr (.inl rfl)) fun x c e => .inr (.inr ⟨x, e⟩)
  have r : Rd (Mof M env) s.heap (.ref T) (.lst (ties.map pairD)) := by
    obtain ⟨vs, hP, hr⟩ := t.tl
    exact .lst t.nT hP (hr.swap fun a _ n m => n (.inl m))
  exact ⟨⟨R.same, R.keep, R.sc, R.fm.alt e r, R.own⟩, t.run.up⟩
theorem ls_assign {x : Str} {p pos : Pos} {e : Expr} {rest : List Stmt} {d : D} {Q : Flow → Shared → Prop} (t : LS w A₀ s₀ M env T ties vm sa s) (rm : Room k A) (pe : PE PP w (N1 M env T) s.heap k (eval e env) d) (hk : KindOk env x)
    (hs : swapsWith e (some (.Name x p)) pos.line env = pure false) (nx : ∀ s', LS w A₀ s₀ M env T ties ((x, d) :: vm) sa s' → Go (model PP w) A (execs rest env) Q E s') :
    Go (model PP w) A (execs (.Assign [.Name x p] e pos :: rest) env) Q E s := run_assign t.run.run rm pe hk hs fun s' R' e' => nx s' (t.own R' e')
theorem ls_bind {x : Str} {p : Pos} {v : Value} {d : D} {Q : PUnit → Shared → Prop} (t : LS w A₀ s₀ M env T ties vm sa s) (hk : KindOk env x) (r : Rd (N1 M env T) s.heap v d)
    (nx : ∀ s', LS w A₀ s₀ M env T ties ((x, d) :: vm) sa s' → Q () s') : wpAny (model PP w) A (assign (.Name x p) env v) Q E s :=
  wpAny_assign_Name (run_store t.run.run r hk fun s' R' e' => nx s' (t.own R' e'))
theorem go_sw2 {x y : Str} {p p' q pos : Pos} {n : Nat} {e : Expr} {rest : List Stmt} {Q : Flow → Shared → Prop} {m : Model}
    (hs : swapsWith e (some (.Tuple [.Name x p, .Name y p'] n q)) pos.line env = pure false) (hsw : swappedStores [.Tuple [.Name x p, .Name y p'] n q] e env = pure (some [x, y]))
    (h : wpAny m A (eval e env) (fun v s1 => wpAny m A (unpackItems v 2 none) (fun items s2 => wpAny m A (assignInOrder [fun v => bindName env y v, fun v => bindName env x v] items.reverse) (fun _ s' => Go m A (execs rest env) Q E s') E s2) E s1) E s) :
    Go m A (execs (.Assign [.Tuple [.Name x p, .Name y p'] n q] e pos :: rest) env) Q E s := by
  refine .of (wpAny_execs_cons ?_)
  show wpAny _ _ (do
    standAt pos
    if ← swapsWith e (some (.Tuple [.Name x p, .Name y p'] n q)) pos.line env then do
      evalThenUse e env fun v => assignAll v ((assignEach [.Tuple [.Name x p, .Name y p'] n q] env).map (·.2))
      pure .next
    else do
      let v ← eval e env
      assignStores env v (← swappedStores [.Tuple [.Name x p, .Name y p'] n q] e env) ((assignEach [.Tuple [.Name x p, .Name y p'] n q] env).map (·.2))) _ _ _
  refine wpAny_bind (wpAny_standAt (wpAny_bind (wpAny_of_eq hs ?_)))
  rw [if_neg Bool.false_ne_true]
  refine wpAny_bind (wpAny_mono h (fun v s1 q => wpAny_bind (wpAny_of_eq hsw ?_)) fun _ _ f => f)
  unfold assignStores
  refine wpAny_bind (wpAny_rule ?_)
  refine wpAny_bind (wpAny_mono q (fun items s2 q => ?_) fun _ _ f => f)
  refine wpAny_bind (wpAny_mono q (fun u s3 g => ?_) fun _ _ f => f)
  exact wpAny_pure g.run
theorem start_ties (Fa : Fra A₀ A M env s₀) {p1 p2 pt q1 q2 pv pos : Pos} {n1 n2 : Nat} {rest : List Stmt} {Q : Flow → Shared → Prop} (R : RunX (FK w) A₀ s₀ (Mof M env) env vm s) (rm : Room k A) (hx : KindOk env "ties") (hy : KindOk env "wait")
    (hs : swapsWith (.Tuple [.List [] q1, .List [] q2] n2 pv) (some (.Tuple [.Name "ties" p1, .Name "wait" p2] n1 pt)) pos.line env = pure false)
    (hsw : swappedStores [.Tuple [.Name "ties" p1, .Name "wait" p2] n1 pt] (.Tuple [.List [] q1, .List [] q2] n2 pv) env = pure (some [("ties" : Str), ("wait" : Str)]))
    (nx : ∀ T s', LS w A₀ s₀ M env T [] (("ties", .ref T) :: ("wait", .lst []) :: vm) s' s' → Go (model PP w) A (execs rest env) Q E s') :
    Go (model PP w) A (execs (.Assign [.Tuple [.Name "ties" p1, .Name "wait" p2] n1 pt] (.Tuple [.List [] q1, .List [] q2] n2 pv) pos :: rest) env) Q E s := by
  refine go_sw2 hs hsw ?_
  refine Tuple_ ?_
  show wpAny _ _ (spliced [(false, eval (.List [] q1) env), (false, eval (.List [] q2) env)]) _ _ _
  have S := R.run.sc
  unfold spliced
  refine wpAny_bind (List_ ?_)
  show wpAny _ _ (spliced []) _ _ _
  unfold spliced
  refine wpAny_pure (wpAny_newList ?_ (by rw [sizeLine_eq]; simp))
  refine wpAny_bind (wpAny_pure (wpAny_bind (wpAny_holding ?_)))
  generalize hT : s.heap.objs.size = T
  have fT : s.heap.get? T = none := by rw [← hT]; exact get_size _
  generalize hH1 : s.heap.push { cls := .type "list", dict := none, data := .seq ([] : List Value).toArray } = H1
  have k1 : Kp s { s with heap := H1 } := Kp.hp _ _ (hH1 ▸ keep_push _ _)
  have hPT : H1.PlainList T ([] : List Value).toArray := ⟨0, by rw [← hH1, ← hT]; exact Heap.get?_push_size _ rfl⟩
  have S1 := S.keep k1.heap
  have f0 := Fa.none0 R fT
  have aT := S.newOff fT
  have nT : ¬ Mof M env T := aT.1
  have t1 : LS w A₀ s₀ M env T [] vm { s with heap := H1 } { s with heap := H1 } := by
    refine ⟨?_, ⟨[], hPT, .nil⟩, f0, nT, Ext.refl _⟩
    have fm : Fm (N1 M env T) env vm s.heap := R.run.fm.swap (fun a ha nm m => m.elim nm fun z => by rw [z, fT] at ha; cases ha) (.inl R.run.fm.inL) fun x c e => .inl (R.run.fm.inC x c e)
    have sc : Sc (FK w) (N1 M env T) H1 := ⟨S1.inn, S1.bns, S1.lim, S1.dig, fun a m => m.elim (S1.alive a) fun z => by rw [z]; obtain ⟨c, ho⟩ := hPT; rw [ho]; rfl, fun a m => m.elim (S1.offK a) fun z => z ▸ aT.2.1, fun m => m.elim S1.offB fun z => aT.2.2.1 z.symm, fun m => m.elim S1.offS fun z => aT.2.2.2 z.symm⟩
    have R' := R.pure k1
    exact ⟨⟨R'.run.same, R'.run.keep, sc, fm.keep k1.heap, R'.run.own⟩, R'.up⟩
  unfold spliced
  refine wpAny_bind ((PE.list (prog := PP) (w := w) (env := env) (k := k) (p := q2) t1.S PLs.nil (by decide)).use rm (Keep.refl _) fun v2 s2 k2 r2 => ?_)
  refine wpAny_bind (wpAny_pure (wpAny_bind (wpAny_holding ?_)))
  have t2 := t1.pure k2
  refine wpAny_pure (wpAny_pure (wpAny_pure ?_))
  refine wpAny_newTuple ?_ (by rw [sizeLine_eq]; simp)
  have k3 : Kp s2 { s2 with heap := s2.heap.push { cls := .type "tuple", dict := none, data := .seq ([.ref T, v2] : List Value).toArray } } := Kp.hp _ _ (keep_push _ _)
  have ht : PTup (s2.heap.push { cls := .type "tuple", dict := none, data := .seq ([.ref T, v2] : List Value).toArray }) s2.heap.objs.size #[.ref T, v2] := ⟨0, Heap.get?_push_size _ rfl⟩
  refine unpackItems_tuple (items := #[.ref T, v2]) rm.handled ht.isTup fun h₁ he => ?_
  have k4 : Keep (s2.heap.push { cls := .type "tuple", dict := none, data := .seq ([.ref T, v2] : List Value).toArray }) h₁ := keep_extBut he (get_size _)
  have k5 : Kp s2 { s2 with heap := h₁ } := k3.trans (Kp.hp { s2 with heap := s2.heap.push { cls := .type "tuple", dict := none, data := .seq ([.ref T, v2] : List Value).toArray } } _ k4)
  have t5 := t2.pure k5
  show wpAny _ _ (assignInOrder [fun v => bindName env "wait" v, fun v => bindName env "ties" v] [v2, .ref T]) _ _ _
  unfold assignInOrder
  refine wpAny_bind (wpAny_holding (wpAny_bindName (run_store t5.run.run (r2.keep k5.heap) hy fun s7 R7 e7 => ?_)))
  have t7 := t5.own R7 e7
  unfold assignInOrder
  refine wpAny_bind (wpAny_holding (wpAny_bindName (run_store t7.run.run (.ref T) hx fun s8 R8 e8 => ?_)))
  have t8 := t7.own R8 e8
  unfold assignInOrder
  exact wpAny_pure (nx T s8 t8.again)
theorem run_assignX {x : Str} {p pos : Pos} {e : Expr} {rest : List Stmt} {d : D} {Q : Flow → Shared → Prop} (R : RunX (FK w) A₀ s₀ (Mof M env) env vm s) (Fa : Fra A₀ A M env s₀)
    (pe : Frs A (Mof M env) s.heap → wpAny (model PP w) A (eval e env) (fun v s2 => XK A s s2 ∧ Rd (Mof M env) s2.heap v d) E s) (hk : KindOk env x)
    (hs : swapsWith e (some (.Name x p)) pos.line env = pure false) (nx : ∀ s', RunX (FK w) A₀ s₀ (Mof M env) env ((x, d) :: vm) s' → Go (model PP w) A (execs rest env) Q E s') :
    Go (model PP w) A (execs (.Assign [.Name x p] e pos :: rest) env) Q E s := by
  have fr := Fa.frs (fun _ => .inl) R
  refine .of (wpAny_execs_cons (wpAny_Assign_Name (wpAny_mono (pe fr) (fun v s1 q => ?_) fun _ _ f => f) hs))
  obtain ⟨xk, r⟩ := q
  have R1 := R.xkN Fa fr xk
  exact run_store R1.run r hk fun s' R' e' => (nx s' (R1.own R' e')).run
theorem run_if_mid {prog : Program} {pos : Pos} {t : Expr} {body rest : List Stmt} {c : Bool} {Q : Flow → Shared → Prop} (Mid : Shared → Prop) (rm : Room k A) (pb : PB prog w s.heap k (isTrue t env (eval t env)) c)
    (h1 : c = true → ∀ s', Kp s s' → Go (model prog w) A (execs body env) (fun f s3 => f = .next ∧ Mid s3) E s') (h2 : c = false → ∀ s', Kp s s' → Mid s') (nx : ∀ s', Mid s' → Go (model prog w) A (execs rest env) Q E s') :
    Go (model prog w) A (execs (.If t body [] pos :: rest) env) Q E s :=
  run_if rm pb (fun e s' kp => .of (wpAny_mono (h1 e s' kp).run (fun f s3 q => by obtain ⟨rfl, m⟩ := q; exact nx s3 m) fun _ _ x => x)) fun e s' kp => run_end (nx s' (h2 e s' kp))
theorem cmpX {l r : Expr} {op : CmpOp} {p : Pos} {d b : D} {c : Bool} {Q : Value → Shared → Prop} (R : RunX (FK w) A₀ s₀ (Mof M env) env vm s) (Fa : Fra A₀ A M env s₀) (rm : Room k A)
    (pe : Frs A (Mof M env) s.heap → wpAny (model PP w) A (eval l env) (fun v s2 => XK A s s2 ∧ Rd (Mof M env) s2.heap v d) E s)
    (hb : ∀ s2, RunX (FK w) A₀ s₀ (Mof M env) env vm s2 → PE PP w (Mof M env) s2.heap k (eval r env) b ∧ Op2 PP w (Mof M env) s2.heap k (compareOp op) d b (.bool c))
    (hq : ∀ s', RunX (FK w) A₀ s₀ (Mof M env) env vm s' → Q (.bool c) s') (hm : behindInMarks op r = false := by rfl) : wpAny (model PP w) A (eval (.Compare l [op] [r] p) env) Q E s := by
  have fr := Fa.frs (fun _ => .inl) R
  refine wpAny_Compare1 (wpAny_mono (pe fr) (fun v s1 q => ?_) fun _ _ f => f) hm
  obtain ⟨xk, rv⟩ := q
  have R1 := R.xkN Fa fr xk
  obtain ⟨hb, ho⟩ := hb s1 R1
  refine hb.use rm (Keep.refl _) fun u s2 k2 r2 => ?_
  refine wpAny_mono (ho.go A s2 v u rm k2.heap (rv.keep k2.heap) r2) (fun x s3 q => ?_) fun _ _ f => f.elim
  obtain ⟨k3, r3⟩ := q
  cases r3 using Rd.boolE0
  exact hq s3 (R1.pure (k2.trans k3))
end
end
section
set_option linter.unusedVariables false
noncomputable def W1of (oc : Option Nat) (W : List Int) : List Int := match oc with | some c => W.eraseIdx c | none => W
noncomputable def t1of (oc : Option Nat) (W : List Int) (p : Int) : List (Int × Int) := match oc with | some c => [(W.getD c 0, p)] | none => []
structure LInv (j : Nat) (W : List Int) (ties : List (Int × Int)) : Prop where
  pre : ∃ pre : List P.Op, pre.length = j ∧ (∀ rest, P.run 1 [] (pre ++ rest) = ties ++ P.run (1 + (j : Int)) W rest) ∧ ∀ rest, P.ok 0 (pre ++ rest) = P.ok W.length rest
  le : W.length ≤ j
  hi : W.length ≤ 12 - j
  tl : ties.length ≤ j
theorem LInv.start : LInv 0 [] [] := ⟨⟨[], rfl, fun _ => rfl, fun _ => rfl⟩, Nat.le_refl _, Nat.zero_le _, Nat.le_refl _⟩
theorem LInv.step {j : Nat} {W : List Int} {ties : List (Int × Int)} (h : LInv j W ties) (oc : Option Nat) (o : Bool) (hoc : ∀ c, oc = some c → c < W.length) (hb : 6 ≤ j → o = false ∧ (W ≠ [] → oc ≠ none)) (hj : j < 12) :
    LInv (j + 1) (P.opened o (1 + (j : Int)) (W1of oc W)) (ties ++ t1of oc W (1 + (j : Int))) := by
  obtain ⟨pre, hl, hr, hk⟩ := h.pre
  have h1 := h.le
  have h2 := h.hi
  have h3 := h.tl
  have ho : o.toNat ≤ 1 := by cases o <;> decide
  have hW1 : (W1of oc W).length ≤ W.length ∧ (6 ≤ j → (W1of oc W).length ≤ W.length - 1) := by
    cases oc with
    | none =>
      refine ⟨Nat.le_refl _, fun q => ?_⟩
      have : W = [] := Classical.byContradiction fun z => (hb q).2 z rfl
      rw [this]; exact Nat.le_refl _
    | some c =>
      have := hoc c rfl
      show (W.eraseIdx c).length ≤ _ ∧ (_ → (W.eraseIdx c).length ≤ _)
      rw [List.length_eraseIdx_of_lt this]
      exact ⟨by lia, fun _ => Nat.le_refl _⟩
  refine ⟨⟨pre ++ [(oc, o)], by simp [hl], fun rest => ?_, fun rest => ?_⟩, ?_, ?_, ?_⟩
  · rw [List.append_assoc, List.singleton_append, hr]
    cases oc with
    | none => rw [cast1]; show ties ++ P.run _ _ rest = (ties ++ []) ++ P.run _ _ rest; rw [List.append_nil]; rfl
    | some c => rw [cast1, List.append_assoc]; rfl
  · rw [List.append_assoc, List.singleton_append, hk, P.opened_len]
    cases oc with
    | none => rfl
    | some c =>
      have := hoc c rfl
      show P.ok W.length ((some c, o) :: rest) = P.ok ((W.eraseIdx c).length + o.toNat) rest
      rw [List.length_eraseIdx_of_lt this]
      simp [P.ok, this]
  · rw [P.opened_len]; lia
  · rw [P.opened_len]
    by_cases q : 6 ≤ j
    · have e := (hb q).1
      subst e
      have := hW1.2 q
      show _ + 0 ≤ _
      lia
    · lia
  · rw [List.length_append]
    have : (t1of oc W (1 + (j : Int))).length ≤ 1 := by cases oc <;> simp [t1of]
    lia
theorem LInv.stop {W : List Int} {ties : List (Int × Int)} (h : LInv 12 W ties) : ∃ ops : List P.Op, ops.length = 12 ∧ P.ok 0 ops = true ∧ P.run 1 [] ops = ties := by
  obtain ⟨pre, hl, hr, hk⟩ := h.pre
  have hi := h.hi
  have hW : W = [] := List.eq_nil_of_length_eq_zero (by lia)
  subst hW
  refine ⟨pre, hl, ?_, ?_⟩
  · have := hk []
    rw [List.append_nil] at this
    rw [this]; rfl
  · have := hr []
    rw [List.append_nil] at this
    rw [this]; exact List.append_nil _
noncomputable def kindsL (c0 : Int) : List Int := 0 :: ([0, 1, 2, 3, 4].map (fun k : Int => c0 / 4 ^ k.toNat % 4) ++ [2, 2, 2, 2, 2, 2])
theorem kinds_len (c0 : Int) : (kindsL c0).length = 12 := rfl
theorem kinds_late {c0 : Int} {j : Nat} (h : 6 ≤ j) (h2 : j < 12) : (kindsL c0)[j]? = some 2 := by
  have : j = 6 ∨ j = 7 ∨ j = 8 ∨ j = 9 ∨ j = 10 ∨ j = 11 := by exact (by decide : ∀ j, j < 12 → 6 ≤ j → j = 6 ∨ j = 7 ∨ j = 8 ∨ j = 9 ∨ j = 10 ∨ j = 11) j h2 h
  rcases this with rfl | rfl | rfl | rfl | rfl | rfl <;> rfl
end
section
set_option linter.unusedVariables false
open PySem PySem.W PySem.Calls PyProof.Rows PySem.Spec Q
section
variable {w : World} {M : Addr → Prop} {h : Heap} {k : Nat} {env : Env} {vm : List (Str × D)}
noncomputable def figAt (dress i : Int) : Int := dress / 512 ^ (i - 1).toNat % 512
noncomputable def figsD (dress : Int) : List D := (intsL 0 12).map fun x => D.int (dress / 512 ^ x.toNat % 512)
theorem intsL_get {a b : Int} {j : Nat} (h : j < (b - a).toNat) : (intsL a b)[j]? = some (a + j) := by
  unfold intsL
  rw [List.getElem?_map, List.getElem?_range h]; rfl
theorem intsL_len (a b : Int) : (intsL a b).length = (b - a).toNat := by unfold intsL; simp
theorem intsL_mem {a b x : Int} (h : x ∈ intsL a b) : a ≤ x ∧ x < b := by
  unfold intsL at h
  obtain ⟨i, hi, rfl⟩ := List.mem_map.mp h
  have := List.mem_range.mp hi
  lia
theorem figs_at {dress : Int} {j : Nat} (h : j < 12) : (figsD dress)[(1 + (j : Int) - 1).toNat]? = some (.int (figAt dress (1 + (j : Int)))) := by
  have e : (1 + (j : Int) - 1).toNat = j := by lia
  unfold figsD figAt
  rw [e, List.getElem?_map, intsL_get (by assumption)]
  show some (D.int (dress / 512 ^ ((0 : Int) + j).toNat % 512)) = _
  rw [show ((0 : Int) + j).toNat = j by lia]
theorem figs_in {dress i : Int} (h1 : 1 ≤ i) (h2 : i ≤ 12) : (figsD dress)[(i - 1).toNat]? = some (.int (figAt dress i)) := by
  have := figs_at (dress := dress) (j := (i - 1).toNat) (by omega)
  rw [show 1 + (((i - 1).toNat : Nat) : Int) = i by lia] at this
  exact this
theorem pow_pos512 (n : Nat) : (0 : Int) < 512 ^ n := Int.pow_pos (by decide)
theorem pow_log {n : Nat} (h : n ≤ 20) : ((512 : Int) ^ n).natAbs.log2 < 9000 := by
  have : ((512 : Int) ^ n).natAbs = 512 ^ n := by rw [Int.natAbs_pow]; rfl
  rw [this]
  have h2 : (512 : Nat) ^ n < 2 ^ 9000 := Nat.lt_of_le_of_lt (Nat.pow_le_pow_right (by decide) h) (by decide +kernel)
  have h0 : (512 : Nat) ^ n ≠ 0 := Nat.pos_iff_ne_zero.mp (Nat.pow_pos (by decide))
  exact (Nat.log2_lt h0).mpr h2
theorem run_len (p : Int) (W : List Int) (ops : List P.Op) : (P.run p W ops).length ≤ ops.length := by
  induction ops generalizing p W with
  | nil => exact Nat.le_refl _
  | cons a r ih =>
    obtain ⟨c, o⟩ := a
    cases c with
    | none => exact Nat.le_succ_of_le (ih _ _)
    | some c => exact Nat.succ_le_succ (ih _ _)
theorem rng_at {a b : Int} {j : Nat} {d : D} (h : (rngD a b)[j]? = some d) : j < (b - a).toNat ∧ d = .int (a + j) := by
  rw [rng_ints, List.getElem?_map] at h
  by_cases hj : j < (b - a).toNat
  · rw [intsL_get hj] at h
    exact ⟨hj, (by simpa using h.symm)⟩
  · rw [List.getElem?_eq_none (by rw [intsL_len]; lia)] at h; cases h
theorem bytes0 (n0 : Nat) (fig : Int → Int) : ((encB (sentH (([] : List Int).map (entH n0 fig)))).toList == ([13, 10] : List UInt8).toArray.toList) = true := by
  show ((encB (sentH [])).toList == ([13, 10] : List UInt8).toArray.toList) = true
  decide +kernel
theorem fn_turned {ops : List P.Op} {dress first : Int} (hok : P.ok 0 ops = true) (hlen : ops.length = 12) :
    FnX PP w (FK w) 288 [.lst ((P.run 1 [] ops).map pairD), .int dress, .int first] (.lst ((P.run 1 [] (P.flip 0 ops)).map pairD)) (k + 7) := by
  refine FnX.by (k := k + 6) (names := ["ties", "dress", "first"]) (bds := [.lst ((P.run 1 [] ops).map pairD), .int dress, .int first]) (by with_unfolding_all rfl) rfl (by kernel_rfl!) ⟨rfl, rfl, rfl, rfl, by decide +kernel, by decide +kernel, by decide +kernel, by decide +kernel⟩ rfl rfl
    (fun M s vs S r1 => by obtain ⟨_, _, _, rfl, a, b, c⟩ := rdl3 r1; exact ⟨_, BindsTo.of_eq (by kernel_rfl!), .cons a (.cons b (.cons c .nil))⟩) rfl ?_
  intro M env A₀ A s s₁ I rm Fr R
  simp only [List.zip_cons_cons, List.zip_nil_right] at R
  have O := I.ok rfl
  have S := R.run.sc
  have F := R.run.fm
  have hti := TInv.start hok
  have hlt : (P.run 1 [] ops).length ≤ 12 := hlen ▸ run_len _ _ _
  obtain ⟨n0, e0, hn0⟩ : ∃ n0 : Nat, first % 4096 = (n0 : Int) ∧ n0 < 4096 := ⟨(first % 4096).toNat, by lia, by lia⟩
  generalize hTies : P.run 1 [] ops = ties at hti hlt R ⊢
  have htl : (P.run 1 [] (P.flip 0 ops)).length ≤ 12 := hlen ▸ flip_len 0 ops ▸ run_len _ _ _
  generalize hTot : P.run 1 [] (P.flip 0 ops) = total at hti htl ⊢
  refine run_assign R.run rm (PE.comp1m D.int inj_int (intsL 0 12) (fun x => D.int (dress / 512 ^ x.toNat % 512)) (vmF := [("dress", .int dress)]) (bs := fun d => [("k", d)]) S F (I.comp (by kernel_rfl!) rfl (by kernel_rfl!) (by kernel_rfl!))
    (by wtm_at "PE") (by rw [← rng_ints]; exact OpIter.rng (by decide) (by decide) (by decide) (by decide)) (HV.cons (by wtm_at "LOOK") (by kernel_rfl!) HV.nil) (fun p _ C => Asg.nameC (by kernel_rfl!) (by kernel_rfl!)) (fun d hd => off1 (by kernel_rfl!))
    (fun x hx W h' C _ S F => ?_) (by decide +kernel)) (I.kindOk (by kernel_rfl!) (by kernel_rfl!)) (I.swap0 (by with_unfolding_all rfl)) fun s2 R2 e2 => ?_
  · have hx := intsL_mem hx
    have F : Fm W _ [("k", .int x), ("dress", .int dress)] h' := F
    exact PE.op2 (PE.op2 (by wtm_at "PE") (PE.op2 (by wtm_at "PE") (by wtm_at "PE") (Op2.pow_int (by decide) (by decide) hx.1 (by lia))) (Op2.div_int (pow_pos512 _) (pow_log (by lia)))) (by wtm_at "PE") (Op2.mod_int (by decide))
  have RX2 := R.own R2 e2
  refine start_turn (k := k) Fr RX2 (rm.mono (by wtm_at "OM")) O (I.kindOf (by kernel_rfl!)) (I.kindOk (by kernel_rfl!) (by kernel_rfl!)) (I.kindOk (by kernel_rfl!) (by kernel_rfl!)) (I.kindOk (by kernel_rfl!) (by kernel_rfl!)) (I.swap0 (by with_unfolding_all rfl)) (I.stores (by with_unfolding_all rfl)) fun x1 l1 x2 l2 T s3 f t0 => ?_
  have S := t0.S0
  have F := t0.F0
  refine run_for (K := FK w) (M := B3 M env l1 l2 T) (Inv := fun j s' => ∃ W V ts, TInv ties total ops j W V ts ∧ TS w A₀ s M env x1 l1 x2 l2 T (W.map (entH n0 (figAt dress))) (V.map (entT n0 (figAt dress))) ts [("here", .ref x1), ("there", .ref x2), ("turned", .ref T), ("figures", .lst (figsD dress)), ("ties", .lst (ties.map pairD)), ("dress", .int dress), ("first", .int first)] s') rm S (by wtm_at "PE") (OpIter.rng (by decide) (by decide) (by decide) (by decide))
    (fun s' kp => ⟨[], [], [], hti, t0.pure kp⟩) ?_ ?_ ?_
  · rintro I' j s' h' tk f0 ⟨W, V, ts, hi, t⟩ he ho
    exact ⟨W, V, ts, hi, t0.step Fr t f0 he ho⟩
  · rintro j d s4 v hd ⟨W, V, ts, hi, t⟩ rv
    obtain ⟨hj, rfl⟩ := rng_at hd
    have hj : j < 12 := hj
    refine t.tx.bind f (I.kindOk (by kernel_rfl!) (by kernel_rfl!)) rv fun s5 t5 => ?_
    obtain ⟨⟨oc, o⟩, ho⟩ : ∃ q, ops[j]? = some q := ⟨_, List.getElem?_eq_getElem (by lia)⟩
    have S := t5.t.S0
    have F := t5.t.F0
    refine tx_assign t5 f rm (PE.sub (by wtm_at "PE") (by wtm_at "PE") (item_lst rfl rfl (by lia) (figs_at hj) (by lia))) (I.kindOk (by kernel_rfl!) (by kernel_rfl!)) (I.swap0 (by with_unfolding_all rfl)) fun s6 t6 => ?_
    have S := t6.t.S0
    have F := t6.t.F0
    have hfilt : ((ties.filter fun t => t.2 == 1 + (j : Int)).map fun t => D.int t.1) = (endsAt ties (1 + (j : Int))).map D.int := by unfold endsAt; rw [List.map_map]; rfl
    have hds : ∀ (j' : Nat) (d : D) (W' V' : List Int) (ts' : List (Int × Int)), ((ties.filter fun t => t.2 == 1 + (j : Int)).map fun t => D.int t.1)[j']? = some d → Half oc (1 + (j : Int)) W V ts j' W' V' ts' → ∃ c, oc = some c ∧ j' = 0 ∧ c < W.length ∧ d = .int (W.getD c 0) ∧ W = W' ∧ V = V' ∧ ts = ts' := by
      intro j' d W' V' ts' hd hh
      rw [hfilt] at hd
      cases oc with
      | none => rw [hi.noend ho] at hd; cases hd
      | some c =>
        rw [(hi.oneend ho).1] at hd
        rcases hh with ⟨rfl, rfl, rfl, rfl⟩ | ⟨c', e, rfl, _⟩
        · exact ⟨c, rfl, rfl, (hi.oneend ho).2, (by simpa using hd.symm), rfl, rfl, rfl⟩
        · cases hd
    refine run_for (K := FK w) (M := B3 M env l1 l2 T) (Inv := fun j' s' => ∃ W' V' ts', Half oc (1 + (j : Int)) W V ts j' W' V' ts' ∧ TX w A₀ s M env x1 l1 x2 l2 T (W'.map (entH n0 (figAt dress))) (V'.map (entT n0 (figAt dress))) ts' [("figure", .int (figAt dress (1 + (j : Int)))), ("place", .int (1 + (j : Int))), ("here", .ref x1), ("there", .ref x2), ("turned", .ref T), ("figures", .lst (figsD dress)), ("ties", .lst (ties.map pairD)), ("dress", .int dress), ("first", .int first)] s4 s') rm S
      (PE.comp1f pairD inj_pair ties (fun t => t.2 == 1 + (j : Int)) (fun t => D.int t.1) (vmF := [("place", .int (1 + (j : Int)))]) (bs := fun d => match d with | .tup [a, b] => [("j", b), ("i", a)] | _ => []) S F (I.comp (by kernel_rfl!) rfl (by kernel_rfl!) (by kernel_rfl!)) (by wtm_at "PE") (OpIter.list S) (HV.cons (by wtm_at "LOOK") (by kernel_rfl!) HV.nil)
        (fun p _ C => Asg.pairC (by kernel_rfl!) (by kernel_rfl!) (by kernel_rfl!) (by kernel_rfl!)) (fun d hd => ?_) (fun p _ W h' C _ S F => ?_) (by lia)) (OpIter.list S)
      (fun s' kp => ⟨W, V, ts, .inl ⟨rfl, rfl, rfl, rfl⟩, t6.pure kp⟩) ?_ ?_ ?_
    · obtain ⟨x, _, rfl⟩ := List.mem_map.mp hd; exact off2 (by kernel_rfl!)
    · have F : Fm W _ [("j", .int p.2), ("i", .int p.1), ("place", .int (1 + (j : Int)))] h' := F
      exact ⟨PB.cmp (by wtm_at "PE") (by wtm_at "PE") Op2.eq_int rfl, fun _ => by wtm_at "PE"⟩
    · rintro I' j' s' h' tk f0 ⟨W', V', ts', hh, t'⟩ he hoo
      exact ⟨W', V', ts', hh, t6.step Fr t' f0 he hoo⟩
    · rintro j' d s7 v hd ⟨W', V', ts', hh, t7'⟩ rv
      obtain ⟨c, rfl, rfl, hc, rfl, rfl, rfl, rfl⟩ := hds j' d W' V' ts' hd hh
      have t7 := t7'.t.tx
      refine t7.bind f (I.kindOk (by kernel_rfl!) (by kernel_rfl!)) rv fun s8 t8 => ?_
      have PW := hi.plW (by lia)
      have PV := hi.plV (by omega)
      have S := t8.t.S0
      have F := t8.t.F0
      have hb : W.getD c 0 ∈ W := by simp [List.getD, hc]
      have hb1 := PW.lo _ hb
      have hb12 := PW.hi _ hb
      have hWl := PW.len
      have hVl := hi.len
      generalize hbb : W.getD c 0 = b at hb hb1 hb12 t8 F
      have hwait : ((ties.filter fun t => decide (t.1 < 1 + (j : Int)) && decide (1 + (j : Int) ≤ t.2)).map fun t => D.int t.1) = (waitsAt ties (1 + (j : Int))).map D.int := by unfold waitsAt; rw [List.map_map]; rfl
      refine tx_assign t8 f rm (PE.callF (.builtin "sorted") (glob_bi (by wtm_at "ENVOK") S (n_sorted _) b_sorted (by decide) (by wtm_at "KIND")) (by kernel_rfl!) keep_bi (PLs.cons (PE.to (PE.comp1f pairD inj_pair ties (fun t => decide (t.1 < 1 + (j : Int)) && decide (1 + (j : Int) ≤ t.2)) (fun t => D.int t.1) (vmF := [("place", .int (1 + (j : Int)))]) (bs := fun d => match d with | .tup [a, b] => [("j", b), ("i", a)] | _ => []) S F (I.comp (by kernel_rfl!) rfl (by kernel_rfl!) (by kernel_rfl!)) (by wtm_at "PE") (OpIter.list S) (HV.cons (by wtm_at "LOOK") (by kernel_rfl!) HV.nil)
        (fun p _ C => Asg.pairC (by kernel_rfl!) (by kernel_rfl!) (by kernel_rfl!) (by kernel_rfl!)) (fun d hd => ?_) (fun p _ W h' C _ S F => ?_) (by lia)) (congrArg D.lst hwait)) PLs.nil) PKw.nil (OpN.sorted S (by rw [← hi.waits.length_eq]; lia) hi.waits (hi.w1.up.imp fun q => by lia)) rfl) (I.kindOk (by kernel_rfl!) (by kernel_rfl!)) (I.swap0 (by with_unfolding_all rfl)) fun s9 t9 => ?_
      · obtain ⟨x, _, rfl⟩ := List.mem_map.mp hd; exact off2 (by kernel_rfl!)
      · have F : Fm W _ [("j", .int p.2), ("i", .int p.1), ("place", .int (1 + (j : Int)))] h' := F
        exact ⟨PB.chain (by wtm_at "PE") (PCh.cons (by wtm_at "PE") Op2.lt_int (PCh.one (by wtm_at "PE") Op2.le_int)) (by rfl), fun _ => by wtm_at "PE"⟩
      have S := t9.t.S0
      have F := t9.t.F0
      have hsl : (sentW first (figAt dress) W).length ≤ 2500000 := by rw [← sent_eq e0 hn0 PW]; exact sentH_len PW hn0
      have hjl : (Txt.join (Str.ofString "") (W.map fun i => sentOf i (figAt dress i) first)).length + 2 ≤ 2500000 := by
        have : (Str.ofString "\r\n").length = 2 := by decide +kernel
        unfold sentW at hsl
        rw [Str.length_append] at hsl; assumption
      refine tx_assign t9 f rm (PE.to (d' := .str (sentW first (figAt dress) W)) (PE.op2 (PE.meth (by wtm_at "PE") (PLs.cons (PE.to (d' := .lst ((W.map fun i => sentOf i (figAt dress i) first).map D.str)) (PE.comp1m D.int inj_int W (fun i => .str (sentOf i (figAt dress i) first)) (vmF := [("figures", .lst (figsD dress)), ("first", .int first)]) (bs := fun d => [("i", d)]) S F (I.comp (by kernel_rfl!) rfl (by kernel_rfl!) (by kernel_rfl!)) (by wtm_at "PE") (OpIter.list S) (HV.cons (by wtm_at "LOOK") (by kernel_rfl!) (HV.cons (by wtm_at "LOOK") (by kernel_rfl!) HV.nil))
        (fun p _ C => Asg.nameC (by kernel_rfl!) (by kernel_rfl!)) (fun d hd => off1 (by kernel_rfl!)) (fun i hi W h' C _ S F => ?_) (by lia)) (by rw [List.map_map]; rfl)) PLs.nil) PKw.nil (OpM.join (by have := sum_join (W.map fun i => sentOf i (figAt dress i) first); have h0 : (Str.ofString "").length = 0 := rfl; rw [h0]; lia))) (by exact PE.lit_str) (Op2.add_str (a := 2500000) (b := 2) (by unfold Ln; lia) (by unfold Ln; decide +kernel) (by decide))) rfl) (I.kindOk (by kernel_rfl!) (by kernel_rfl!)) (I.swap0 (by with_unfolding_all rfl)) fun s10 t10 => ?_
      · have h1 := PW.lo i hi
        have h2 := PW.hi i hi
        have F : Fm W _ [("i", .int i), ("figures", .lst (figsD dress)), ("first", .int first)] h' := F
        exact PE.callF (.ref 276) (glob_of (by wtm_at "ENVOK") S (g_law_sent _) (by wtm_at "KIND")) (by kernel_rfl!) (kp_276 S) (PLs.cons (by wtm_at "PE") (PLs.cons (PE.sub (by wtm_at "PE") (by wtm_at "PE") (item_lst rfl rfl (by lia) (figs_in h1 h2) (by lia))) (PLs.cons (by wtm_at "PE") PLs.nil))) PKw.nil ((fn_sent (k := 0) (by lia) h2).opN S (by exact Nat.le_add_left _ _)) rfl
      have S := t10.t.S1
      have F := t10.t.G1.alt (y := "here") (by wtm_at "LOOK") t10.t.h1
      have hes : (W.map (entH n0 (figAt dress))).length ≤ 1000 := by rw [List.length_map]; lia
      have hxs : (W.map (entH n0 (figAt dress))).map (·.1) ≠ [] := fun z => by
        rw [List.map_map] at z
        have : W = [] := List.map_eq_nil_iff.mp z
        rw [this] at hc; cases hc
      have hasc := sentH_ascii (n0 := n0) (fig := figAt dress) PW
      refine tx_assign2s t10 f rm (PE.up_pair (M := B2 M env l2 T) t10.t.h1 hxs (fun a m => m.elim (fun z => .inl (.inl z)) fun z => z.elim .inr fun z => z.elim (fun z => .inl (.inr (.inl z))) fun z => .inl (.inr (.inr z))) (PE.tuple S (PLs.cons (PE.meth (by wtm_at "PE") (by wtm_at "PLS") PKw.nil (OpM.inst S (c_keys w) (t_keys w) (by kernel_rfl!) kp_200 (fn_keys (k := 0) hes) (by exact Nat.le_add_left _ _))) (PLs.cons (PE.callF (.type "bytes") (glob_bi (by wtm_at "ENVOK") S (n_bytes _) b_bytes (by decide) (by wtm_at "KIND")) (by kernel_rfl!) keep_ty (by wtm_at "PLS") PKw.nil (OpN.bytes_hdr S (fn_bytes (k := 0) (fitH PW hn0) hasc) (by exact Nat.le_add_left _ _)) rfl) PLs.nil)) (Nat.le_of_ble_eq_true (by kernel_rfl!)))) (I.kindOk (by kernel_rfl!) (by kernel_rfl!)) (I.kindOk (by kernel_rfl!) (by kernel_rfl!)) (I.swap0 (by with_unfolding_all rfl)) (I.stores (by with_unfolding_all rfl)) fun s11 t11 => ?_
      have S := t11.t.S0
      have F := t11.t.F0
      obtain ⟨out, hst, hdp⟩ := depth_here (n0 := n0) (fig := figAt dress) PW
      have hsz : (encB (sentH (W.map (entH n0 (figAt dress))))).size ≤ 8000000 := by rw [enc_size hasc]; have := sentH_len (n0 := n0) (fig := figAt dress) PW hn0; lia
      refine tx_assign t11 f rm (PE.to (d' := .int (-first + (W.length : Int))) (PE.callF (.ref 51) (glob_of (by wtm_at "ENVOK") S (g_paren_depth _) (by wtm_at "KIND")) (by kernel_rfl!) (kp_51 S) (by wtm_at "PLS") PKw.nil ((fn_depth2 (k := 0) hsz hst).opN S (by exact Nat.le_add_left _ _)) rfl) (by rw [hdp])) (I.kindOk (by kernel_rfl!) (by kernel_rfl!)) (I.swap0 (by with_unfolding_all rfl)) fun s12 t12 => ?_
      have S := t12.t.S0
      have F := t12.t.F0
      have hnm := names_are (fig := figAt dress) e0 hn0 PW
      have hse := sent_eq (fig := figAt dress) e0 hn0 PW
      refine tx_ifF t12 rm (PB.to (PB.or2 (PB.cmp (by wtm_at "PE") (PE.to (d' := .lst ((W.map fun i => wordOf (first % 4096 + i) (figAt dress i)).map D.str)) (PE.comp1m D.int inj_int W (fun i => .str (wordOf (first % 4096 + i) (figAt dress i))) (vmF := [("figures", .lst (figsD dress)), ("first", .int first)]) (bs := fun d => [("i", d)]) S F (I.comp (by kernel_rfl!) rfl (by kernel_rfl!) (by kernel_rfl!)) (by wtm_at "PE") (OpIter.list S) (HV.cons (by wtm_at "LOOK") (by kernel_rfl!) (HV.cons (by wtm_at "LOOK") (by kernel_rfl!) HV.nil))
        (fun p _ C => Asg.nameC (by kernel_rfl!) (by kernel_rfl!)) (fun d hd => off1 (by kernel_rfl!)) (fun i hi W h' C _ S F => ?_) (by lia)) (by rw [List.map_map]; rfl)) (Op2.ne_list fun M => EqOk.str) rfl) fun _ => PB.cmp (by wtm_at "PE") (PE.meth (by wtm_at "PE") (by wtm_at "PLS") PKw.nil (OpM.encode2 (hse ▸ hasc) (Nat.le_trans hsl (by decide)))) Op2.ne_bytes rfl) (c := false) ?_) rfl fun s13 t13 => ?_
      · have h1 := PW.lo i hi
        have h2 := PW.hi i hi
        have F : Fm W _ [("i", .int i), ("figures", .lst (figsD dress)), ("first", .int first)] h' := F
        exact PE.callF (.ref 257) (glob_of (by wtm_at "ENVOK") S (g_law_word _) (by wtm_at "KIND")) (by kernel_rfl!) (kp_257 S) (PLs.cons (PE.op2 (PE.op2 (by wtm_at "PE") (by wtm_at "PE") (Op2.mod_int (by decide))) (by wtm_at "PE") Op2.add_int) (PLs.cons (PE.sub (by wtm_at "PE") (by wtm_at "PE") (item_lst rfl rfl (by lia) (figs_in h1 h2) (by lia))) PLs.nil)) PKw.nil ((fn_word (k := 0)).opN S (by exact Nat.le_add_left _ _)) rfl
      · rw [hnm, hse]
        simp
      have S := t13.t.S0
      have F := t13.t.F0
      have S2 := t13.t.S2
      have F2 := t13.t.G2.alt (y := "there") (by wtm_at "LOOK") t13.t.h2
      have hVl2 : (V.map (entT n0 (figAt dress))).length = W.length := by rw [List.length_map, hVl]
      refine tx_ifF t13 rm (PB.to (PB.or2 (PB.cmp (by wtm_at "PE") (PE.op2 (PE.callF (.builtin "len") (glob_bi (by wtm_at "ENVOK") S (n_len _) b_len (by decide) (by wtm_at "KIND")) (by kernel_rfl!) keep_bi (by wtm_at "PLS") PKw.nil (OpN.len_lst (by rw [List.length_map]; lia)) rfl) (by wtm_at "PE") Op2.sub_int) Op2.ne_int rfl)
        fun _ => PB.cmp (PE.callF (.builtin "len") (glob_bi (by wtm_at "ENVOK") S (n_len _) b_len (by decide) (by wtm_at "KIND")) (by kernel_rfl!) keep_bi (PLs.cons (PE.nameF F2 (by wtm_at "LOOK") (by kernel_rfl!)) PLs.nil) PKw.nil (OpN.len_hdr S2 (fn_len (k := 0) (by rw [hVl2]; lia)) (by exact Nat.le_add_left _ _) (by rw [hVl2]; omega)) rfl) (PE.callF (.builtin "len") (glob_bi (by wtm_at "ENVOK") S (n_len _) b_len (by decide) (by wtm_at "KIND")) (by kernel_rfl!) keep_bi (PLs.cons (PE.nameF F2 (by wtm_at "LOOK") (by kernel_rfl!)) PLs.nil) PKw.nil (OpN.len_lst (by rw [List.length_map]; omega)) rfl) Op2.ne_int rfl) (c := false) ?_) rfl fun s14 t14 => ?_
      · rw [hVl2, List.length_map]
        have e1 : ((-first + (W.length : Int)) != ((W.length : Int) - first)) = false := by
          have : -first + (W.length : Int) = (W.length : Int) - first := by lia
          rw [this]; simp
        rw [e1]; simp
      have S := t14.t.S0
      have F := t14.t.F0
      have hbm : mOf n0 b < 65536 := m_lt hn0 hb12
      have hbm0 : mOf n0 b ≠ 0 := by unfold mOf; lia
      have hab : (first % 4096 + b).natAbs = mOf n0 b := by rw [e0]; unfold mOf; exact ar10 (by assumption)
      refine tx_assign t14 f rm (PE.meth (PE.to (d' := .lst ((W.map fun i => bigL (mOf n0 i)).map D.str)) (PE.comp1m D.str inj_str ((W.map (entH n0 (figAt dress))).map (·.1)) (fun x => .str (Txt.upper x)) (vmF := []) (bs := fun d => [("name", d)]) S F (I.comp (by kernel_rfl!) rfl (by kernel_rfl!) (by kernel_rfl!)) (by wtm_at "PE") (OpIter.list S) HV.nil
        (fun p _ C => Asg.nameC (by kernel_rfl!) (by kernel_rfl!)) (fun d hd x e q => nomatch q) (fun x hx W h' C _ S F => ?_) (by rw [List.length_map]; lia)) (by rw [← uppers_are (fig := figAt dress), List.map_map (g := D.str)]; rfl))
        (PLs.cons (PE.to (d' := .str (bigL (mOf n0 b))) (PE.meth (PE.callF (.ref 58) (glob_of (by wtm_at "ENVOK") S (g_Int2AP _) (by wtm_at "KIND")) (by kernel_rfl!) (kp_58 S) (PLs.cons (PE.op2 (PE.op2 (by wtm_at "PE") (by wtm_at "PE") (Op2.mod_int (by decide))) (by wtm_at "PE") Op2.add_int) PLs.nil) PKw.nil ((fn_int2ap (k := 0) (by rw [hab]; lia)).opN S (by exact Nat.le_add_left _ _)) rfl) (by wtm_at "PLS") PKw.nil (OpM.decode (ap_low _) (by rw [ap_size, hab]; have := big_len hbm; lia) (by rw [hab]; exact ap_ne hbm0))) (by rw [hab, apB_text])) PLs.nil) PKw.nil
        (OpM.index (j := c) (by rw [List.length_map]; exact hc) (by rw [List.length_map]; omega) (hbb ▸ idx_of PW hc))) (I.kindOk (by kernel_rfl!) (by kernel_rfl!)) (I.swap0 (by with_unfolding_all rfl)) fun s15 t15 => ?_
      · have hu : (Txt.upper x).length ≤ 16777216 := by
          obtain ⟨y, hy, rfl⟩ := List.mem_map.mp hx
          obtain ⟨i, hi, rfl⟩ := List.mem_map.mp hy
          have h2 := PW.hi i hi
          show (Txt.upper (nameH (mOf n0 i) (figAt dress i))).length ≤ _
          rw [upper_nameH]; have := big_len (m_lt hn0 h2); lia
        have F : Fm W _ [("name", .str x)] h' := F
        exact PE.meth (by wtm_at "PE") PLs.nil PKw.nil (OpM.upper hu)
      have S := t15.t.S2
      have F := t15.t.G2.alt (y := "there") (by wtm_at "LOOK") t15.t.h2
      have hcv : W.length - 1 - c < V.length := by rw [hVl]; exact ar7 (by assumption)
      have hv : V.getD (W.length - 1 - c) 0 ∈ V := by simp [List.getD, hcv]
      have hv1 := PV.lo _ hv
      have hv12 := PV.hi _ hv
      have hvat : (((V.map (entT n0 (figAt dress))).map (·.1)).map D.str)[(-first + (W.length : Int) + first - 1 - c).toNat]? = some (.str (nameT (mOf n0 (V.getD (W.length - 1 - c) 0)) (figAt dress (V.getD (W.length - 1 - c) 0)))) := by
        have e1 : (-first + (W.length : Int) + first - 1 - c).toNat = W.length - 1 - c := by exact ar9
        rw [e1, List.getElem?_map, List.getElem?_map, List.getElem?_map, List.getElem?_eq_getElem hcv]
        simp [List.getD, hcv, entT]
      generalize hvv : V.getD (W.length - 1 - c) 0 = v' at hv hv1 hv12 hvat
      have hvm : mOf n0 v' < 65536 := m_lt hn0 hv12
      have hVes : (V.map (entT n0 (figAt dress))).length ≤ 1000 := by rw [hVl2]; lia
      refine tx_assign t15 f rm (PE.atom (M := B2 M env l1 T) (PE.sub (PE.meth (by wtm_at "PE") (by wtm_at "PLS") PKw.nil (OpM.inst S (c_keys w) (t_keys w) (by kernel_rfl!) kp_200 (fn_keys (k := 0) hVes) (by exact Nat.le_add_left _ _))) (by wtm_at "PE") (item_lstR rfl (by lia) hvat (by lia))) rfl) (I.kindOk (by kernel_rfl!) (by kernel_rfl!)) (I.swap0 (by with_unfolding_all rfl)) fun s16 t16 => ?_
      have S := t16.t.S2
      have F := t16.t.G2.alt (y := "there") (by wtm_at "LOOK") t16.t.h2
      have lT := len_nameT hvm (figAt dress v')
      have lH := len_nameH hvm (figAt dress v')
      have gsH : Good (Txt.lower (nameH (mOf n0 v') (figAt dress v'))) := by rw [lower_nameH]; exact good_small hvm
      have hlk : lookH (V.map (entT n0 (figAt dress))) (nameH (mOf n0 v') (figAt dress v')) = .str (replyOf v' (figAt dress v')) := by
        rw [look_at PV hn0 (lower_nameH _ _) hv1, if_pos hv]
      refine tx_assign t16 f rm (PE.atom (M := B2 M env l1 T) (PE.to (PE.sub (by wtm_at "PE") (PE.to (PE.meth (by wtm_at "PE") PLs.nil PKw.nil (OpM.swapcase (by rw [swap_nameT]; lia))) (congrArg D.str (swap_nameT _ _))) (getitem_hdr S (fn_getitem (k := 0) (by lia) gsH (goodT PV hn0)) (by exact Nat.le_add_left _ _) (fun x i => by with_unfolding_all rfl))) hlk) rfl) (I.kindOk (by kernel_rfl!) (by kernel_rfl!)) (I.swap0 (by with_unfolding_all rfl)) fun s17 t17 => ?_
      have S := t17.t.S0
      have F := t17.t.F0
      have hrep := rep_in (f := figAt dress v') hv1 hv12
      generalize hff : figAt dress v' = fg at hrep t17 F lT lH gsH hlk
      generalize hrr : replyOf v' fg = rep at hrep t17 F hlk
      have hlr := hrep.len
      have hs1 : ∀ lo hi, (Txt.slice rep lo hi).length ≤ 20 := fun lo hi => Nat.le_trans (Txt.slice_le rep lo hi) hlr
      refine tx_assign t17 f rm (PE.to (d' := .lst [.str rep, .str (v228 rep), .str (v6 rep), .str (vA rep)]) (PE.list S (PLt.pls (PLt.any (by wtm_at "PE") (PLt.any (PE.op2 (by wtm_at "PE") (PE.slice (by wtm_at "PE") PO.lit PO.none PO.none (OpS.str (Nat.le_trans hlr (by decide)) fun t a => ⟨_, by with_unfolding_all rfl⟩)) (Op2.add_str (a := 3) (b := 20) (by unfold Ln; decide +kernel) (hs1 _ _) (by decide)))
        (PLt.made (PEo.add (PEo.slice F (by wtm_at "LOOK") (by kernel_rfl!) POn.none POn.lit (Nat.le_trans hlr (by decide)) fun t a => ⟨_, by with_unfolding_all rfl⟩) (PEo.slice F (by wtm_at "LOOK") (by kernel_rfl!) POn.lit POn.none (Nat.le_trans hlr (by decide)) fun t a => ⟨_, by with_unfolding_all rfl⟩) (by have := hs1 none (some 6); have := hs1 (some 5) none; lia))
        (PLt.one (PEt.replace1 (PEt.name F (by wtm_at "LOOK") (by kernel_rfl!)) (by lia) hrep.occ (by have := okE_len hrep.ends; lia))))))) (Nat.le_of_ble_eq_true (by kernel_rfl!))) rfl) (I.kindOk (by kernel_rfl!) (by kernel_rfl!)) (I.swap0 (by with_unfolding_all rfl)) fun s18 t18 => ?_
      have S := t18.t.S0
      have F := t18.t.F0
      generalize hoo : nameT (mOf n0 v') fg = other at t18 F lT
      obtain ⟨frB, frM⟩ := t18.t.frs Fr
      have hmap : ([.str rep, .str (v228 rep), .str (v6 rep), .str (vA rep)] : List D).map (toldD v'.toNat (.str other)) = [.tup [.str other, .int (v'.toNat : Nat)], .str "code", .str "marks", .str "marks"] := by
        simp only [List.map_cons, List.map_nil]
        rw [toldD_self hrep.ok, toldD_code hrep.code, toldD_more hrep.more, toldD_ends hrep.ends]
      refine run_assign_compX (vmF := [("other", .str other), ("place", .int (1 + (j : Int)))]) (bs := fun d => [("one", d)]) (g := toldD v'.toNat (.str other)) t18.t.run Fr frB rm (I.kindOk (by kernel_rfl!) (by kernel_rfl!)) (I.comp (by kernel_rfl!) rfl (by kernel_rfl!) (by kernel_rfl!)) (by wtm_at "PE") (OpIter.list S) (HV.cons (by wtm_at "LOOK") (by kernel_rfl!) (HV.cons (by wtm_at "LOOK") (by kernel_rfl!) HV.nil))
        (fun p _ C => Asg.nameC (by kernel_rfl!) (by kernel_rfl!)) (fun d hd => off1 (by kernel_rfl!)) (fun d hd W' s' C _ S F FrW => ?_) (Nat.le_of_ble_eq_true (by kernel_rfl!)) (I.swap1 (by with_unfolding_all rfl)) fun s19 R19 e19 => ?_
      · obtain ⟨x, rfl, hx⟩ : ∃ x, d = .str x ∧ (okB x v'.toNat = true ∨ okC x = true ∨ okN x = true ∨ okE x = true) := by
          simp only [List.mem_cons, List.not_mem_nil, or_false] at hd
          rcases hd with rfl | rfl | rfl | rfl
          · exact ⟨_, rfl, .inl hrep.ok⟩
          · exact ⟨_, rfl, .inr (.inl hrep.code)⟩
          · exact ⟨_, rfl, .inr (.inr (.inl hrep.more))⟩
          · exact ⟨_, rfl, .inr (.inr (.inr hrep.ends))⟩
        have F : Fm W' _ [("one", .str x), ("other", .str other), ("place", .int (1 + (j : Int)))] s'.heap := F
        exact eval_callX (k := k + 6) rm S FrW (glob_of (by wtm_at "ENVOK") S (g_law_told _) (by wtm_at "KIND")) (by kernel_rfl!) (kp_283 S) (PLs.cons (by wtm_at "PE") (PLs.cons (by wtm_at "PE") PLs.nil)) (told_any (j := k + 4) hx) (by rfl)
      rw [hmap] at R19
      have t19 := t18.ownX f frM R19 e19
      have S := t19.t.S0
      have F := t19.t.F0
      refine tx_ifF t19 rm (PB.to (PB.or2 (PB.cmp (PE.sub (PE.sub (by wtm_at "PE") (by wtm_at "PE") (item_lst (i := 0) rfl rfl (by decide) rfl (by decide))) (by wtm_at "PE") (tup_itemR (i := 0) rfl (by decide) rfl (by decide))) (by wtm_at "PE") Op2.ne_str rfl)
        fun _ => PB.cmp (PE.slice (by wtm_at "PE") PO.lit PO.none PO.none (OpS.list S (by decide) (Nat.le_of_ble_eq_true (by kernel_rfl!)) [.str "code", .str "marks", .str "marks"] (fun vs _ M h r => pick1 r) fun a b => ⟨_, by with_unfolding_all rfl⟩)) (PE.to (d' := .lst ((["code", "marks", "marks"] : List Str).map D.str)) (by wtm_at "PE") (by rfl)) (Op2.ne_list (ι := D.str) (xs := ["code", "marks", "marks"]) (ys := ["code", "marks", "marks"]) fun M => EqOk.str) rfl) (c := false) (by simp)) rfl fun s20 t20 => ?_
      have S := t20.t.S0
      have F := t20.t.F0
      obtain ⟨vsT, hPT, hrT⟩ := t20.t.tl
      have htsl : ts.length ≤ 12 := by
        have := hi.tot
        rw [this, List.length_append] at htl
        lia
      have hcast : ((v'.toNat : Nat) : Int) = v' := by lia
      refine run_lappend (K := FK w) (P := T) (vs := vsT) (ds := ts.map pairD) (d := pairD (v', 1 + (j : Int))) t20.t.run.run rm (by wtm_at "LOOK") (by kernel_rfl!) (.inr f.fT) (.inr (.inr (.inr rfl))) (nl_of f.nT).1 (nl_of f.nT).2 hPT hrT (by rw [List.length_map]; lia)
        (PE.to (PE.tuple S (PLs.cons (PE.sub (PE.sub (by wtm_at "PE") (by wtm_at "PE") (item_lst (i := 0) rfl rfl (by decide) rfl (by decide))) (by wtm_at "PE") (tup_itemR (i := 1) rfl (by decide) rfl (by decide))) (PLs.cons (by wtm_at "PE") PLs.nil)) (Nat.le_of_ble_eq_true (by kernel_rfl!))) (by rw [hcast])) (fun s21 vs21 R21 hP21 hr21 e21 => ?_) (I.inter rfl) (I.swap0 (by with_unfolding_all rfl)) rfl rfl rfl
      have t21 := t20.push R21 f e21 hP21 hr21
      have S := t21.t.S1
      have F := t21.t.G1
      have lTb := len_nameT hbm (figAt dress b)
      have lHb := len_nameH hbm (figAt dress b)
      have hlb : Txt.lower (nameT (mOf n0 b) (figAt dress b)) = smallL (mOf n0 (W.getD c 0)) := by rw [lower_nameT, hbb]
      have gsb : Good (Txt.lower (nameT (mOf n0 b) (figAt dress b))) := by rw [lower_nameT]; exact good_small hbm
      have hat : (((W.map (entH n0 (figAt dress))).map (·.1)).map D.str)[((c : Nat) : Int).toNat]? = some (.str (nameH (mOf n0 b) (figAt dress b))) := by
        rw [show (((c : Nat) : Int).toNat) = c by lia, List.getElem?_map, List.getElem?_map, List.getElem?_map, List.getElem?_eq_getElem hc]
        have : W[c] = b := by rw [← hbb]; simp [List.getD, hc]
        simp [this, entH]
      refine del_mut (x := x1) (l := l1) rm S f.o1 (F.looks (by wtm_at "LOOK")) (by kernel_rfl!) t21.t.h1 (fn_delitem (k := k + 3) (by lia) gsb (goodHH PW hn0) hes) (by exact Nat.le_refl _)
        (PE.to (PE.meth (PE.sub (by wtm_at "PE") (by wtm_at "PE") (item_lst rfl rfl (by lia) hat (by lia))) PLs.nil PKw.nil (OpM.swapcase (by rw [swap_nameH]; lia))) (congrArg D.str (swap_nameH _ _))) fun s22 same22 e22 H22 => ?_
      have ed : dropH (W.map (entH n0 (figAt dress))) (nameT (mOf n0 b) (figAt dress b)) = (W.eraseIdx c).map (entH n0 (figAt dress)) := drop_gen (ent := entH n0 (figAt dress)) PW hn0 (fun i => lower_nameH (mOf n0 i) (figAt dress i)) hc hlb
      rw [ed] at H22
      have t22 := t21.mut1 f same22 e22 H22
      have S := t22.t.S2
      have F := t22.t.G2
      have gso : Good (Txt.lower other) := by rw [← hoo, lower_nameT]; exact good_small hvm
      have hsw : Txt.swapcase other = nameH (mOf n0 v') fg := by rw [← hoo, swap_nameT]
      have hlv : Txt.lower (nameH (mOf n0 v') fg) = smallL (mOf n0 (V.getD (W.length - 1 - c) 0)) := by rw [lower_nameH, hvv]
      refine del_mut (x := x2) (l := l2) rm S f.o2 (F.looks (by wtm_at "LOOK")) (by kernel_rfl!) t22.t.h2 (fn_delitem (k := k + 3) (by lia) gsH (goodT PV hn0) hVes) (by exact Nat.le_refl _)
        (PE.to (PE.meth (by wtm_at "PE") PLs.nil PKw.nil (OpM.swapcase (by rw [hsw]; lia))) (congrArg D.str hsw)) fun s23 same23 e23 H23 => ?_
      have ed : dropH (V.map (entT n0 (figAt dress))) (nameH (mOf n0 v') fg) = (V.eraseIdx (W.length - 1 - c)).map (entT n0 (figAt dress)) := drop_gen (ent := entT n0 (figAt dress)) PV hn0 (fun i => lower_nameT (mOf n0 i) (figAt dress i)) hcv hlv
      rw [ed] at H23
      have t23 := t22.mut2 f same23 e23 H23
      refine run_end ⟨⟨W.eraseIdx c, V.eraseIdx (W.length - 1 - c), ts ++ [(v', 1 + (j : Int))], .inr ⟨c, rfl, rfl, rfl, rfl, by rw [hvv]⟩, ⟨t23.t.sub ?_, t7'.e.trans t23.e⟩⟩, t23.e⟩
      refine sub_of fun p hp => ?_
      simp only [List.mem_cons, List.not_mem_nil, or_false] at hp
      rcases hp with rfl | rfl | rfl | rfl | rfl | rfl | rfl | rfl | rfl <;> wtm_at "LOOK"
    · rintro s7 ⟨W', V', ts', hh, t7⟩
      rw [hfilt, List.length_map] at hh
      obtain ⟨hn, w1, w2, lo1, lo2⟩ := hi.half ho hh
      have S := t7.t.S0
      have F := t7.t.F0
      have hop : (!decide (beginsAt ties (1 + (j : Int)) = [])) = o := by rw [hi.opens ho]; cases o <;> rfl
      have hbeg : ((ties.filter fun t => t.1 == 1 + (j : Int)).map fun t => D.int t.1) = (beginsAt ties (1 + (j : Int))).map D.int := by unfold beginsAt; rw [List.map_map]; rfl
      refine tx_if (b := o) rm (PB.to (PB.cmp (PE.to (PE.comp1f pairD inj_pair ties (fun t => t.1 == 1 + (j : Int)) (fun t => D.int t.1) (vmF := [("place", .int (1 + (j : Int)))]) (bs := fun d => match d with | .tup [a, b] => [("j", b), ("i", a)] | _ => []) S F (I.comp (by kernel_rfl!) rfl (by kernel_rfl!) (by kernel_rfl!)) (by wtm_at "PE") (OpIter.list S) (HV.cons (by wtm_at "LOOK") (by kernel_rfl!) HV.nil)
        (fun p _ C => Asg.pairC (by kernel_rfl!) (by kernel_rfl!) (by kernel_rfl!) (by kernel_rfl!)) (fun d hd => ?_) (fun p _ W h' C _ S F => ?_) (by omega)) (congrArg D.lst hbeg)) (PE.to (d' := .lst (([] : List Int).map D.int)) (PE.list S PLs.nil (by decide)) (by rfl)) (Op2.ne_list fun M => EqOk.int) rfl) hop) (fun e8 s8 k8 => ?_) fun e8 s8 k8 => ?_
      · obtain ⟨x, _, rfl⟩ := List.mem_map.mp hd; exact off2 (by kernel_rfl!)
      · have F : Fm W _ [("j", .int p.2), ("i", .int p.1), ("place", .int (1 + (j : Int)))] h' := F
        exact ⟨PB.cmp (by wtm_at "PE") (by wtm_at "PE") Op2.eq_int rfl, fun _ => by wtm_at "PE"⟩
      · subst e8
        have t8 := t7.pure k8
        have S := t8.t.S0
        have F := t8.t.F0
        have hp1 : 1 ≤ 1 + (j : Int) := by lia
        have hp12 : 1 + (j : Int) ≤ 12 := by lia
        have hp0 : 0 ≤ 1 + (j : Int) := by lia
        have hab : (-(first % 4096) - (1 + (j : Int))).natAbs = mOf n0 (1 + (j : Int)) := by rw [e0]; unfold mOf; exact ar11
        have hm : mOf n0 (1 + (j : Int)) < 65536 := m_lt hn0 hp12
        have hm0 : mOf n0 (1 + (j : Int)) ≠ 0 := by unfold mOf; lia
        generalize hmm : mOf n0 (1 + (j : Int)) = m at hab hm hm0
        generalize hff : figAt dress (1 + (j : Int)) = fg at t8 F
        have hrep := rep_in (f := fg) hp1 hp12
        generalize hrr : replyOf (1 + (j : Int)) fg = rep at hrep
        refine tx_assign2s t8 f rm (PE.to (d' := .tup [.str (bigL m), .str rep]) (PE.tuple S (PLs.cons (PE.meth (PE.callF (.ref 58) (glob_of (by wtm_at "ENVOK") S (g_Int2AP _) (by wtm_at "KIND")) (by kernel_rfl!) (kp_58 S) (PLs.cons (PE.op2 (PE.unop (PE.op2 (by wtm_at "PE") (by wtm_at "PE") (Op2.mod_int (by decide))) Op1.neg_int) (by wtm_at "PE") Op2.sub_int) PLs.nil) PKw.nil ((fn_int2ap (k := 0) (by rw [hab]; lia)).opN S (by exact Nat.le_add_left _ _)) rfl) (by wtm_at "PLS") PKw.nil (OpM.decode (ap_low _) (by rw [ap_size, hab]; have := big_len hm; lia) (by rw [hab]; exact ap_ne hm0)))
          (PLs.cons (PE.callF (.ref 264) (glob_of (by wtm_at "ENVOK") S (g_law_reply _) (by wtm_at "KIND")) (by kernel_rfl!) (kp_264 S) (by wtm_at "PLS") PKw.nil ((fn_reply (k := 0) hp0 hp12).opN S (by exact Nat.le_add_left _ _)) rfl) PLs.nil)) (Nat.le_of_ble_eq_true (by kernel_rfl!))) (by rw [hab, apB_text, hrr])) (I.kindOk (by kernel_rfl!) (by kernel_rfl!)) (I.kindOk (by kernel_rfl!) (by kernel_rfl!)) (I.swap0 (by with_unfolding_all rfl)) (I.stores (by with_unfolding_all rfl)) fun s9 t9 => ?_
        have htx := txt_at fg
        have hgrep : Good rep := ⟨hrep.plain, by have := hrep.len; lia⟩
        have S := t9.t.S1
        have F := t9.t.G1
        have PW := pl_of w1 lo1 (by lia)
        have PV := pl_of w2 lo2 (by omega)
        refine run_ifF (wpAny_isTrue_Compare1 (meth_mut (x := x1) (l := l1) (es := W'.map (entH n0 (figAt dress))) (f := 245) (as := [.str (nameH m fg), .str rep]) (ks := [("t", .str (textOf fg))]) (j := k + 3) rm S f.o1 (F.looks (by wtm_at "LOOK")) (by kernel_rfl!) t9.t.h1 (c_add_header w) (t_add_header w) (by kernel_rfl!) kp_245
          (fn_add_header (good_nameH hm fg) hgrep ⟨htx.plain, by have := htx.len; lia⟩ (by have := htx.q1; lia) (by have := htx.q2; lia) (by have := htx.plen; lia) (by rw [List.length_map]; have := PW.len; lia)) (by wtm_at "OM")
          (PLs.cons (PE.to (PE.ite2 (d := .str (smallL m)) (d' := .str (bigL m)) (PB.val (by wtm_at "PE") OpT.int) (fun _ => PE.to (PE.meth (by wtm_at "PE") PLs.nil PKw.nil (OpM.lower (by rw [lower_big]; have := small_len hm; lia))) (congrArg D.str (lower_big m))) fun _ => by wtm_at "PE") ite_str) (by wtm_at "PLS")) (PKw.cons (PE.callF (.ref 271) (glob_of (by wtm_at "ENVOK") S (g_law_text _) (by wtm_at "KIND")) (by kernel_rfl!) (kp_271 S) (by wtm_at "PLS") PKw.nil ((fn_text (k := 0)).opN S (by exact Nat.le_add_left _ _)) rfl) PKw.nil) fun v s10 same e rv H => ?_) (by rfl))
        have eH : W'.map (entH n0 (figAt dress)) ++ [(nameH m fg, entOf rep (textOf fg))] = (P.opened true (1 + (j : Int)) W').map (entH n0 (figAt dress)) := by
          show _ = (W' ++ [1 + (j : Int)]).map _
          rw [List.map_append, List.map_singleton]
          unfold entH
          rw [hmm, hff, hrr]
        have t10 := t9.mut1 f same e (eH ▸ H)
        refine cmp_tail (N := B2 M env l2 T) (k := k + 6) rm rv PE.none' Op2.isNot_none fun s11 k11 => ⟨rfl, ?_⟩
        have t11 := t10.pure k11
        have S := t11.t.S0
        have F := t11.t.F0
        refine tx_assign t11 f rm (PE.to (d' := .str (nameT m fg)) (PE.ite2 (d := .str (bigL m)) (d' := .str (smallL m)) (PB.val (by wtm_at "PE") OpT.int) (fun _ => by wtm_at "PE") (fun _ => PE.to (PE.meth (by wtm_at "PE") PLs.nil PKw.nil (OpM.lower (by rw [lower_big]; have := small_len hm; omega))) (congrArg D.str (lower_big m)))) ite_str) (I.kindOk (by kernel_rfl!) (by kernel_rfl!)) (I.swap0 (by with_unfolding_all rfl)) fun s12 t12 => ?_
        have S := t12.t.S2
        have F := t12.t.G2
        have hlow : Txt.lower (nameT m fg) = smallL (mOf n0 (1 + (j : Int))) := by rw [lower_nameT, hmm]
        have hlowH : Txt.lower (nameH m fg) = smallL (mOf n0 (1 + (j : Int))) := by rw [lower_nameH, hmm]
        have hnot : ¬ (1 + (j : Int)) ∈ V' := fun z => by have := w2.lt _ z; lia
        have eT : V'.map (entT n0 (figAt dress)) ++ [(nameT m fg, rep)] = (P.opened true (1 + (j : Int)) V').map (entT n0 (figAt dress)) := by
          show _ = (V' ++ [1 + (j : Int)]).map _
          rw [List.map_append, List.map_singleton]
          unfold entT
          rw [hmm, hff, hrr]
        have PV2 : Pl (P.opened true (1 + (j : Int)) V') := pl_of (w2.opened true) (lo_opened lo2 (by omega)) (by lia)
        have hlk : lookH ((P.opened true (1 + (j : Int)) V').map (entT n0 (figAt dress))) (nameH m fg) = .str rep := by
          rw [look_at PV2 hn0 hlowH (by omega), if_pos (show 1 + (j : Int) ∈ P.opened true (1 + (j : Int)) V' from List.mem_append_right V' (List.mem_singleton.mpr rfl)), hff, hrr]
        have hlk0 : lookH (V'.map (entT n0 (figAt dress))) (nameT m fg) = .none := by
          rw [look_at PV hn0 hlow (by omega), if_neg hnot]
        have lT := len_nameT hm fg
        have lH := len_nameH hm fg
        have gsT : Good (Txt.lower (nameT m fg)) := by rw [lower_nameT]; exact good_small hm
        have gsH : Good (Txt.lower (nameH m fg)) := by rw [lower_nameH]; exact good_small hm
        refine run_ifF (wpAny_isTrue_Compare1 (two_muts (x := x2) (l := l2) (es := V'.map (entT n0 (figAt dress))) (es' := (P.opened true (1 + (j : Int)) V').map (entT n0 (figAt dress))) (es'' := (P.opened true (1 + (j : Int)) V').map (entT n0 (figAt dress))) (f := 238) (as1 := [.str (nameT m fg), .str rep]) (as2 := [.str (nameH m fg), .str (Str.ofString "x")]) (d1 := .str rep) (d2 := .str rep) (j := k + 4) rm S f.o2 (fun h' e => (t12.t.fm2 f e).looks (by wtm_at "LOOK")) (by kernel_rfl!) t12.t.h2 (c_setdefault w) (t_setdefault w) (by kernel_rfl!) kp_238
          (eT ▸ fn_setdefault_new (by lia) (good_nameT hm fg) gsT hgrep (goodT PV hn0) (by rw [List.length_map]; have := PV.len; omega) hlk0) (fn_setdefault_old (by lia) gsH (goodT PV2 hn0) hlk) (by wtm_at "OM") rfl (by wtm_at "PLS") (fun h' e S => by have F := t12.t.fm2 f e; exact PLs.cons (PE.to (PE.meth (by wtm_at "PE") PLs.nil PKw.nil (OpM.swapcase (by rw [swap_nameT]; lia))) (congrArg D.str (swap_nameT m fg))) (by wtm_at "PLS")) fun s13 s14 same e H2 k14 v rv => ?_) (by rfl))
        have t13 := (t12.mut2 f same e H2).pure k14
        have S := t13.t.S2
        have F := t13.t.G2
        refine cmp_tail (N := B2 M env l1 T) (k := k + 6) (d := .lst ([rep, rep].map D.str)) rm rv (PE.to (d' := .lst ([rep, rep].map D.str)) (by wtm_at "PE") (by rfl)) (Op2.to (Op2.ne_list fun M => EqOk.str) (congrArg D.bool (show (!decide ([rep, rep] = [rep, rep])) = false by rw [decide_eq_true rfl]; rfl))) fun s15 k15 => ⟨rfl, ?_⟩
        have t15 := t13.pure k15
        have S := t15.t.S0
        have F := t15.t.F0
        have hlr := hrep.len
        obtain ⟨hasc, out, hst, hdp⟩ := depth_reply (f := fg) hp1 hp12
        rw [hrr] at hasc hst
        have hsz : (rep ++ tailQ).length ≤ 40 := by
          have : tailQ.length = 10 := by decide +kernel
          rw [Str.length_append]; lia
        refine tx_ifF t15 rm (PB.to (PB.cmp (PE.callF (.ref 51) (glob_of (by wtm_at "ENVOK") S (g_paren_depth _) (by wtm_at "KIND")) (by kernel_rfl!) (kp_51 S) (PLs.cons (PE.meth (d := .bytes (encB (rep ++ tailQ))) (PE.op2 (by wtm_at "PE") (by exact PE.lit_str) (Op2.add_str (a := 20) (b := 10) hlr (by unfold Ln; decide +kernel) (by decide))) (by wtm_at "PLS") PKw.nil (OpM.encode2 hasc (Nat.le_trans hsz (by decide)))) PLs.nil) PKw.nil ((fn_depth1 (k := 0) (by rw [enc_size hasc]; lia) hst).opN S (by exact Nat.le_add_left _ _)) rfl) (by wtm_at "PE") Op2.ne_int rfl) (by rw [hdp]; rfl)) rfl fun s16 t16 => ?_
        refine run_end (run_end ⟨⟨_, _, ts', hn, t16.t.sub ?_⟩, t16.e⟩)
        refine sub_of fun p hp => ?_
        simp only [List.mem_cons, List.not_mem_nil, or_false] at hp
        rcases hp with rfl | rfl | rfl | rfl | rfl | rfl | rfl <;> wtm_at "LOOK"
      · subst e8
        have t8 := t7.pure k8
        refine run_end ⟨⟨W', V', ts', hn, t8.t.sub ?_⟩, t8.e⟩
        refine sub_of fun p hp => ?_
        simp only [List.mem_cons, List.not_mem_nil, or_false] at hp
        rcases hp with rfl | rfl | rfl | rfl | rfl | rfl | rfl <;> wtm_at "LOOK"
  · rintro s4 ⟨W, V, ts, hi, t⟩
    have hl : (rngD 1 13).length = ops.length := hlen ▸ rfl
    rw [hl] at hi
    obtain ⟨rfl, rfl, rfl⟩ := hi.stop
    have S := t.S0.sub (fun a m => .inl m : ∀ a, Mof M env a → B3 M env l1 l2 T a)
    have sw1 : ∀ a, (s4.heap.get? a).isSome = true → ¬ B2 M env l2 T a → ¬ Mof M env a := fun a _ n m => n (.inl m)
    have sw2 : ∀ a, (s4.heap.get? a).isSome = true → ¬ B2 M env l1 T a → ¬ Mof M env a := fun a _ n m => n (.inl m)
    have sw3 : ∀ a, (s4.heap.get? a).isSome = true → ¬ B3 M env l1 l2 T a → ¬ Mof M env a := fun a _ n m => n (.inl m)
    have rT : Rd (Mof M env) s4.heap (.ref T) (.lst (total.map pairD)) := by
      obtain ⟨vs, hP, hr⟩ := t.tl
      exact .lst f.nT hP (hr.swap sw3)
    have F := (((t.F0.swap sw3 (.inr (.inl rfl)) fun x c e => .inr (.inr ⟨x, e⟩)).alt (y := "here") (by wtm_at "LOOK") (t.h1.swap sw1)).alt (y := "there") (by wtm_at "LOOK") (t.h2.swap sw2)).alt (y := "turned") (by wtm_at "LOOK") rT
    refine run_ret rm (d := .lst (total.map pairD)) (PE.ite (c := true) (PB.to (PB.and2 (c := true) (PB.cmp (PE.callF (.type "bytes") (glob_bi (by wtm_at "ENVOK") S (n_bytes _) b_bytes (by decide) (by wtm_at "KIND")) (by kernel_rfl!) keep_ty (by wtm_at "PLS") PKw.nil (OpN.bytes_hdr S (fn_bytes (k := 0) (fitH (hti.plW (by decide)) hn0) (sentH_ascii (hti.plW (by decide)))) (by exact Nat.le_add_left _ _)) rfl) (by wtm_at "PE") (Op2.to Op2.eq_bytes (congrArg D.bool (bytes0 _ _))) rfl) fun _ => (PB.cmp (PE.callF (.builtin "len") (glob_bi (by wtm_at "ENVOK") S (n_len _) b_len (by decide) (by wtm_at "KIND")) (by kernel_rfl!) keep_bi (by wtm_at "PLS") PKw.nil (OpN.len_hdr S (fn_len (k := 0) (by simp)) (by exact Nat.le_add_left _ _) (by simp)) rfl) (by wtm_at "PE") Op2.eq_int rfl)) rfl) (fun _ => by wtm_at "PE") fun e => nomatch e) fun v s' kp r => ?_
    refine ⟨_, RunX.pure ⟨t.run.run.less (fun a m => .inl m) (.inr (.inl rfl)) fun x c e => .inr (.inr ⟨x, e⟩), t.run.up⟩ kp, r⟩
end
end
section
set_option linter.unusedVariables false
open PySem PySem.W PySem.Calls PyProof.Rows PySem.Spec Q
section
variable {w : World} {M : Addr → Prop} {h : Heap} {k : Nat} {env : Env} {vm : List (Str × D)}
noncomputable def basesL : List Int := [180, 219720, 886549880935938, 250]
noncomputable def cellOf (ns : List Int) (k : Int) : Int := basesL.getD k.toNat 0 + (pickL ns (some k) none (some 4)).sum
theorem pow60 {n : Nat} (h : n ≤ 12) : (0 : Int) < 60 ^ n ∧ ((60 : Int) ^ n).natAbs.log2 < 9000 := by
  have e : ((60 : Int) ^ n).natAbs = 60 ^ n := by rw [Int.natAbs_pow]; rfl
  refine ⟨Int.pow_pos (by decide), ?_⟩
  rw [e]
  exact (Nat.log2_lt (Nat.pos_iff_ne_zero.mp (Nat.pow_pos (by decide)))).mpr (Nat.lt_of_le_of_lt (Nat.pow_le_pow_right (by decide) h) (by decide +kernel))
theorem fn_law {ns : List Int} (hn : ns.length ≤ 63) : FnX PP w (FK w) 298 [.lst (ns.map D.int)] (.bool true) (k + 9) := by
  refine FnX.by (k := k + 8) (names := ["script"]) (bds := [.lst (ns.map D.int)]) (by with_unfolding_all rfl) rfl (by kernel_rfl!) ⟨rfl, rfl, rfl, rfl, by decide +kernel, by decide +kernel, by decide +kernel, by decide +kernel⟩ rfl rfl
    (fun M s vs S r1 => by obtain ⟨v, rfl, a⟩ := rdl1 r1; exact ⟨_, BindsTo.of_eq (by kernel_rfl!), .cons a .nil⟩) rfl ?_
  intro M env A₀ A s s₁ I rm Fr R
  simp only [List.zip_cons_cons, List.zip_nil_right] at R
  have O := I.ok rfl
  have S := R.run.sc
  have F := R.run.fm
  refine run_assign R.run rm (PE.to (d' := .lst (basesL.map D.int)) (by wtm_at "PE") (by rfl)) (I.kindOk (by kernel_rfl!) (by kernel_rfl!)) (I.swap0 (by with_unfolding_all rfl)) fun s2 R2 e2 => ?_
  have R2 := R.own R2 e2
  have S := R2.run.sc
  have F := R2.run.fm
  refine run_assign R2.run rm (PE.comp1m D.int inj_int (intsL 0 4) (fun x => D.int (cellOf ns x)) (vmF := [("bases", .lst (basesL.map D.int)), ("script", .lst (ns.map D.int))]) (bs := fun d => [("k", d)]) S F (I.comp (by kernel_rfl!) rfl (by kernel_rfl!) (by kernel_rfl!))
    (by wtm_at "PE") (by rw [← rng_ints]; exact OpIter.rng (by decide) (by decide) (by decide) (by decide)) (HV.cons (by wtm_at "LOOK") (by kernel_rfl!) (HV.cons (by wtm_at "LOOK") (by kernel_rfl!) HV.nil)) (fun p _ C => Asg.nameC (by kernel_rfl!) (by kernel_rfl!)) (fun d hd => off1 (by kernel_rfl!))
    (fun x hx W h' C _ S F => ?_) (by decide +kernel)) (I.kindOk (by kernel_rfl!) (by kernel_rfl!)) (I.swap0 (by with_unfolding_all rfl)) fun s3 R3 e3 => ?_
  · have hx := intsL_mem hx
    have F : Fm W _ [("k", .int x), ("bases", .lst (basesL.map D.int)), ("script", .lst (ns.map D.int))] h' := F
    have hb : (basesL.map D.int)[x.toNat]? = some (.int (basesL.getD x.toNat 0)) := by
      have : x = 0 ∨ x = 1 ∨ x = 2 ∨ x = 3 := by lia
      rcases this with rfl | rfl | rfl | rfl <;> rfl
    exact PE.op2 (PE.sub (by wtm_at "PE") (by wtm_at "PE") (item_lst rfl rfl hx.1 hb (by lia))) (PE.callF (.builtin "sum") (glob_bi (by wtm_at "ENVOK") S (n_sum _) b_sum (by decide) (by wtm_at "KIND")) (by kernel_rfl!) keep_bi (PLs.cons (PE.slice (by wtm_at "PE") (PO.some (M := W) (by wtm_at "PE")) PO.none PO.lit (OpS.pick S (by decide) (by lia) fun a b => ⟨_, by with_unfolding_all rfl⟩)) PLs.nil) PKw.nil OpN.sum rfl) Op2.add_int
  have R3 := R2.own R3 e3
  have hcells : ((intsL 0 4).map fun x => D.int (cellOf ns x)) = [.int (cellOf ns 0), .int (cellOf ns 1), .int (cellOf ns 2), .int (cellOf ns 3)] := rfl
  rw [hcells] at R3
  generalize cellOf ns 0 = c0 at R3
  generalize cellOf ns 1 = c1 at R3
  generalize cellOf ns 2 = c2 at R3
  generalize cellOf ns 3 = c3 at R3
  have S := R3.run.sc
  have F := R3.run.fm
  refine run_assign R3.run rm (PE.to (d' := .lst ((kindsL c0).map D.int)) (PE.op2 (PE.op2 (by wtm_at "PE") (PE.comp1m D.int inj_int (intsL 0 5) (fun x => D.int (c0 / 4 ^ x.toNat % 4)) (vmF := [("cells", .lst [.int c0, .int c1, .int c2, .int c3])]) (bs := fun d => [("k", d)]) S F (I.comp (by kernel_rfl!) rfl (by kernel_rfl!) (by kernel_rfl!))
    (by wtm_at "PE") (by rw [← rng_ints]; exact OpIter.rng (by decide) (by decide) (by decide) (by decide)) (HV.cons (by wtm_at "LOOK") (by kernel_rfl!) HV.nil) (fun p _ C => Asg.nameC (by kernel_rfl!) (by kernel_rfl!)) (fun d hd => off1 (by kernel_rfl!))
    (fun x hx W h' C _ S F => ?_) (by decide +kernel)) (Op2.add_lst S (Nat.le_of_ble_eq_true (by kernel_rfl!)))) (PE.op2 (by wtm_at "PE") (by wtm_at "PE") (Op2.mul_lst S (by decide) (by decide) (by decide))) (Op2.add_lst S (Nat.le_of_ble_eq_true (by kernel_rfl!)))) (by rfl)) (I.kindOk (by kernel_rfl!) (by kernel_rfl!)) (I.swap0 (by with_unfolding_all rfl)) fun s4 R4 e4 => ?_
  · have hx := intsL_mem hx
    have F : Fm W _ [("k", .int x), ("cells", .lst [.int c0, .int c1, .int c2, .int c3])] h' := F
    have hp : (0 : Int) < 4 ^ x.toNat ∧ ((4 : Int) ^ x.toNat).natAbs.log2 < 9000 := by
      have : x = 0 ∨ x = 1 ∨ x = 2 ∨ x = 3 ∨ x = 4 := by lia
      rcases this with rfl | rfl | rfl | rfl | rfl <;> decide +kernel
    exact PE.op2 (PE.op2 (PE.sub (by wtm_at "PE") (by wtm_at "PE") (item_lst (i := 0) rfl rfl (by decide) rfl (by decide))) (PE.op2 (by wtm_at "PE") (by wtm_at "PE") (Op2.pow_int (by decide) (by decide) hx.1 (by lia))) (Op2.div_int hp.1 hp.2)) (by wtm_at "PE") (Op2.mod_int (by decide))
  have R4 := R3.own R4 e4
  refine start_ties Fr R4 rm (I.kindOk (by kernel_rfl!) (by kernel_rfl!)) (I.kindOk (by kernel_rfl!) (by kernel_rfl!)) (I.swap0 (by with_unfolding_all rfl)) (I.stores (by with_unfolding_all rfl)) fun T s5 t5 => ?_
  have t5 : LS w A₀ s M env T [] (("ties", .ref T) :: ("wait", .lst (([] : List Int).map D.int)) :: _) s5 s5 := t5
  have S := t5.S
  have F := t5.F
  refine run_for (K := FK w) (M := N1 M env T) (Inv := fun j s' => ∃ W ties, LInv j W ties ∧ LS w A₀ s M env T ties [("ties", .ref T), ("wait", .lst (W.map D.int)), ("kinds", .lst ((kindsL c0).map D.int)), ("cells", .lst [.int c0, .int c1, .int c2, .int c3])] s5 s') rm S (by wtm_at "PE") (OpIter.rng (by decide) (by decide) (by decide) (by decide))
    (fun s' kp => ⟨[], [], .start, (t5.pure kp).sub (sub_of fun p hp => ?_)⟩) ?_ ?_ ?_
  · simp only [List.mem_cons, List.not_mem_nil, or_false] at hp
    rcases hp with rfl | rfl | rfl | rfl <;> wtm_at "LOOK"
  · rintro I' j s' h' tk f0 ⟨W, ties, hi, t⟩ he ho
    exact ⟨W, ties, hi, t5.step Fr t f0 he ho⟩
  · rintro j d s6 v hd ⟨W, ties, hi, t6'⟩ rv
    obtain ⟨hj, rfl⟩ := rng_at hd
    have hj : j < 12 := hj
    have t6 := t6'.again
    refine ls_bind t6 (I.kindOk (by kernel_rfl!) (by kernel_rfl!)) rv fun s7 t7 => ?_
    have S := t7.S
    have F := t7.F
    have hWl := hi.le
    have htl := hi.tl
    obtain ⟨kd, hkd⟩ : ∃ kd, (kindsL c0)[j]? = some kd := ⟨_, List.getElem?_eq_getElem (by rw [kinds_len]; exact hj)⟩
    have hkd2 : ((kindsL c0).map D.int)[(1 + (j : Int) - 1).toNat]? = some (.int kd) := by
      rw [show (1 + (j : Int) - 1).toNat = j by lia, List.getElem?_map, hkd]; rfl
    refine run_if_mid (c := decide (kd ∈ ([1, 2] : List Int)) && !decide (W = [])) (fun s' => ∃ oc : Option Nat, (∀ c, oc = some c → c < W.length) ∧ (kd = 2 → W ≠ [] → oc ≠ none) ∧ LS w A₀ s M env T (ties ++ t1of oc W (1 + (j : Int))) [("ties", .ref T), ("wait", .lst ((W1of oc W).map D.int)), ("kinds", .lst ((kindsL c0).map D.int)), ("cells", .lst [.int c0, .int c1, .int c2, .int c3]), ("place", .int (1 + (j : Int)))] s6 s') rm
      (PB.and2 (PB.cmp (PE.sub (by wtm_at "PE") (by wtm_at "PE") (item_lst rfl rfl (by lia) hkd2 (by lia))) (PE.to (d' := .tup (([1, 2] : List Int).map D.int)) (by wtm_at "PE") (by rfl)) Op2.in_ints rfl) fun _ => PB.cmp (by wtm_at "PE") (PE.to (d' := .lst (([] : List Int).map D.int)) (PE.list S PLs.nil (by decide)) (by rfl)) (Op2.ne_list fun M => EqOk.int) rfl) ?_ ?_ ?_
    · intro hc s8 k8
      have t8 := t7.pure k8
      have hW : W ≠ [] := by
        have := (Bool.and_eq_true_iff.mp hc).2
        simpa using this
      have hpos : 0 < W.length := List.length_pos_iff.mpr hW
      have S := t8.S
      have F := t8.F
      have RT := (t8.less (by wtm_at "LOOK")).run
      have ST := RT.sc
      have FT := RT.fm
      have hp := pow60 (n := ((ties.map pairD).length : Int).toNat) (by rw [List.length_map]; lia)
      have hlW : 0 < ((W.map D.int).length : Int) := by rw [List.length_map]; lia
      refine ls_assign t8 rm (PE.op2 (PE.op2 (PE.op2 (PE.sub (by wtm_at "PE") (by wtm_at "PE") (item_lst (i := 1) rfl rfl (by decide) rfl (by decide))) (PE.op2 (by wtm_at "PE") (PE.atom (M := Mof M env) (PE.callF (.builtin "len") (glob_bi (by wtm_at "ENVOK") ST (n_len _) b_len (by decide) (by wtm_at "KIND")) (by kernel_rfl!) keep_bi (PLs.cons (PE.nameF FT (by wtm_at "LOOK") (by kernel_rfl!)) PLs.nil) PKw.nil (OpN.len_lst (by rw [List.length_map]; lia)) rfl) rfl) (Op2.pow_int (by decide) (by decide) (by lia) (by rw [List.length_map]; lia))) (Op2.div_int hp.1 hp.2)) (by wtm_at "PE") (Op2.mod_int (by decide)))
        (PE.callF (.builtin "len") (glob_bi (by wtm_at "ENVOK") S (n_len _) b_len (by decide) (by wtm_at "KIND")) (by kernel_rfl!) keep_bi (PLs.cons (PE.nameF F (by wtm_at "LOOK") (by kernel_rfl!)) PLs.nil) PKw.nil (OpN.len_lst (by rw [List.length_map]; lia)) rfl) (Op2.mod_int hlW)) (I.kindOk (by kernel_rfl!) (by kernel_rfl!)) (I.swap0 (by with_unfolding_all rfl)) fun s9 t9 => ?_
      obtain ⟨i, hi1, hi2⟩ : ∃ i : Nat, c1 / 60 ^ ((ties.map pairD).length : Int).toNat % 60 % ((W.map D.int).length : Int) = (i : Int) ∧ i < W.length := by
        have h1 := Int.emod_nonneg (c1 / 60 ^ ((ties.map pairD).length : Int).toNat % 60) (show ((W.map D.int).length : Int) ≠ 0 by lia)
        have h2 := Int.emod_lt_of_pos (c1 / 60 ^ ((ties.map pairD).length : Int).toNat % 60) hlW
        have hlen : ((W.map D.int).length : Int) = (W.length : Int) := by rw [List.length_map]
        rw [hlen] at h1 h2 ⊢
        exact ⟨_, (Int.toNat_of_nonneg h1).symm, by exact (Int.toNat_lt h1).mpr h2⟩
      rw [hi1] at t9
      have S := t9.S
      have F := t9.F
      have hit : (W.map D.int)[((i : Nat) : Int).toNat]? = some (.int (W.getD i 0)) := by
        rw [show ((i : Nat) : Int).toNat = i by lia, List.getElem?_map, List.getElem?_eq_getElem hi2]
        simp [List.getD, hi2]
      obtain ⟨vsT, hPT, hrT⟩ := t9.tl
      refine run_lappend (K := FK w) (P := T) (vs := vsT) (ds := ties.map pairD) (d := pairD (W.getD i 0, 1 + (j : Int))) t9.run.run rm (by wtm_at "LOOK") (by kernel_rfl!) (.inr t9.fT) (.inr rfl) (nl_of t9.nT).1 (nl_of t9.nT).2 hPT hrT (by rw [List.length_map]; lia)
        (PE.tuple S (PLs.cons (PE.sub (by wtm_at "PE") (by wtm_at "PE") (item_lst rfl rfl (by lia) hit (by lia))) (PLs.cons (by wtm_at "PE") PLs.nil)) (Nat.le_of_ble_eq_true (by kernel_rfl!))) (fun s10 vs10 R10 hP10 hr10 e10 => ?_) (I.inter rfl) (I.swap0 (by with_unfolding_all rfl)) rfl rfl rfl
      have t10 := t9.push R10 e10 hP10 hr10
      have S := t10.S
      have F := t10.F
      refine ls_assign t10 rm (PE.to (d' := .lst ((W1of (some i) W).map D.int)) (PE.op2 (PE.slice (by wtm_at "PE") PO.none (PO.some (M := N1 M env T) (by wtm_at "PE")) PO.none (OpS.take (n := i) (ds := W.map D.int) S (by rw [List.length_map]; lia) fun a b => ⟨_, by with_unfolding_all rfl⟩))
        (PE.slice (by wtm_at "PE") (PO.some (M := N1 M env T) (PE.to (d' := .int ((i + 1 : Nat) : Int)) (PE.op2 (by wtm_at "PE") (by wtm_at "PE") Op2.add_int) (by rfl))) PO.none PO.none (OpS.drop (n := i + 1) (ds := W.map D.int) S (by rw [List.length_map]; omega) fun a b => ⟨_, by with_unfolding_all rfl⟩)) (Op2.add_lst S (by rw [List.length_take, List.length_drop, List.length_map]; lia)))
        (by show _ = D.lst ((W.eraseIdx i).map D.int); rw [List.eraseIdx_eq_take_drop_succ, List.map_append, List.map_take, List.map_drop])) (I.kindOk (by kernel_rfl!) (by kernel_rfl!)) (I.swap0 (by with_unfolding_all rfl)) fun s11 t11 => ?_
      refine run_end ⟨rfl, some i, (fun c e => by cases e; exact hi2), (fun _ _ e => nomatch e), t11.sub (sub_of fun p hp => ?_)⟩
      simp only [List.mem_cons, List.not_mem_nil, or_false] at hp
      rcases hp with rfl | rfl | rfl | rfl | rfl <;> wtm_at "LOOK"
    · intro hc s8 k8
      refine ⟨none, (fun c e => nomatch e), fun e1 e2 => ?_, ?_⟩
      · subst e1
        rw [show decide ((2 : Int) ∈ ([1, 2] : List Int)) = true by decide, Bool.true_and, decide_eq_false e2] at hc
        cases hc
      · show LS w A₀ s M env T (ties ++ []) [("ties", .ref T), ("wait", .lst (W.map D.int)), ("kinds", .lst ((kindsL c0).map D.int)), ("cells", .lst [.int c0, .int c1, .int c2, .int c3]), ("place", .int (1 + (j : Int)))] s6 s8
        rw [List.append_nil]
        refine (t7.pure k8).sub (sub_of fun p hp => ?_)
        simp only [List.mem_cons, List.not_mem_nil, or_false] at hp
        rcases hp with rfl | rfl | rfl | rfl | rfl <;> wtm_at "LOOK"
    · rintro s8 ⟨oc, h1, h2, t8⟩
      have S := t8.S
      have F := t8.F
      have hst := fun o : Bool => hi.step oc o h1
      have hl1 : (W1of oc W).length ≤ 12 := by
        cases oc with
        | none => exact Nat.le_trans hWl (by lia)
        | some c => exact Nat.le_trans (List.length_eraseIdx_le ..) (by lia)
      have hlate : 6 ≤ j → kd = 2 := fun q => by rw [kinds_late q hj] at hkd; exact (Option.some.inj hkd).symm
      refine run_if (c := !(kd == 2)) rm (PB.cmp (PE.sub (by wtm_at "PE") (by wtm_at "PE") (item_lst rfl rfl (by lia) hkd2 (by lia))) (by wtm_at "PE") (Op2.to Op2.ne_int (congrArg D.bool (by rfl))) rfl) (fun hc s9 k9 => ?_) fun hc s9 k9 => ?_
      · have t9 := t8.pure k9
        have S := t9.S
        have F := t9.F
        have hne : kd ≠ 2 := by simpa using hc
        refine ls_assign t9 rm (PE.to (d' := .lst ((P.opened true (1 + (j : Int)) (W1of oc W)).map D.int)) (PE.op2 (by wtm_at "PE") (by wtm_at "PE") (Op2.add_lst S (by rw [List.length_map]; simp; lia))) (by show _ = D.lst ((W1of oc W ++ [1 + (j : Int)]).map D.int); rw [List.map_append]; rfl)) (I.kindOk (by kernel_rfl!) (by kernel_rfl!)) (I.swap0 (by with_unfolding_all rfl)) fun s10 t10 => ?_
        refine run_end (run_end ⟨⟨_, _, hst true (fun q => absurd (hlate q) hne) hj, (t10.back t6'.e).sub (sub_of fun p hp => ?_)⟩, t10.e⟩)
        simp only [List.mem_cons, List.not_mem_nil, or_false] at hp
        rcases hp with rfl | rfl | rfl | rfl <;> wtm_at "LOOK"
      · have t9 := t8.pure k9
        have heq : kd = 2 := by simpa using hc
        refine run_end (run_end ⟨⟨W1of oc W, _, hst false (fun q => ⟨rfl, h2 heq⟩) hj, (t9.back t6'.e).sub (sub_of fun p hp => ?_)⟩, t9.e⟩)
        simp only [List.mem_cons, List.not_mem_nil, or_false] at hp
        rcases hp with rfl | rfl | rfl | rfl <;> wtm_at "LOOK"
  · rintro s6 ⟨W, ties, hi, t6⟩
    obtain ⟨ops, hlen, hok, rfl⟩ := LInv.stop (show LInv 12 W ties from hi)
    have R6 := t6.less (by wtm_at "LOOK")
    have hok2 := P.ok_flip 0 ops hok
    have hlen2 : (P.flip 0 ops).length = 12 := by rw [flip_len, hlen]
    have S := R6.run.sc
    have F := R6.run.fm
    refine run_assignX R6 Fr (fun fr => eval_callX (k := k + 8) rm S fr (glob_of (by wtm_at "ENVOK") S (g_law_turned _) (by wtm_at "KIND")) (by kernel_rfl!) (kp_288 S) (PLs.cons (by wtm_at "PE") (PLs.cons (PE.sub (by wtm_at "PE") (by wtm_at "PE") (item_lst (i := 2) rfl rfl (by decide) rfl (by decide))) (PLs.cons (PE.sub (by wtm_at "PE") (by wtm_at "PE") (item_lst (i := 3) rfl rfl (by decide) rfl (by decide))) PLs.nil))) (fn_turned (k := k + 1) hok hlen) rfl) (I.kindOk (by kernel_rfl!) (by kernel_rfl!)) (I.swap0 (by with_unfolding_all rfl)) fun s7 R7 => ?_
    have S := R7.run.sc
    have F := R7.run.fm
    have hl1 : (P.run 1 [] ops).length ≤ 100 := Nat.le_trans (run_len _ _ _) (by lia)
    have hl2 : (P.run 1 [] (P.flip 0 ops)).length ≤ 100 := Nat.le_trans (run_len _ _ _) (by lia)
    refine run_assign2 R7.run rm (PE.callF (.ref 293) (glob_of (by wtm_at "ENVOK") S (g_law_pairs _) (by wtm_at "KIND")) (by kernel_rfl!) (kp_293 S) (by wtm_at "PLS") PKw.nil ((fn_pairs (k := 0) hl1).opN S (by exact Nat.le_add_left _ _)) rfl) (I.kindOk (by kernel_rfl!) (by kernel_rfl!)) (I.kindOk (by kernel_rfl!) (by kernel_rfl!)) (I.swap0 (by with_unfolding_all rfl)) (by rfl) fun s8 R8 e8 => ?_
    have R8 := R7.own R8 e8
    have hc1 := P.cross_run 1 [] ops ⟨.nil, fun _ h => by cases h⟩ hok
    have hc2 := P.cross_run 1 [] (P.flip 0 ops) ⟨.nil, fun _ h => by cases h⟩ hok2
    have e1 : cnt2 crossP (P.run 1 [] (P.flip 0 ops)) = cnt2 nestP (P.run 1 [] ops) := (hc2.1.trans (P.cross_flip 0 ops hok)).trans hc1.2.symm
    have e2 : cnt2 nestP (P.run 1 [] (P.flip 0 ops)) = cnt2 crossP (P.run 1 [] ops) := (hc2.2.trans (P.nest_flip 0 ops hok)).trans hc1.1.symm
    refine .of (wpAny_execs_cons ?_)
    rw [exec_Return_some]
    refine wpAny_bind (wpAny_standAt (wpAny_bind (BoolOp_and (cmpX (c := true) R8 Fr rm (fun fr => eval_callX (k := k + 8) rm R8.run.sc fr (glob_of (by wtm_at "ENVOK") R8.run.sc (g_law_turned _) (by wtm_at "KIND")) (by kernel_rfl!) (kp_288 R8.run.sc) (by have S := R8.run.sc; have F := R8.run.fm; exact PLs.cons (by wtm_at "PE") (PLs.cons (PE.sub (by wtm_at "PE") (by wtm_at "PE") (item_lst (i := 2) rfl rfl (by decide) rfl (by decide))) (PLs.cons (PE.sub (by wtm_at "PE") (by wtm_at "PE") (item_lst (i := 3) rfl rfl (by decide) rfl (by decide))) PLs.nil))) (fn_turned (k := k + 1) hok2 hlen2) rfl)
      (fun s9 R9 => ⟨by have F := R9.run.fm; wtm_at "PE", Op2.to (Op2.eq_list (ι := pairD) fun M => EqOk.pair) (congrArg D.bool (decide_eq_true (by rw [P.flip_flip 0 ops hok])))⟩) fun s9 R9 => ?_))))
    refine wpAny_truthy_bool ?_
    rw [if_pos rfl]
    have S := R9.run.sc
    have F := R9.run.fm
    refine BoolOp_one (PE.use (PE.to (d' := .bool true) (PE.cmp2 (PE.callF (.ref 293) (glob_of (by wtm_at "ENVOK") S (g_law_pairs _) (by wtm_at "KIND")) (by kernel_rfl!) (kp_293 S) (by wtm_at "PLS") PKw.nil ((fn_pairs (k := 0) hl2).opN S (by exact Nat.le_add_left _ _)) rfl) (by wtm_at "PE") (Op2.eq_pair (a := (((cnt2 crossP (P.run 1 [] (P.flip 0 ops)) : Nat) : Int), ((cnt2 nestP (P.run 1 [] (P.flip 0 ops)) : Nat) : Int))) (b := (((cnt2 nestP (P.run 1 [] ops) : Nat) : Int), ((cnt2 crossP (P.run 1 [] ops) : Nat) : Int)))) rfl) (congrArg D.bool (decide_eq_true (by rw [e1, e2])))) rm (Keep.refl _) fun v s10 k10 r10 => wpAny_pure ⟨_, R9.pure k10, r10⟩)
end
end
section
open PySem PySem.W PySem.Calls PyProof.Rows PySem.Spec Q
theorem laid_list {P : Params} {h : Heap} {M : Addr → Prop} {l : Addr} {ns : List Int} {vs : List Value} (W : Well P h (.ref l) (ofPy (.list (ns.map PyData.int)))) (hl : h.IsList l vs.toArray) (hi : IntsAre vs ns) (n : ¬ M l) : Rd M h (.ref l) (.lst (ns.map D.int)) := by
  have e : ofPy (.list (ns.map PyData.int)) = WData.list (ofPys (ns.map PyData.int)) := by simp [ofPy]
  rw [e] at W
  cases W with
  | @list _ us _ ho hw =>
    obtain ⟨o, ho2, _, c, hd⟩ := hl
    rw [ho] at ho2
    cases ho2
    have : us.toArray = vs.toArray := by injection hd
    have : us = vs := by simpa using this
    subst this
    exact .lst n ⟨_, ho⟩ (are_ints hi)
theorem room_caller : Room 9 callerA := ⟨rfl, by decide +kernel, by decide +kernel⟩
theorem g_law (w : World) : nsIn (FK w) mainGlobals "law" = some (some (.ref 298)) := by kernel_rfl
theorem law_addr {w : World} {h : Heap} {mg : Str → Option Value} {fa : Addr} (X : (K0 w.params).In h) (G : h.Ns mainGlobals mg) (hm : mg "law" = some (.ref fa)) : fa = 298 :=
  (Value.ref.inj (Option.some.inj ((mg_of X G (g_law w)).symm.trans hm))).symm
noncomputable abbrev RW0 : OpenRow := PySem.Challenge.rw_yh0021_01.row
theorem sd1 : sreFenced PR.main = true := by kernel_rfl
theorem sd2 : namesResolve PR = true := by kernel_rfl
theorem sd3 : looksOpen PR = true := by
  unfold looksOpen
  rw [sd1, sd2]
  kernel_rfl
theorem sd4 : PySem.Challenge.rw_yh0021_01.row.wellSaid = true := by
  unfold OpenRow.wellSaid OpenRow.partSaid
  rw [sd3]
  kernel_rfl
theorem said0 : PySem.Challenge.rw_yh0021_01.wellSaid = true := by
  unfold OpenLaw.wellSaid
  rw [sd4]
  kernel_rfl
theorem ok0 : (chainsOk (view PR keepL) && opensWell RW0.prog && (frees RW0.toRowW && RW0.within.isEmpty)) = true := by kernel_rfl
theorem bare0 : RW0.prog.bare := ⟨rfl, rfl, rfl, rfl, rfl, by decide +kernel⟩
noncomputable def fPos : Stmt → Pos
  | .FunctionDef _ _ _ _ _ _ _ _ _ p => p
  | _ => ⟨0, 0, 0, 0⟩
noncomputable def dLaw : DefRec := ⟨"law", fArgs (st 25), fBody (st 25), fScope (st 25), fPos (st 25)⟩
theorem def0 : defOf (view PR keepL) RW0.name = some (dLaw, []) := by kernel_rfl
theorem the0 : RW0.prog.theDef RW0.name = some (dLaw.params, dLaw.body, dLaw.scope) := by kernel_rfl
theorem kw0 : kwWritten? dLaw.params.kwonlyargs dLaw.params.kw_defaults = some [] := by kernel_rfl
theorem law_test : PySem.Challenge.rw_yh0021_01.Holds := by
  refine holds_law said0 fun said => ?_
  refine holds_open (r := PySem.Challenge.rw_yh0021_01.row) (q := view PR keepL) (loose := lz) (Xt := XT) (XP := XL (view PR keepL) []) (Yf := HK.obs) (Ya := HK.val) (YP := HK.says) (d := dLaw) (kwd := []) (N := 4290) left0 HK.of HK.keeps (fun s e => xl_of s (Bool.and_eq_true_iff.mp e).1) XL.keeps def0 the0 kw0 (fun s e => recFacts_of (Bool.and_eq_true_iff.mp e).2) (by rfl) said ok0 bare0 ?hw ?hc
  case hw => w_witness2
  case hc =>
    intro w s₀ s₁ mg mb G Y fa o pm cd doc dV kV ho hd' hcd hD hmg hg args vals as hpre hlay hrd hwl hlo
    have X : InK K0 w s₁.heap := Y
    have T := G.T
    obtain rfl := law_addr X T.g (show mg "law" = some (.ref fa) from hmg)
    have S : Sc (FK w) (fun _ => False) s₁.heap := ⟨X, ⟨mb, T.b, T.builtins⟩, T.nolimit, T.nodigits, fun _ z => z.elim, fun _ z => z.elim, id, id⟩
    clear hd' hcd hD hmg G Y X T
    wrow_args hpre hlay hrd hwl hlo
    all_goals
      rename_i hI _ hc _
      rename Well _ _ _ _ => W
      rename Heap.IsList _ _ _ => hL
      refine wpAny_call (codeAny_mono ((fn_law (k := 0) (w := w) (by lia)).go (fun _ => False) callerA s₁ _ room_caller S ⟨rfl, fun e he => by cases he⟩ (.cons (laid_list W hL hI id) .nil)) fun r s' q => ?_)
      obtain ⟨v, rfl, xk, rv⟩ := q
      cases rv
      obtain ⟨⟨h', t', rfl⟩, ext, _⟩ := xk
      exact GoodW.toG ⟨.inl ⟨_, .bool true, [], rfl, fun _ => rfl, .bool _, by wrow_post, fun _ => ⟨.nil, fun a z => by cases z⟩⟩, fun b o z => ext b o (by intro y; cases y) z, rfl, hg⟩
end
end Mine
theorem PySem.Challenge.cw_yh0021_01_holds : PySem.Challenge.rw_yh0021_01.Holds :=
  Mine.law_test
