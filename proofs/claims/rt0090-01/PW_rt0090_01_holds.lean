import PyProof.Rows.All
import Wide.All
import OpenK.AllK
import Wide.FinOn
import PySem.Challenge.RW_rt0090_01
open PySem PySem.W PyProof.Rows
noncomputable def Mine.pre.tw11303205480672726488 : Unit := ()
noncomputable def Mine.pre.tw10563073364756548227 : Unit := ()
noncomputable def Mine.pre.tw17102205396999559717 : Unit := ()
noncomputable def Mine.pre.tw8968097998734182467 : Unit := ()
noncomputable def Mine.pre.tw13998610681445932274 : Unit := ()
noncomputable def Mine.pre.tw12062912935635148413 : Unit := ()
noncomputable def Mine.pre.tw7115694338359070765 : Unit := ()
noncomputable def Mine.pre.tw9301996329200588944 : Unit := ()
noncomputable def Mine.pre.tw2626366989935370169 : Unit := ()
noncomputable def Mine.pre.tw3331539851743825234 : Unit := ()
noncomputable def Mine.pre.tw6832001310311693432 : Unit := ()
noncomputable def Mine.pre.tw7375122672431986911 : Unit := ()
noncomputable def Mine.pre.tw10025670530035003401 : Unit := ()
noncomputable def Mine.pre.tw622492381198803620 : Unit := ()
noncomputable def Mine.pre.tw13597140838098940160 : Unit := ()
noncomputable def Mine.pre.tw8059033391632017768 : Unit := ()
noncomputable def Mine.pre.tw5181025330811286078 : Unit := ()
noncomputable def Mine.pre.tw588847984966873976 : Unit := ()
noncomputable def Mine.pre.tw4038990501098735743 : Unit := ()
noncomputable def Mine.pre.tw5840400005807025179 : Unit := ()
noncomputable def Mine.pre.tw10591206751127999579 : Unit := ()
noncomputable def Mine.pre.tw17243914284879098674 : Unit := ()
noncomputable def Mine.pre.tw11798349690580325805 : Unit := ()
noncomputable def Mine.pre.tw17734893875705166328 : Unit := ()
noncomputable def Mine.pre.tw14772662078332177275 : Unit := ()
noncomputable def Mine.pre.tw16616726298107062394 : Unit := ()
noncomputable def Mine.pre.tw13665676798805642283 : Unit := ()
noncomputable def Mine.pre.tw3802625040744548147 : Unit := ()
noncomputable def Mine.pre.tw11243729848781836331 : Unit := ()
noncomputable def Mine.pre.tw17993486167222620631 : Unit := ()
noncomputable def Mine.pre.tw12661141176719232996 : Unit := ()
noncomputable def Mine.pre.tw12946204567366710030 : Unit := ()
noncomputable def Mine.pre.tw16678401072394588056 : Unit := ()
noncomputable def Mine.pre.tw8503786588490997212 : Unit := ()
noncomputable def Mine.pre.tw10370640517619231506 : Unit := ()
noncomputable def Mine.pre.tw5057760444524286607 : Unit := ()
noncomputable def Mine.pre.tw2873038330630556666 : Unit := ()
noncomputable def Mine.pre.tw7276034519576442731 : Unit := ()
noncomputable def Mine.pre.tw9020882370990494424 : Unit := ()
noncomputable def Mine.pre.tw18222596137421736093 : Unit := ()
noncomputable def Mine.pre.tw12755250053258690548 : Unit := ()
noncomputable def Mine.pre.tw6067677185849452376 : Unit := ()
noncomputable def Mine.pre.tw11070111701070015576 : Unit := ()
noncomputable def Mine.pre.tw1986607355752455672 : Unit := ()
noncomputable def Mine.pre.tw13226934356153189955 : Unit := ()
noncomputable def Mine.pre.tw1377108911703539816 : Unit := ()
noncomputable def Mine.pre.tw14897949396787667373 : Unit := ()
noncomputable def Mine.pre.tw15822931649613209420 : Unit := ()
noncomputable def Mine.pre.tw9449472340649674772 : Unit := ()
noncomputable def Mine.pre.tw2291666923083238388 : Unit := ()
noncomputable def Mine.pre.tw6183555418899458007 : Unit := ()
noncomputable def Mine.pre.tw2163382344431790853 : Unit := ()
noncomputable def Mine.pre.tw9747162861786077517 : Unit := ()
noncomputable def Mine.pre.tw13903522076921009025 : Unit := ()
noncomputable def Mine.pre.tw15096063212705684422 : Unit := ()
noncomputable def Mine.pre.tw3943548948880084955 : Unit := ()
noncomputable def Mine.pre.tw4578120134722958757 : Unit := ()
noncomputable def Mine.pre.tw16711128467661928844 : Unit := ()
noncomputable def Mine.pre.tw3047565698872441325 : Unit := ()
noncomputable def Mine.pre.tw5391355343728204695 : Unit := ()
noncomputable def Mine.pre.tw6513476546194362696 : Unit := ()
set_option maxRecDepth 100000
set_option maxHeartbeats 8000000
set_option Elab.async true in
theorem Mine.pre : True := by
  first
  | (have := with_decl_name% Mine.pre.hd ((by set_option Elab.async false in (w_on; o_law; k_head; (case hw => w_witness2)); fail "enough" : PySem.Challenge.rw_rt0090_01.Holds) :)
     trivial)
  | trivial
set_option Elab.async false
theorem Mine.wait : True := trivial
open_top Mine.pre.hd for PySem.Challenge.rw_rt0090_01
open Mine.pre
set_option maxRecDepth 100000
set_option maxHeartbeats 4000000
set_option linter.all false
theorem Mine.fill_top (w : World) : PySem.Challenge.rw_rt0090_01 = PySem.Challenge.rw_rt0090_01 ∧ hd.heap_39 w.params = hd.heap_39 w.params := by
  k_fill
  exact ⟨rfl, rfl⟩
set_option compiler.extract_closed false
namespace Mine
open PySem PySem.W PySem.Calls PyProof.Rows
abbrev Led := List (Addr × Obj)
abbrev Ctr (w : World) (d : Nat) (f : Addr) (news : Led) (vs : List Value) (R : Value → Led → Prop) : Prop :=
  ∀ {p : Program} {loose : List Str} {mean : ExcName → Option Value} {mg mb : Str → Option Value} {dp un : Nat} {gd : Option (List Code)} {cn : Str} {cs : Scope} {a : Addr} {ccd : Value} {cl : List (Str × Addr)} {outer : List Env} {A₀ : Around} {base h₀ : Heap} {L : Addr} {m : Str → Option Value} {s : Shared} {Q E : Value → Shared → Prop},
    Below A₀ base outer h₀ → Fr h₀ L s.heap m → (hd.heap_39 w.params).In h₀ → News h₀ L s.heap news → Top p loose mean mg mb h₀ → cs.kind = .function → dp + d < recursionLimit → un + 20 * d < cLine →
    (∀ v news' h' tk', Fr h₀ L h' m → News h₀ L h' news' → R v news' → Q v { s with heap := h', toks := tk' }) →
    wpAny (model PySem.Challenge.pw_rt0090_01 w) (ktrTop dp un gd cn cs L a ccd cl outer) (call (.ref f) vs) Q E s
theorem fill (w : World) : PySem.Challenge.rw_rt0090_01 = PySem.Challenge.rw_rt0090_01 ∧ hd.heap_39 w.params = hd.heap_39 w.params := by
  k_fill
  exact ⟨rfl, rfl⟩
theorem sub_str_str : isSubtype (.type "str") (.type "str") = pure true := by kernel_rfl
theorem sub_tup_tup : isSubtype (.type "tuple") (.type "tuple") = pure true := by kernel_rfl
section
variable {prog : Program} {w : World} {A : Around} {E : Value → Shared → Prop} {s : Shared}
theorem issub_in {dep : Int} {tk : Tok} {Q : Fin → Shared → Prop} (hq : Q (.done (.ret (.bool true))) s) :
    wpAny (model prog w) A (Builtin.«issubclass.nested» ⟨[.type "str", .type "str", .int dep tk], []⟩) Q E s := by
  have hself := sub_str_str
  repeat (any_goals (first | assumption | (rw [if_pos rfl]) | (rw [hself]) | wp_step))
theorem args_issub_nested (a b c : Value) : argsOk "issubclass.nested" ⟨[a, b, c], []⟩ := by unfold argsOk; kernel_rfl
theorem kind_issub_nested : builtinKind "issubclass.nested" = none := by decide +kernel
theorem plain_issub_nested : plainId "issubclass.nested" = true := by decide +kernel
theorem issub_call {dep : Int} {tk : Tok} {Q : Value → Shared → Prop} (hq : Q (.bool true) s) :
    wpAny (model prog w) A (call (.builtin "issubclass.nested") [.type "str", .type "str", .int dep tk]) Q E s :=
  call_function_meets (S := fun _ R s => R (.ok (.ret (.bool true))) s) kind_issub_nested plain_issub_nested PySem.F.entry_issubclass_nested (args_issub_nested _ _ _) (fun _ _ _ _ _ hs => issub_in hs) hq
theorem issub_tup {D : Addr} {n : Nat} {R : Result → Shared → Prop} (hD : s.heap.get? D = some { cls := .type "tuple", data := .seq #[.type "str", .type "bytes"] n }) (hq : R (.ok (.ret (.bool true))) s) :
    wpAny (model prog w) A.in1 (Builtin.«issubclass.nested» ⟨[.type "str", .ref D, rawInt 0], []⟩) (fun fin s' => match fin with | .done f => R (.ok f) s' | .again c' => c'.quiet = true ∧ codeAny (model prog w) A c' R s') (fun e s' => R (.error e) s') s := by
  have hT : s.TypeIs (.ref D) "tuple" := ⟨_, hD, rfl⟩
  have hself := sub_tup_tup
  repeat (any_goals (first | assumption | (rw [hself]) | ((with_reducible show wpAny _ _ (call (Value.builtin "issubclass.nested") _) _ _ _); refine issub_call (dep := 1) (tk := 0) ?_) | wp_step))
theorem issub_K {D L : Addr} {n : Nat} {h₀ : Heap} {news : Led} {Q : Value → Shared → Prop} (N : News h₀ L s.heap news) (hD : (D, ({ cls := .type "tuple", data := .seq #[.type "str", .type "bytes"] n } : Obj)) ∈ news) (hq : Q (.bool true) s) :
    wpAny (model prog w) A (call (.builtin "issubclass") [.type "str", .ref D]) Q E s :=
  call_issubclass (S := fun _ R s => s.heap.get? D = some { cls := .type "tuple", data := .seq #[.type "str", .type "bytes"] n } ∧ R (.ok (.ret (.bool true))) s) (fun _ _ _ _ _ hs => issubclass_outer (issub_tup hs.1 hs.2)) ⟨(N _ hD).1, hq⟩
end
end Mine
namespace Mine
open PySem PySem.W PySem.Calls PyProof.Rows
inductive Has : Nat → List Nat → Prop
  | h {a l} : Has a (a :: l)
  | t {a b l} : Has a l → Has a (b :: l)
inductive Rk : Nat → Nat → Prop
  | q {n} : Has n [304, 161, 299] → Rk 3 n
  | r {k n} : Has k [5, 6, 7, 8, 9, 11] → Has n [316, 311, 304, 128, 118, 135, 321, 328, 333, 292, 198] → Rk k n
inductive Stc (k : Nat) : {α : Type} → Sem α → Prop
  | f {a b c d e env} : Stc k (exec (Stmt.For a b c d e) env)
  | l {a b c d e env x} : Has k [1, 2, 3, 4, 5, 6, 7, 8, 9, 10, 11] → Stc k (exec (Stmt.Assign x (Expr.ListComp a b c d) e) env)
  | m {a b c d env} : Has k [1, 2, 3, 4, 5, 6, 7, 8, 9, 10, 11] → Stc k (eval (Expr.ListComp a b c d) env)
  | r {n a b} : Rk k n → Stc k (call (Value.ref n) a b)
  | g {a b c d e env r} : Has k [4, 5, 6, 7, 8, 9, 11] → Stc k (execs (Stmt.For a b c d e :: r) env)
  | d {a b c d e env} : Has k [5, 6, 7, 8, 9, 11] → Stc k (eval (Expr.DictComp a b c d e) env)
  | e {a b c d e f env x} : Has k [5, 6, 7, 8, 9, 11] → Stc k (exec (Stmt.Assign x (Expr.DictComp a b c d e) f) env)
  | w {a b c d env} : Has k [5, 6, 7, 8, 9, 11] → Stc k (exec (Stmt.While a b c d) env)
  | i {a b c n t} : Has k [6, 11] → Stc k (subscriptTail a b (Value.ref c) (Value.int n t))
  | x {a b} : Has k [6] → Stc k (call (Value.builtin "list.index") a b)
  | a {a b} : Has k [6, 8, 9, 11] → Stc k (call (Value.builtin "list.append") a b)
  | t {a b} : Has k [7, 8, 9, 11] → Stc k (call (Value.type "list") a b)
  | n {a b} : Has k [7, 8, 9, 10, 11] → Stc k (call (Value.builtin "min") a b)
  | y {a b} : Has k [10] → Stc k (call (Value.builtin "max") a b)
  | s {a b c n t} : Has k [7, 8, 9, 11] → Stc k (subscriptTail a b (Value.ref c) (Value.str n t))
  | c {a b c} : Has k [8, 9, 11] → Stc k (compareOp CmpOp.In (Value.int a b) (Value.ref c))
  | h {a b c d env r} : Has k [8, 9, 11] → Stc k (execs (Stmt.While a b c d :: r) env)
  | u {a b} : Has k [8, 9, 11] → Stc k (call (Value.builtin "sum") a b)
  | z {a b} : Has k [9] → Stc k (call (Value.type "zip") a b)
  | v {a b} : Has k [9] → Stc k (compareOp CmpOp.NotEq a b)
  | o {a b c d} : Has k [11] → Stc k (subscriptTail a b (Value.ref c) (Value.ref d))
  | q {a b c} : Has k [11] → Stc k (binaryOp a (Value.ref b) (Value.ref c))
inductive Stp (k : Nat) : Prop → Prop
  | w {α : Type} {M A t Q E s} : Stc k t → Stp k (@wpAny α M A t Q E s)
  | c {a b c d e f g h i j l m n o} : Has k [1, 2, 3, 4, 5, 6, 7, 8, 9, 10, 11] → Stp k (LCg.CompSrc a b c d e f g h i j l m n o)
  | t {a b c d e f g h i j l m n o p} : Has k [1, 2, 3, 4, 5, 6, 7, 8, 9, 10, 11] → Stp k (LCt.CompSrcT a b c d e f g h i j l m n o p)
  | p {a b c d e f g h i j l m n o p} : Has k [2, 3, 5, 6, 7, 8, 9, 11] → Stp k (LCp.SrcLP a b c d e f g h i j l m n o p)
  | i {c d a b} : Has k [5, 6, 7, 8, 9, 11] → Stp k (@ite Prop c d a b)
theorem stp (k : Nat) {P : Prop} (_ : Stp k P) (g : P) : P := g
noncomputable def Hid (P : Prop) : Prop := P
theorem Hid.mk {P : Prop} (h : P) : Hid P := h
theorem rm0 {d k c : Nat} (h : d + k < c) : d < c := Nat.lt_of_le_of_lt (Nat.le_add_right d k) h
theorem rm1 {d k c a : Nat} (h : d + k < c) (e : Nat.ble a k = true) : d + a < c := Nat.lt_of_le_of_lt (Nat.add_le_add_left (Nat.le_of_ble_eq_true e) d) h
theorem rm2 {d k c a b : Nat} (h : d + k < c) (e : Nat.ble (a + b) k = true) : d + a + b < c := Nat.add_assoc d a b ▸ rm1 h e
theorem rm3 {d k c a b f : Nat} (h : d + k < c) (e : Nat.ble (a + (b + f)) k = true) : d + a + b + f < c := Nat.add_assoc (d + a) b f ▸ rm2 h e
theorem rm4 {d k c a b f g : Nat} (h : d + k < c) (e : Nat.ble (a + (b + (f + g))) k = true) : d + a + b + f + g < c := Nat.add_assoc (d + a + b) f g ▸ rm3 h e
theorem sz {a b c : Nat} (h : a ≤ b) (e : Nat.ble b c = true) : a ≤ c := Nat.le_trans h (Nat.le_of_ble_eq_true e)
end Mine
namespace Mine
open PySem PySem.W PySem.Calls PyProof.Rows
noncomputable def Off (ks : List Str) (M m : Str → Option Value) : Prop := ∀ y, y ∉ ks → M y = m y
theorem Off.refl {ks : List Str} {m : Str → Option Value} : Off ks m m := fun _ _ => rfl
theorem Off.upd {ks : List Str} {k : Str} {v : Option Value} {M m : Str → Option Value} (hk : k ∈ ks) (h : Off ks M m) : Off ks (fun y => if y = k then v else M y) m := fun y hy => (if_neg fun e : y = k => hy (by rw [e]; exact hk)).trans (h y hy)
theorem map1 {a : Str} {M m : Str → Option Value} (h : Off [a] M m) : M = fun y => if y = a then M a else m y := funext fun y => by
  show M y = if y = a then M a else m y
  by_cases e0 : y = a
  · rw [if_pos e0, e0]
  rw [if_neg e0]
  exact h y (by simp [e0])
theorem map2 {a b : Str} {M m : Str → Option Value} (h : Off [a, b] M m) : M = fun y => if y = a then M a else if y = b then M b else m y := funext fun y => by
  show M y = if y = a then M a else if y = b then M b else m y
  by_cases e0 : y = a
  · rw [if_pos e0, e0]
  by_cases e1 : y = b
  · rw [if_neg e0, if_pos e1, e1]
  rw [if_neg e0, if_neg e1]
  exact h y (by simp [e0, e1])
theorem map3 {a b c : Str} {M m : Str → Option Value} (h : Off [a, b, c] M m) : M = fun y => if y = a then M a else if y = b then M b else if y = c then M c else m y := funext fun y => by
  show M y = if y = a then M a else if y = b then M b else if y = c then M c else m y
  by_cases e0 : y = a
  · rw [if_pos e0, e0]
  by_cases e1 : y = b
  · rw [if_neg e0, if_pos e1, e1]
  by_cases e2 : y = c
  · rw [if_neg e0, if_neg e1, if_pos e2, e2]
  rw [if_neg e0, if_neg e1, if_neg e2]
  exact h y (by simp [e0, e1, e2])
theorem map4 {a b c d : Str} {M m : Str → Option Value} (h : Off [a, b, c, d] M m) : M = fun y => if y = a then M a else if y = b then M b else if y = c then M c else if y = d then M d else m y := funext fun y => by
  show M y = if y = a then M a else if y = b then M b else if y = c then M c else if y = d then M d else m y
  by_cases e0 : y = a
  · rw [if_pos e0, e0]
  by_cases e1 : y = b
  · rw [if_neg e0, if_pos e1, e1]
  by_cases e2 : y = c
  · rw [if_neg e0, if_neg e1, if_pos e2, e2]
  by_cases e3 : y = d
  · rw [if_neg e0, if_neg e1, if_neg e2, if_pos e3, e3]
  rw [if_neg e0, if_neg e1, if_neg e2, if_neg e3]
  exact h y (by simp [e0, e1, e2, e3])
theorem map5 {a b c d e : Str} {M m : Str → Option Value} (h : Off [a, b, c, d, e] M m) : M = fun y => if y = a then M a else if y = b then M b else if y = c then M c else if y = d then M d else if y = e then M e else m y := funext fun y => by
  show M y = if y = a then M a else if y = b then M b else if y = c then M c else if y = d then M d else if y = e then M e else m y
  by_cases e0 : y = a
  · rw [if_pos e0, e0]
  by_cases e1 : y = b
  · rw [if_neg e0, if_pos e1, e1]
  by_cases e2 : y = c
  · rw [if_neg e0, if_neg e1, if_pos e2, e2]
  by_cases e3 : y = d
  · rw [if_neg e0, if_neg e1, if_neg e2, if_pos e3, e3]
  by_cases e4 : y = e
  · rw [if_neg e0, if_neg e1, if_neg e2, if_neg e3, if_pos e4, e4]
  rw [if_neg e0, if_neg e1, if_neg e2, if_neg e3, if_neg e4]
  exact h y (by simp [e0, e1, e2, e3, e4])
theorem map6 {a b c d e f : Str} {M m : Str → Option Value} (h : Off [a, b, c, d, e, f] M m) : M = fun y => if y = a then M a else if y = b then M b else if y = c then M c else if y = d then M d else if y = e then M e else if y = f then M f else m y := funext fun y => by
  show M y = if y = a then M a else if y = b then M b else if y = c then M c else if y = d then M d else if y = e then M e else if y = f then M f else m y
  by_cases e0 : y = a
  · rw [if_pos e0, e0]
  by_cases e1 : y = b
  · rw [if_neg e0, if_pos e1, e1]
  by_cases e2 : y = c
  · rw [if_neg e0, if_neg e1, if_pos e2, e2]
  by_cases e3 : y = d
  · rw [if_neg e0, if_neg e1, if_neg e2, if_pos e3, e3]
  by_cases e4 : y = e
  · rw [if_neg e0, if_neg e1, if_neg e2, if_neg e3, if_pos e4, e4]
  by_cases e5 : y = f
  · rw [if_neg e0, if_neg e1, if_neg e2, if_neg e3, if_neg e4, if_pos e5, e5]
  rw [if_neg e0, if_neg e1, if_neg e2, if_neg e3, if_neg e4, if_neg e5]
  exact h y (by simp [e0, e1, e2, e3, e4, e5])
end Mine
namespace Mine
open PySem PySem.W PySem.Calls PyProof.Rows
theorem neWorld : Nonempty World := ⟨{ draws := fun _ _ => 0, params := { strHash := fun _ => 0, shareClass := fun _ => 0, mergeTok := id, idOf := fun _ => 0, idOfShared := fun _ _ => 0, followText := fun _ => false, idOfImm := fun _ => 0 } }⟩
theorem neAround : Nonempty Around := ⟨callerA⟩
theorem neShared : Nonempty Shared := ⟨{}⟩
theorem pad1 {G : Prop} (h : ∀ _ : Nat, G) : G := h 0
theorem nePair {α β : Type} (a : Nonempty α) (b : Nonempty β) : Nonempty (α × β) := a.elim fun x => b.elim fun y => ⟨(x, y)⟩
noncomputable def A1 {α : Type} (x : α) : α := x
noncomputable def A2 {α : Type} (x : α) : α := x
noncomputable def A3 {α : Type} (x : α) : α := x
noncomputable def A4 {α : Type} (x : α) : α := x
noncomputable def A5 {α : Type} (x : α) : α := x
noncomputable def A6 {α : Type} (x : α) : α := x
noncomputable def A7 {α : Type} (x : α) : α := x
noncomputable def A8 {α : Type} (x : α) : α := x
noncomputable def A9 {α : Type} (x : α) : α := x
noncomputable def A10 {α : Type} (x : α) : α := x
noncomputable def A11 {α : Type} (x : α) : α := x
noncomputable def A12 {α : Type} (x : α) : α := x
noncomputable def A13 {α : Type} (x : α) : α := x
noncomputable def A14 {α : Type} (x : α) : α := x
noncomputable def A15 {α : Type} (x : α) : α := x
noncomputable def A16 {α : Type} (x : α) : α := x
noncomputable def A17 {α : Type} (x : α) : α := x
noncomputable def A18 {α : Type} (x : α) : α := x
noncomputable def A19 {α : Type} (x : α) : α := x
noncomputable def A20 {α : Type} (x : α) : α := x
noncomputable def A21 {α : Type} (x : α) : α := x
noncomputable def A22 {α : Type} (x : α) : α := x
noncomputable def A23 {α : Type} (x : α) : α := x
noncomputable def A24 {α : Type} (x : α) : α := x
noncomputable def A25 {α : Type} (x : α) : α := x
noncomputable def A26 {α : Type} (x : α) : α := x
noncomputable def A27 {α : Type} (x : α) : α := x
noncomputable def A28 {α : Type} (x : α) : α := x
noncomputable def A29 {α : Type} (x : α) : α := x
noncomputable def A30 {α : Type} (x : α) : α := x
noncomputable def A31 {α : Type} (x : α) : α := x
noncomputable def A32 {α : Type} (x : α) : α := x
noncomputable def A33 {α : Type} (x : α) : α := x
noncomputable def A34 {α : Type} (x : α) : α := x
noncomputable def A35 {α : Type} (x : α) : α := x
noncomputable def A36 {α : Type} (x : α) : α := x
noncomputable def A37 {α : Type} (x : α) : α := x
noncomputable def A38 {α : Type} (x : α) : α := x
noncomputable def A39 {α : Type} (x : α) : α := x
noncomputable def A40 {α : Type} (x : α) : α := x
noncomputable def A41 {α : Type} (x : α) : α := x
noncomputable def A42 {α : Type} (x : α) : α := x
noncomputable def A43 {α : Type} (x : α) : α := x
noncomputable def A44 {α : Type} (x : α) : α := x
noncomputable def A45 {α : Type} (x : α) : α := x
noncomputable def A46 {α : Type} (x : α) : α := x
noncomputable def A47 {α : Type} (x : α) : α := x
noncomputable def A48 {α : Type} (x : α) : α := x
noncomputable def A49 {α : Type} (x : α) : α := x
noncomputable def A50 {α : Type} (x : α) : α := x
noncomputable def A51 {α : Type} (x : α) : α := x
noncomputable def A52 {α : Type} (x : α) : α := x
noncomputable def A53 {α : Type} (x : α) : α := x
noncomputable def A54 {α : Type} (x : α) : α := x
noncomputable def A55 {α : Type} (x : α) : α := x
noncomputable def A56 {α : Type} (x : α) : α := x
noncomputable def A57 {α : Type} (x : α) : α := x
noncomputable def A58 {α : Type} (x : α) : α := x
noncomputable def A59 {α : Type} (x : α) : α := x
noncomputable def ep4 {α1 α2 α3 α4 : Type} (ne : Nonempty (α1 × α2 × α3 × α4)) (T : α1 → α2 → α3 → α4 → Prop) : α1 × α2 × α3 × α4 := @Classical.epsilon _ ne fun p => ¬ T p.1 p.2.1 p.2.2.1 p.2.2.2
noncomputable def Used4 {α1 α2 α3 α4 : Type} (_ : α1) (_ : α2) (_ : α3) (_ : α4) : Prop := True
theorem hk4 {α1 α2 α3 α4 : Type} {T : α1 → α2 → α3 → α4 → Prop} (ne : Nonempty (α1 × α2 × α3 × α4)) (h : Used4 (A1 (ep4 ne T).1) (A2 (ep4 ne T).2.1) (A3 (ep4 ne T).2.2.1) (A4 (ep4 ne T).2.2.2) → T (A1 (ep4 ne T).1) (A2 (ep4 ne T).2.1) (A3 (ep4 ne T).2.2.1) (A4 (ep4 ne T).2.2.2)) : ∀ x1 x2 x3 x4, T x1 x2 x3 x4 := fun x1 x2 x3 x4 => Classical.byContradiction fun hx => @Classical.epsilon_spec _ (fun p : α1 × α2 × α3 × α4 => ¬ T p.1 p.2.1 p.2.2.1 p.2.2.2) ⟨⟨x1, x2, x3, x4⟩, hx⟩ (h trivial)
noncomputable def ep8 {α1 α2 α3 α4 α5 α6 α7 α8 : Type} (ne : Nonempty (α1 × α2 × α3 × α4 × α5 × α6 × α7 × α8)) (T : α1 → α2 → α3 → α4 → α5 → α6 → α7 → α8 → Prop) : α1 × α2 × α3 × α4 × α5 × α6 × α7 × α8 := @Classical.epsilon _ ne fun p => ¬ T p.1 p.2.1 p.2.2.1 p.2.2.2.1 p.2.2.2.2.1 p.2.2.2.2.2.1 p.2.2.2.2.2.2.1 p.2.2.2.2.2.2.2
noncomputable def Used8 {α1 α2 α3 α4 α5 α6 α7 α8 : Type} (_ : α1) (_ : α2) (_ : α3) (_ : α4) (_ : α5) (_ : α6) (_ : α7) (_ : α8) : Prop := True
theorem hk8 {α1 α2 α3 α4 α5 α6 α7 α8 : Type} {T : α1 → α2 → α3 → α4 → α5 → α6 → α7 → α8 → Prop} (ne : Nonempty (α1 × α2 × α3 × α4 × α5 × α6 × α7 × α8)) (h : Used8 (A1 (ep8 ne T).1) (A2 (ep8 ne T).2.1) (A3 (ep8 ne T).2.2.1) (A4 (ep8 ne T).2.2.2.1) (A5 (ep8 ne T).2.2.2.2.1) (A6 (ep8 ne T).2.2.2.2.2.1) (A7 (ep8 ne T).2.2.2.2.2.2.1) (A8 (ep8 ne T).2.2.2.2.2.2.2) → T (A1 (ep8 ne T).1) (A2 (ep8 ne T).2.1) (A3 (ep8 ne T).2.2.1) (A4 (ep8 ne T).2.2.2.1) (A5 (ep8 ne T).2.2.2.2.1) (A6 (ep8 ne T).2.2.2.2.2.1) (A7 (ep8 ne T).2.2.2.2.2.2.1) (A8 (ep8 ne T).2.2.2.2.2.2.2)) : ∀ x1 x2 x3 x4 x5 x6 x7 x8, T x1 x2 x3 x4 x5 x6 x7 x8 := fun x1 x2 x3 x4 x5 x6 x7 x8 => Classical.byContradiction fun hx => @Classical.epsilon_spec _ (fun p : α1 × α2 × α3 × α4 × α5 × α6 × α7 × α8 => ¬ T p.1 p.2.1 p.2.2.1 p.2.2.2.1 p.2.2.2.2.1 p.2.2.2.2.2.1 p.2.2.2.2.2.2.1 p.2.2.2.2.2.2.2) ⟨⟨x1, x2, x3, x4, x5, x6, x7, x8⟩, hx⟩ (h trivial)
noncomputable def ep12 {α1 α2 α3 α4 α5 α6 α7 α8 α9 α10 α11 α12 : Type} (ne : Nonempty (α1 × α2 × α3 × α4 × α5 × α6 × α7 × α8 × α9 × α10 × α11 × α12)) (T : α1 → α2 → α3 → α4 → α5 → α6 → α7 → α8 → α9 → α10 → α11 → α12 → Prop) : α1 × α2 × α3 × α4 × α5 × α6 × α7 × α8 × α9 × α10 × α11 × α12 := @Classical.epsilon _ ne fun p => ¬ T p.1 p.2.1 p.2.2.1 p.2.2.2.1 p.2.2.2.2.1 p.2.2.2.2.2.1 p.2.2.2.2.2.2.1 p.2.2.2.2.2.2.2.1 p.2.2.2.2.2.2.2.2.1 p.2.2.2.2.2.2.2.2.2.1 p.2.2.2.2.2.2.2.2.2.2.1 p.2.2.2.2.2.2.2.2.2.2.2
noncomputable def Used12 {α1 α2 α3 α4 α5 α6 α7 α8 α9 α10 α11 α12 : Type} (_ : α1) (_ : α2) (_ : α3) (_ : α4) (_ : α5) (_ : α6) (_ : α7) (_ : α8) (_ : α9) (_ : α10) (_ : α11) (_ : α12) : Prop := True
theorem hk12 {α1 α2 α3 α4 α5 α6 α7 α8 α9 α10 α11 α12 : Type} {T : α1 → α2 → α3 → α4 → α5 → α6 → α7 → α8 → α9 → α10 → α11 → α12 → Prop} (ne : Nonempty (α1 × α2 × α3 × α4 × α5 × α6 × α7 × α8 × α9 × α10 × α11 × α12)) (h : Used12 (A1 (ep12 ne T).1) (A2 (ep12 ne T).2.1) (A3 (ep12 ne T).2.2.1) (A4 (ep12 ne T).2.2.2.1) (A5 (ep12 ne T).2.2.2.2.1) (A6 (ep12 ne T).2.2.2.2.2.1) (A7 (ep12 ne T).2.2.2.2.2.2.1) (A8 (ep12 ne T).2.2.2.2.2.2.2.1) (A9 (ep12 ne T).2.2.2.2.2.2.2.2.1) (A10 (ep12 ne T).2.2.2.2.2.2.2.2.2.1) (A11 (ep12 ne T).2.2.2.2.2.2.2.2.2.2.1) (A12 (ep12 ne T).2.2.2.2.2.2.2.2.2.2.2) → T (A1 (ep12 ne T).1) (A2 (ep12 ne T).2.1) (A3 (ep12 ne T).2.2.1) (A4 (ep12 ne T).2.2.2.1) (A5 (ep12 ne T).2.2.2.2.1) (A6 (ep12 ne T).2.2.2.2.2.1) (A7 (ep12 ne T).2.2.2.2.2.2.1) (A8 (ep12 ne T).2.2.2.2.2.2.2.1) (A9 (ep12 ne T).2.2.2.2.2.2.2.2.1) (A10 (ep12 ne T).2.2.2.2.2.2.2.2.2.1) (A11 (ep12 ne T).2.2.2.2.2.2.2.2.2.2.1) (A12 (ep12 ne T).2.2.2.2.2.2.2.2.2.2.2)) : ∀ x1 x2 x3 x4 x5 x6 x7 x8 x9 x10 x11 x12, T x1 x2 x3 x4 x5 x6 x7 x8 x9 x10 x11 x12 := fun x1 x2 x3 x4 x5 x6 x7 x8 x9 x10 x11 x12 => Classical.byContradiction fun hx => @Classical.epsilon_spec _ (fun p : α1 × α2 × α3 × α4 × α5 × α6 × α7 × α8 × α9 × α10 × α11 × α12 => ¬ T p.1 p.2.1 p.2.2.1 p.2.2.2.1 p.2.2.2.2.1 p.2.2.2.2.2.1 p.2.2.2.2.2.2.1 p.2.2.2.2.2.2.2.1 p.2.2.2.2.2.2.2.2.1 p.2.2.2.2.2.2.2.2.2.1 p.2.2.2.2.2.2.2.2.2.2.1 p.2.2.2.2.2.2.2.2.2.2.2) ⟨⟨x1, x2, x3, x4, x5, x6, x7, x8, x9, x10, x11, x12⟩, hx⟩ (h trivial)
noncomputable def ep16 {α1 α2 α3 α4 α5 α6 α7 α8 α9 α10 α11 α12 α13 α14 α15 α16 : Type} (ne : Nonempty (α1 × α2 × α3 × α4 × α5 × α6 × α7 × α8 × α9 × α10 × α11 × α12 × α13 × α14 × α15 × α16)) (T : α1 → α2 → α3 → α4 → α5 → α6 → α7 → α8 → α9 → α10 → α11 → α12 → α13 → α14 → α15 → α16 → Prop) : α1 × α2 × α3 × α4 × α5 × α6 × α7 × α8 × α9 × α10 × α11 × α12 × α13 × α14 × α15 × α16 := @Classical.epsilon _ ne fun p => ¬ T p.1 p.2.1 p.2.2.1 p.2.2.2.1 p.2.2.2.2.1 p.2.2.2.2.2.1 p.2.2.2.2.2.2.1 p.2.2.2.2.2.2.2.1 p.2.2.2.2.2.2.2.2.1 p.2.2.2.2.2.2.2.2.2.1 p.2.2.2.2.2.2.2.2.2.2.1 p.2.2.2.2.2.2.2.2.2.2.2.1 p.2.2.2.2.2.2.2.2.2.2.2.2.1 p.2.2.2.2.2.2.2.2.2.2.2.2.2.1 p.2.2.2.2.2.2.2.2.2.2.2.2.2.2.1 p.2.2.2.2.2.2.2.2.2.2.2.2.2.2.2
noncomputable def Used16 {α1 α2 α3 α4 α5 α6 α7 α8 α9 α10 α11 α12 α13 α14 α15 α16 : Type} (_ : α1) (_ : α2) (_ : α3) (_ : α4) (_ : α5) (_ : α6) (_ : α7) (_ : α8) (_ : α9) (_ : α10) (_ : α11) (_ : α12) (_ : α13) (_ : α14) (_ : α15) (_ : α16) : Prop := True
theorem hk16 {α1 α2 α3 α4 α5 α6 α7 α8 α9 α10 α11 α12 α13 α14 α15 α16 : Type} {T : α1 → α2 → α3 → α4 → α5 → α6 → α7 → α8 → α9 → α10 → α11 → α12 → α13 → α14 → α15 → α16 → Prop} (ne : Nonempty (α1 × α2 × α3 × α4 × α5 × α6 × α7 × α8 × α9 × α10 × α11 × α12 × α13 × α14 × α15 × α16)) (h : Used16 (A1 (ep16 ne T).1) (A2 (ep16 ne T).2.1) (A3 (ep16 ne T).2.2.1) (A4 (ep16 ne T).2.2.2.1) (A5 (ep16 ne T).2.2.2.2.1) (A6 (ep16 ne T).2.2.2.2.2.1) (A7 (ep16 ne T).2.2.2.2.2.2.1) (A8 (ep16 ne T).2.2.2.2.2.2.2.1) (A9 (ep16 ne T).2.2.2.2.2.2.2.2.1) (A10 (ep16 ne T).2.2.2.2.2.2.2.2.2.1) (A11 (ep16 ne T).2.2.2.2.2.2.2.2.2.2.1) (A12 (ep16 ne T).2.2.2.2.2.2.2.2.2.2.2.1) (A13 (ep16 ne T).2.2.2.2.2.2.2.2.2.2.2.2.1) (A14 (ep16 ne T).2.2.2.2.2.2.2.2.2.2.2.2.2.1) (A15 (ep16 ne T).2.2.2.2.2.2.2.2.2.2.2.2.2.2.1) (A16 (ep16 ne T).2.2.2.2.2.2.2.2.2.2.2.2.2.2.2) → T (A1 (ep16 ne T).1) (A2 (ep16 ne T).2.1) (A3 (ep16 ne T).2.2.1) (A4 (ep16 ne T).2.2.2.1) (A5 (ep16 ne T).2.2.2.2.1) (A6 (ep16 ne T).2.2.2.2.2.1) (A7 (ep16 ne T).2.2.2.2.2.2.1) (A8 (ep16 ne T).2.2.2.2.2.2.2.1) (A9 (ep16 ne T).2.2.2.2.2.2.2.2.1) (A10 (ep16 ne T).2.2.2.2.2.2.2.2.2.1) (A11 (ep16 ne T).2.2.2.2.2.2.2.2.2.2.1) (A12 (ep16 ne T).2.2.2.2.2.2.2.2.2.2.2.1) (A13 (ep16 ne T).2.2.2.2.2.2.2.2.2.2.2.2.1) (A14 (ep16 ne T).2.2.2.2.2.2.2.2.2.2.2.2.2.1) (A15 (ep16 ne T).2.2.2.2.2.2.2.2.2.2.2.2.2.2.1) (A16 (ep16 ne T).2.2.2.2.2.2.2.2.2.2.2.2.2.2.2)) : ∀ x1 x2 x3 x4 x5 x6 x7 x8 x9 x10 x11 x12 x13 x14 x15 x16, T x1 x2 x3 x4 x5 x6 x7 x8 x9 x10 x11 x12 x13 x14 x15 x16 := fun x1 x2 x3 x4 x5 x6 x7 x8 x9 x10 x11 x12 x13 x14 x15 x16 => Classical.byContradiction fun hx => @Classical.epsilon_spec _ (fun p : α1 × α2 × α3 × α4 × α5 × α6 × α7 × α8 × α9 × α10 × α11 × α12 × α13 × α14 × α15 × α16 => ¬ T p.1 p.2.1 p.2.2.1 p.2.2.2.1 p.2.2.2.2.1 p.2.2.2.2.2.1 p.2.2.2.2.2.2.1 p.2.2.2.2.2.2.2.1 p.2.2.2.2.2.2.2.2.1 p.2.2.2.2.2.2.2.2.2.1 p.2.2.2.2.2.2.2.2.2.2.1 p.2.2.2.2.2.2.2.2.2.2.2.1 p.2.2.2.2.2.2.2.2.2.2.2.2.1 p.2.2.2.2.2.2.2.2.2.2.2.2.2.1 p.2.2.2.2.2.2.2.2.2.2.2.2.2.2.1 p.2.2.2.2.2.2.2.2.2.2.2.2.2.2.2) ⟨⟨x1, x2, x3, x4, x5, x6, x7, x8, x9, x10, x11, x12, x13, x14, x15, x16⟩, hx⟩ (h trivial)
noncomputable def ep21 {α1 α2 α3 α4 α5 α6 α7 α8 α9 α10 α11 α12 α13 α14 α15 α16 α17 α18 α19 α20 α21 : Type} (ne : Nonempty (α1 × α2 × α3 × α4 × α5 × α6 × α7 × α8 × α9 × α10 × α11 × α12 × α13 × α14 × α15 × α16 × α17 × α18 × α19 × α20 × α21)) (T : α1 → α2 → α3 → α4 → α5 → α6 → α7 → α8 → α9 → α10 → α11 → α12 → α13 → α14 → α15 → α16 → α17 → α18 → α19 → α20 → α21 → Prop) : α1 × α2 × α3 × α4 × α5 × α6 × α7 × α8 × α9 × α10 × α11 × α12 × α13 × α14 × α15 × α16 × α17 × α18 × α19 × α20 × α21 := @Classical.epsilon _ ne fun p => ¬ T p.1 p.2.1 p.2.2.1 p.2.2.2.1 p.2.2.2.2.1 p.2.2.2.2.2.1 p.2.2.2.2.2.2.1 p.2.2.2.2.2.2.2.1 p.2.2.2.2.2.2.2.2.1 p.2.2.2.2.2.2.2.2.2.1 p.2.2.2.2.2.2.2.2.2.2.1 p.2.2.2.2.2.2.2.2.2.2.2.1 p.2.2.2.2.2.2.2.2.2.2.2.2.1 p.2.2.2.2.2.2.2.2.2.2.2.2.2.1 p.2.2.2.2.2.2.2.2.2.2.2.2.2.2.1 p.2.2.2.2.2.2.2.2.2.2.2.2.2.2.2.1 p.2.2.2.2.2.2.2.2.2.2.2.2.2.2.2.2.1 p.2.2.2.2.2.2.2.2.2.2.2.2.2.2.2.2.2.1 p.2.2.2.2.2.2.2.2.2.2.2.2.2.2.2.2.2.2.1 p.2.2.2.2.2.2.2.2.2.2.2.2.2.2.2.2.2.2.2.1 p.2.2.2.2.2.2.2.2.2.2.2.2.2.2.2.2.2.2.2.2
noncomputable def Used21 {α1 α2 α3 α4 α5 α6 α7 α8 α9 α10 α11 α12 α13 α14 α15 α16 α17 α18 α19 α20 α21 : Type} (_ : α1) (_ : α2) (_ : α3) (_ : α4) (_ : α5) (_ : α6) (_ : α7) (_ : α8) (_ : α9) (_ : α10) (_ : α11) (_ : α12) (_ : α13) (_ : α14) (_ : α15) (_ : α16) (_ : α17) (_ : α18) (_ : α19) (_ : α20) (_ : α21) : Prop := True
theorem hk21 {α1 α2 α3 α4 α5 α6 α7 α8 α9 α10 α11 α12 α13 α14 α15 α16 α17 α18 α19 α20 α21 : Type} {T : α1 → α2 → α3 → α4 → α5 → α6 → α7 → α8 → α9 → α10 → α11 → α12 → α13 → α14 → α15 → α16 → α17 → α18 → α19 → α20 → α21 → Prop} (ne : Nonempty (α1 × α2 × α3 × α4 × α5 × α6 × α7 × α8 × α9 × α10 × α11 × α12 × α13 × α14 × α15 × α16 × α17 × α18 × α19 × α20 × α21)) (h : Used21 (A1 (ep21 ne T).1) (A2 (ep21 ne T).2.1) (A3 (ep21 ne T).2.2.1) (A4 (ep21 ne T).2.2.2.1) (A5 (ep21 ne T).2.2.2.2.1) (A6 (ep21 ne T).2.2.2.2.2.1) (A7 (ep21 ne T).2.2.2.2.2.2.1) (A8 (ep21 ne T).2.2.2.2.2.2.2.1) (A9 (ep21 ne T).2.2.2.2.2.2.2.2.1) (A10 (ep21 ne T).2.2.2.2.2.2.2.2.2.1) (A11 (ep21 ne T).2.2.2.2.2.2.2.2.2.2.1) (A12 (ep21 ne T).2.2.2.2.2.2.2.2.2.2.2.1) (A13 (ep21 ne T).2.2.2.2.2.2.2.2.2.2.2.2.1) (A14 (ep21 ne T).2.2.2.2.2.2.2.2.2.2.2.2.2.1) (A15 (ep21 ne T).2.2.2.2.2.2.2.2.2.2.2.2.2.2.1) (A16 (ep21 ne T).2.2.2.2.2.2.2.2.2.2.2.2.2.2.2.1) (A17 (ep21 ne T).2.2.2.2.2.2.2.2.2.2.2.2.2.2.2.2.1) (A18 (ep21 ne T).2.2.2.2.2.2.2.2.2.2.2.2.2.2.2.2.2.1) (A19 (ep21 ne T).2.2.2.2.2.2.2.2.2.2.2.2.2.2.2.2.2.2.1) (A20 (ep21 ne T).2.2.2.2.2.2.2.2.2.2.2.2.2.2.2.2.2.2.2.1) (A21 (ep21 ne T).2.2.2.2.2.2.2.2.2.2.2.2.2.2.2.2.2.2.2.2) → T (A1 (ep21 ne T).1) (A2 (ep21 ne T).2.1) (A3 (ep21 ne T).2.2.1) (A4 (ep21 ne T).2.2.2.1) (A5 (ep21 ne T).2.2.2.2.1) (A6 (ep21 ne T).2.2.2.2.2.1) (A7 (ep21 ne T).2.2.2.2.2.2.1) (A8 (ep21 ne T).2.2.2.2.2.2.2.1) (A9 (ep21 ne T).2.2.2.2.2.2.2.2.1) (A10 (ep21 ne T).2.2.2.2.2.2.2.2.2.1) (A11 (ep21 ne T).2.2.2.2.2.2.2.2.2.2.1) (A12 (ep21 ne T).2.2.2.2.2.2.2.2.2.2.2.1) (A13 (ep21 ne T).2.2.2.2.2.2.2.2.2.2.2.2.1) (A14 (ep21 ne T).2.2.2.2.2.2.2.2.2.2.2.2.2.1) (A15 (ep21 ne T).2.2.2.2.2.2.2.2.2.2.2.2.2.2.1) (A16 (ep21 ne T).2.2.2.2.2.2.2.2.2.2.2.2.2.2.2.1) (A17 (ep21 ne T).2.2.2.2.2.2.2.2.2.2.2.2.2.2.2.2.1) (A18 (ep21 ne T).2.2.2.2.2.2.2.2.2.2.2.2.2.2.2.2.2.1) (A19 (ep21 ne T).2.2.2.2.2.2.2.2.2.2.2.2.2.2.2.2.2.2.1) (A20 (ep21 ne T).2.2.2.2.2.2.2.2.2.2.2.2.2.2.2.2.2.2.2.1) (A21 (ep21 ne T).2.2.2.2.2.2.2.2.2.2.2.2.2.2.2.2.2.2.2.2)) : ∀ x1 x2 x3 x4 x5 x6 x7 x8 x9 x10 x11 x12 x13 x14 x15 x16 x17 x18 x19 x20 x21, T x1 x2 x3 x4 x5 x6 x7 x8 x9 x10 x11 x12 x13 x14 x15 x16 x17 x18 x19 x20 x21 := fun x1 x2 x3 x4 x5 x6 x7 x8 x9 x10 x11 x12 x13 x14 x15 x16 x17 x18 x19 x20 x21 => Classical.byContradiction fun hx => @Classical.epsilon_spec _ (fun p : α1 × α2 × α3 × α4 × α5 × α6 × α7 × α8 × α9 × α10 × α11 × α12 × α13 × α14 × α15 × α16 × α17 × α18 × α19 × α20 × α21 => ¬ T p.1 p.2.1 p.2.2.1 p.2.2.2.1 p.2.2.2.2.1 p.2.2.2.2.2.1 p.2.2.2.2.2.2.1 p.2.2.2.2.2.2.2.1 p.2.2.2.2.2.2.2.2.1 p.2.2.2.2.2.2.2.2.2.1 p.2.2.2.2.2.2.2.2.2.2.1 p.2.2.2.2.2.2.2.2.2.2.2.1 p.2.2.2.2.2.2.2.2.2.2.2.2.1 p.2.2.2.2.2.2.2.2.2.2.2.2.2.1 p.2.2.2.2.2.2.2.2.2.2.2.2.2.2.1 p.2.2.2.2.2.2.2.2.2.2.2.2.2.2.2.1 p.2.2.2.2.2.2.2.2.2.2.2.2.2.2.2.2.1 p.2.2.2.2.2.2.2.2.2.2.2.2.2.2.2.2.2.1 p.2.2.2.2.2.2.2.2.2.2.2.2.2.2.2.2.2.2.1 p.2.2.2.2.2.2.2.2.2.2.2.2.2.2.2.2.2.2.2.1 p.2.2.2.2.2.2.2.2.2.2.2.2.2.2.2.2.2.2.2.2) ⟨⟨x1, x2, x3, x4, x5, x6, x7, x8, x9, x10, x11, x12, x13, x14, x15, x16, x17, x18, x19, x20, x21⟩, hx⟩ (h trivial)
noncomputable def ep28 {α1 α2 α3 α4 α5 α6 α7 α8 α9 α10 α11 α12 α13 α14 α15 α16 α17 α18 α19 α20 α21 α22 α23 α24 α25 α26 α27 α28 : Type} (ne : Nonempty (α1 × α2 × α3 × α4 × α5 × α6 × α7 × α8 × α9 × α10 × α11 × α12 × α13 × α14 × α15 × α16 × α17 × α18 × α19 × α20 × α21 × α22 × α23 × α24 × α25 × α26 × α27 × α28)) (T : α1 → α2 → α3 → α4 → α5 → α6 → α7 → α8 → α9 → α10 → α11 → α12 → α13 → α14 → α15 → α16 → α17 → α18 → α19 → α20 → α21 → α22 → α23 → α24 → α25 → α26 → α27 → α28 → Prop) : α1 × α2 × α3 × α4 × α5 × α6 × α7 × α8 × α9 × α10 × α11 × α12 × α13 × α14 × α15 × α16 × α17 × α18 × α19 × α20 × α21 × α22 × α23 × α24 × α25 × α26 × α27 × α28 := @Classical.epsilon _ ne fun p => ¬ T p.1 p.2.1 p.2.2.1 p.2.2.2.1 p.2.2.2.2.1 p.2.2.2.2.2.1 p.2.2.2.2.2.2.1 p.2.2.2.2.2.2.2.1 p.2.2.2.2.2.2.2.2.1 p.2.2.2.2.2.2.2.2.2.1 p.2.2.2.2.2.2.2.2.2.2.1 p.2.2.2.2.2.2.2.2.2.2.2.1 p.2.2.2.2.2.2.2.2.2.2.2.2.1 p.2.2.2.2.2.2.2.2.2.2.2.2.2.1 p.2.2.2.2.2.2.2.2.2.2.2.2.2.2.1 p.2.2.2.2.2.2.2.2.2.2.2.2.2.2.2.1 p.2.2.2.2.2.2.2.2.2.2.2.2.2.2.2.2.1 p.2.2.2.2.2.2.2.2.2.2.2.2.2.2.2.2.2.1 p.2.2.2.2.2.2.2.2.2.2.2.2.2.2.2.2.2.2.1 p.2.2.2.2.2.2.2.2.2.2.2.2.2.2.2.2.2.2.2.1 p.2.2.2.2.2.2.2.2.2.2.2.2.2.2.2.2.2.2.2.2.1 p.2.2.2.2.2.2.2.2.2.2.2.2.2.2.2.2.2.2.2.2.2.1 p.2.2.2.2.2.2.2.2.2.2.2.2.2.2.2.2.2.2.2.2.2.2.1 p.2.2.2.2.2.2.2.2.2.2.2.2.2.2.2.2.2.2.2.2.2.2.2.1 p.2.2.2.2.2.2.2.2.2.2.2.2.2.2.2.2.2.2.2.2.2.2.2.2.1 p.2.2.2.2.2.2.2.2.2.2.2.2.2.2.2.2.2.2.2.2.2.2.2.2.2.1 p.2.2.2.2.2.2.2.2.2.2.2.2.2.2.2.2.2.2.2.2.2.2.2.2.2.2.1 p.2.2.2.2.2.2.2.2.2.2.2.2.2.2.2.2.2.2.2.2.2.2.2.2.2.2.2
noncomputable def Used28 {α1 α2 α3 α4 α5 α6 α7 α8 α9 α10 α11 α12 α13 α14 α15 α16 α17 α18 α19 α20 α21 α22 α23 α24 α25 α26 α27 α28 : Type} (_ : α1) (_ : α2) (_ : α3) (_ : α4) (_ : α5) (_ : α6) (_ : α7) (_ : α8) (_ : α9) (_ : α10) (_ : α11) (_ : α12) (_ : α13) (_ : α14) (_ : α15) (_ : α16) (_ : α17) (_ : α18) (_ : α19) (_ : α20) (_ : α21) (_ : α22) (_ : α23) (_ : α24) (_ : α25) (_ : α26) (_ : α27) (_ : α28) : Prop := True
theorem hk28 {α1 α2 α3 α4 α5 α6 α7 α8 α9 α10 α11 α12 α13 α14 α15 α16 α17 α18 α19 α20 α21 α22 α23 α24 α25 α26 α27 α28 : Type} {T : α1 → α2 → α3 → α4 → α5 → α6 → α7 → α8 → α9 → α10 → α11 → α12 → α13 → α14 → α15 → α16 → α17 → α18 → α19 → α20 → α21 → α22 → α23 → α24 → α25 → α26 → α27 → α28 → Prop} (ne : Nonempty (α1 × α2 × α3 × α4 × α5 × α6 × α7 × α8 × α9 × α10 × α11 × α12 × α13 × α14 × α15 × α16 × α17 × α18 × α19 × α20 × α21 × α22 × α23 × α24 × α25 × α26 × α27 × α28)) (h : Used28 (A1 (ep28 ne T).1) (A2 (ep28 ne T).2.1) (A3 (ep28 ne T).2.2.1) (A4 (ep28 ne T).2.2.2.1) (A5 (ep28 ne T).2.2.2.2.1) (A6 (ep28 ne T).2.2.2.2.2.1) (A7 (ep28 ne T).2.2.2.2.2.2.1) (A8 (ep28 ne T).2.2.2.2.2.2.2.1) (A9 (ep28 ne T).2.2.2.2.2.2.2.2.1) (A10 (ep28 ne T).2.2.2.2.2.2.2.2.2.1) (A11 (ep28 ne T).2.2.2.2.2.2.2.2.2.2.1) (A12 (ep28 ne T).2.2.2.2.2.2.2.2.2.2.2.1) (A13 (ep28 ne T).2.2.2.2.2.2.2.2.2.2.2.2.1) (A14 (ep28 ne T).2.2.2.2.2.2.2.2.2.2.2.2.2.1) (A15 (ep28 ne T).2.2.2.2.2.2.2.2.2.2.2.2.2.2.1) (A16 (ep28 ne T).2.2.2.2.2.2.2.2.2.2.2.2.2.2.2.1) (A17 (ep28 ne T).2.2.2.2.2.2.2.2.2.2.2.2.2.2.2.2.1) (A18 (ep28 ne T).2.2.2.2.2.2.2.2.2.2.2.2.2.2.2.2.2.1) (A19 (ep28 ne T).2.2.2.2.2.2.2.2.2.2.2.2.2.2.2.2.2.2.1) (A20 (ep28 ne T).2.2.2.2.2.2.2.2.2.2.2.2.2.2.2.2.2.2.2.1) (A21 (ep28 ne T).2.2.2.2.2.2.2.2.2.2.2.2.2.2.2.2.2.2.2.2.1) (A22 (ep28 ne T).2.2.2.2.2.2.2.2.2.2.2.2.2.2.2.2.2.2.2.2.2.1) (A23 (ep28 ne T).2.2.2.2.2.2.2.2.2.2.2.2.2.2.2.2.2.2.2.2.2.2.1) (A24 (ep28 ne T).2.2.2.2.2.2.2.2.2.2.2.2.2.2.2.2.2.2.2.2.2.2.2.1) (A25 (ep28 ne T).2.2.2.2.2.2.2.2.2.2.2.2.2.2.2.2.2.2.2.2.2.2.2.2.1) (A26 (ep28 ne T).2.2.2.2.2.2.2.2.2.2.2.2.2.2.2.2.2.2.2.2.2.2.2.2.2.1) (A27 (ep28 ne T).2.2.2.2.2.2.2.2.2.2.2.2.2.2.2.2.2.2.2.2.2.2.2.2.2.2.1) (A28 (ep28 ne T).2.2.2.2.2.2.2.2.2.2.2.2.2.2.2.2.2.2.2.2.2.2.2.2.2.2.2) → T (A1 (ep28 ne T).1) (A2 (ep28 ne T).2.1) (A3 (ep28 ne T).2.2.1) (A4 (ep28 ne T).2.2.2.1) (A5 (ep28 ne T).2.2.2.2.1) (A6 (ep28 ne T).2.2.2.2.2.1) (A7 (ep28 ne T).2.2.2.2.2.2.1) (A8 (ep28 ne T).2.2.2.2.2.2.2.1) (A9 (ep28 ne T).2.2.2.2.2.2.2.2.1) (A10 (ep28 ne T).2.2.2.2.2.2.2.2.2.1) (A11 (ep28 ne T).2.2.2.2.2.2.2.2.2.2.1) (A12 (ep28 ne T).2.2.2.2.2.2.2.2.2.2.2.1) (A13 (ep28 ne T).2.2.2.2.2.2.2.2.2.2.2.2.1) (A14 (ep28 ne T).2.2.2.2.2.2.2.2.2.2.2.2.2.1) (A15 (ep28 ne T).2.2.2.2.2.2.2.2.2.2.2.2.2.2.1) (A16 (ep28 ne T).2.2.2.2.2.2.2.2.2.2.2.2.2.2.2.1) (A17 (ep28 ne T).2.2.2.2.2.2.2.2.2.2.2.2.2.2.2.2.1) (A18 (ep28 ne T).2.2.2.2.2.2.2.2.2.2.2.2.2.2.2.2.2.1) (A19 (ep28 ne T).2.2.2.2.2.2.2.2.2.2.2.2.2.2.2.2.2.2.1) (A20 (ep28 ne T).2.2.2.2.2.2.2.2.2.2.2.2.2.2.2.2.2.2.2.1) (A21 (ep28 ne T).2.2.2.2.2.2.2.2.2.2.2.2.2.2.2.2.2.2.2.2.1) (A22 (ep28 ne T).2.2.2.2.2.2.2.2.2.2.2.2.2.2.2.2.2.2.2.2.2.1) (A23 (ep28 ne T).2.2.2.2.2.2.2.2.2.2.2.2.2.2.2.2.2.2.2.2.2.2.1) (A24 (ep28 ne T).2.2.2.2.2.2.2.2.2.2.2.2.2.2.2.2.2.2.2.2.2.2.2.1) (A25 (ep28 ne T).2.2.2.2.2.2.2.2.2.2.2.2.2.2.2.2.2.2.2.2.2.2.2.2.1) (A26 (ep28 ne T).2.2.2.2.2.2.2.2.2.2.2.2.2.2.2.2.2.2.2.2.2.2.2.2.2.1) (A27 (ep28 ne T).2.2.2.2.2.2.2.2.2.2.2.2.2.2.2.2.2.2.2.2.2.2.2.2.2.2.1) (A28 (ep28 ne T).2.2.2.2.2.2.2.2.2.2.2.2.2.2.2.2.2.2.2.2.2.2.2.2.2.2.2)) : ∀ x1 x2 x3 x4 x5 x6 x7 x8 x9 x10 x11 x12 x13 x14 x15 x16 x17 x18 x19 x20 x21 x22 x23 x24 x25 x26 x27 x28, T x1 x2 x3 x4 x5 x6 x7 x8 x9 x10 x11 x12 x13 x14 x15 x16 x17 x18 x19 x20 x21 x22 x23 x24 x25 x26 x27 x28 := fun x1 x2 x3 x4 x5 x6 x7 x8 x9 x10 x11 x12 x13 x14 x15 x16 x17 x18 x19 x20 x21 x22 x23 x24 x25 x26 x27 x28 => Classical.byContradiction fun hx => @Classical.epsilon_spec _ (fun p : α1 × α2 × α3 × α4 × α5 × α6 × α7 × α8 × α9 × α10 × α11 × α12 × α13 × α14 × α15 × α16 × α17 × α18 × α19 × α20 × α21 × α22 × α23 × α24 × α25 × α26 × α27 × α28 => ¬ T p.1 p.2.1 p.2.2.1 p.2.2.2.1 p.2.2.2.2.1 p.2.2.2.2.2.1 p.2.2.2.2.2.2.1 p.2.2.2.2.2.2.2.1 p.2.2.2.2.2.2.2.2.1 p.2.2.2.2.2.2.2.2.2.1 p.2.2.2.2.2.2.2.2.2.2.1 p.2.2.2.2.2.2.2.2.2.2.2.1 p.2.2.2.2.2.2.2.2.2.2.2.2.1 p.2.2.2.2.2.2.2.2.2.2.2.2.2.1 p.2.2.2.2.2.2.2.2.2.2.2.2.2.2.1 p.2.2.2.2.2.2.2.2.2.2.2.2.2.2.2.1 p.2.2.2.2.2.2.2.2.2.2.2.2.2.2.2.2.1 p.2.2.2.2.2.2.2.2.2.2.2.2.2.2.2.2.2.1 p.2.2.2.2.2.2.2.2.2.2.2.2.2.2.2.2.2.2.1 p.2.2.2.2.2.2.2.2.2.2.2.2.2.2.2.2.2.2.2.1 p.2.2.2.2.2.2.2.2.2.2.2.2.2.2.2.2.2.2.2.2.1 p.2.2.2.2.2.2.2.2.2.2.2.2.2.2.2.2.2.2.2.2.2.1 p.2.2.2.2.2.2.2.2.2.2.2.2.2.2.2.2.2.2.2.2.2.2.1 p.2.2.2.2.2.2.2.2.2.2.2.2.2.2.2.2.2.2.2.2.2.2.2.1 p.2.2.2.2.2.2.2.2.2.2.2.2.2.2.2.2.2.2.2.2.2.2.2.2.1 p.2.2.2.2.2.2.2.2.2.2.2.2.2.2.2.2.2.2.2.2.2.2.2.2.2.1 p.2.2.2.2.2.2.2.2.2.2.2.2.2.2.2.2.2.2.2.2.2.2.2.2.2.2.1 p.2.2.2.2.2.2.2.2.2.2.2.2.2.2.2.2.2.2.2.2.2.2.2.2.2.2.2) ⟨⟨x1, x2, x3, x4, x5, x6, x7, x8, x9, x10, x11, x12, x13, x14, x15, x16, x17, x18, x19, x20, x21, x22, x23, x24, x25, x26, x27, x28⟩, hx⟩ (h trivial)
noncomputable def ep34 {α1 α2 α3 α4 α5 α6 α7 α8 α9 α10 α11 α12 α13 α14 α15 α16 α17 α18 α19 α20 α21 α22 α23 α24 α25 α26 α27 α28 α29 α30 α31 α32 α33 α34 : Type} (ne : Nonempty (α1 × α2 × α3 × α4 × α5 × α6 × α7 × α8 × α9 × α10 × α11 × α12 × α13 × α14 × α15 × α16 × α17 × α18 × α19 × α20 × α21 × α22 × α23 × α24 × α25 × α26 × α27 × α28 × α29 × α30 × α31 × α32 × α33 × α34)) (T : α1 → α2 → α3 → α4 → α5 → α6 → α7 → α8 → α9 → α10 → α11 → α12 → α13 → α14 → α15 → α16 → α17 → α18 → α19 → α20 → α21 → α22 → α23 → α24 → α25 → α26 → α27 → α28 → α29 → α30 → α31 → α32 → α33 → α34 → Prop) : α1 × α2 × α3 × α4 × α5 × α6 × α7 × α8 × α9 × α10 × α11 × α12 × α13 × α14 × α15 × α16 × α17 × α18 × α19 × α20 × α21 × α22 × α23 × α24 × α25 × α26 × α27 × α28 × α29 × α30 × α31 × α32 × α33 × α34 := @Classical.epsilon _ ne fun p => ¬ T p.1 p.2.1 p.2.2.1 p.2.2.2.1 p.2.2.2.2.1 p.2.2.2.2.2.1 p.2.2.2.2.2.2.1 p.2.2.2.2.2.2.2.1 p.2.2.2.2.2.2.2.2.1 p.2.2.2.2.2.2.2.2.2.1 p.2.2.2.2.2.2.2.2.2.2.1 p.2.2.2.2.2.2.2.2.2.2.2.1 p.2.2.2.2.2.2.2.2.2.2.2.2.1 p.2.2.2.2.2.2.2.2.2.2.2.2.2.1 p.2.2.2.2.2.2.2.2.2.2.2.2.2.2.1 p.2.2.2.2.2.2.2.2.2.2.2.2.2.2.2.1 p.2.2.2.2.2.2.2.2.2.2.2.2.2.2.2.2.1 p.2.2.2.2.2.2.2.2.2.2.2.2.2.2.2.2.2.1 p.2.2.2.2.2.2.2.2.2.2.2.2.2.2.2.2.2.2.1 p.2.2.2.2.2.2.2.2.2.2.2.2.2.2.2.2.2.2.2.1 p.2.2.2.2.2.2.2.2.2.2.2.2.2.2.2.2.2.2.2.2.1 p.2.2.2.2.2.2.2.2.2.2.2.2.2.2.2.2.2.2.2.2.2.1 p.2.2.2.2.2.2.2.2.2.2.2.2.2.2.2.2.2.2.2.2.2.2.1 p.2.2.2.2.2.2.2.2.2.2.2.2.2.2.2.2.2.2.2.2.2.2.2.1 p.2.2.2.2.2.2.2.2.2.2.2.2.2.2.2.2.2.2.2.2.2.2.2.2.1 p.2.2.2.2.2.2.2.2.2.2.2.2.2.2.2.2.2.2.2.2.2.2.2.2.2.1 p.2.2.2.2.2.2.2.2.2.2.2.2.2.2.2.2.2.2.2.2.2.2.2.2.2.2.1 p.2.2.2.2.2.2.2.2.2.2.2.2.2.2.2.2.2.2.2.2.2.2.2.2.2.2.2.1 p.2.2.2.2.2.2.2.2.2.2.2.2.2.2.2.2.2.2.2.2.2.2.2.2.2.2.2.2.1 p.2.2.2.2.2.2.2.2.2.2.2.2.2.2.2.2.2.2.2.2.2.2.2.2.2.2.2.2.2.1 p.2.2.2.2.2.2.2.2.2.2.2.2.2.2.2.2.2.2.2.2.2.2.2.2.2.2.2.2.2.2.1 p.2.2.2.2.2.2.2.2.2.2.2.2.2.2.2.2.2.2.2.2.2.2.2.2.2.2.2.2.2.2.2.1 p.2.2.2.2.2.2.2.2.2.2.2.2.2.2.2.2.2.2.2.2.2.2.2.2.2.2.2.2.2.2.2.2.1 p.2.2.2.2.2.2.2.2.2.2.2.2.2.2.2.2.2.2.2.2.2.2.2.2.2.2.2.2.2.2.2.2.2
noncomputable def Used34 {α1 α2 α3 α4 α5 α6 α7 α8 α9 α10 α11 α12 α13 α14 α15 α16 α17 α18 α19 α20 α21 α22 α23 α24 α25 α26 α27 α28 α29 α30 α31 α32 α33 α34 : Type} (_ : α1) (_ : α2) (_ : α3) (_ : α4) (_ : α5) (_ : α6) (_ : α7) (_ : α8) (_ : α9) (_ : α10) (_ : α11) (_ : α12) (_ : α13) (_ : α14) (_ : α15) (_ : α16) (_ : α17) (_ : α18) (_ : α19) (_ : α20) (_ : α21) (_ : α22) (_ : α23) (_ : α24) (_ : α25) (_ : α26) (_ : α27) (_ : α28) (_ : α29) (_ : α30) (_ : α31) (_ : α32) (_ : α33) (_ : α34) : Prop := True
theorem hk34 {α1 α2 α3 α4 α5 α6 α7 α8 α9 α10 α11 α12 α13 α14 α15 α16 α17 α18 α19 α20 α21 α22 α23 α24 α25 α26 α27 α28 α29 α30 α31 α32 α33 α34 : Type} {T : α1 → α2 → α3 → α4 → α5 → α6 → α7 → α8 → α9 → α10 → α11 → α12 → α13 → α14 → α15 → α16 → α17 → α18 → α19 → α20 → α21 → α22 → α23 → α24 → α25 → α26 → α27 → α28 → α29 → α30 → α31 → α32 → α33 → α34 → Prop} (ne : Nonempty (α1 × α2 × α3 × α4 × α5 × α6 × α7 × α8 × α9 × α10 × α11 × α12 × α13 × α14 × α15 × α16 × α17 × α18 × α19 × α20 × α21 × α22 × α23 × α24 × α25 × α26 × α27 × α28 × α29 × α30 × α31 × α32 × α33 × α34)) (h : Used34 (A1 (ep34 ne T).1) (A2 (ep34 ne T).2.1) (A3 (ep34 ne T).2.2.1) (A4 (ep34 ne T).2.2.2.1) (A5 (ep34 ne T).2.2.2.2.1) (A6 (ep34 ne T).2.2.2.2.2.1) (A7 (ep34 ne T).2.2.2.2.2.2.1) (A8 (ep34 ne T).2.2.2.2.2.2.2.1) (A9 (ep34 ne T).2.2.2.2.2.2.2.2.1) (A10 (ep34 ne T).2.2.2.2.2.2.2.2.2.1) (A11 (ep34 ne T).2.2.2.2.2.2.2.2.2.2.1) (A12 (ep34 ne T).2.2.2.2.2.2.2.2.2.2.2.1) (A13 (ep34 ne T).2.2.2.2.2.2.2.2.2.2.2.2.1) (A14 (ep34 ne T).2.2.2.2.2.2.2.2.2.2.2.2.2.1) (A15 (ep34 ne T).2.2.2.2.2.2.2.2.2.2.2.2.2.2.1) (A16 (ep34 ne T).2.2.2.2.2.2.2.2.2.2.2.2.2.2.2.1) (A17 (ep34 ne T).2.2.2.2.2.2.2.2.2.2.2.2.2.2.2.2.1) (A18 (ep34 ne T).2.2.2.2.2.2.2.2.2.2.2.2.2.2.2.2.2.1) (A19 (ep34 ne T).2.2.2.2.2.2.2.2.2.2.2.2.2.2.2.2.2.2.1) (A20 (ep34 ne T).2.2.2.2.2.2.2.2.2.2.2.2.2.2.2.2.2.2.2.1) (A21 (ep34 ne T).2.2.2.2.2.2.2.2.2.2.2.2.2.2.2.2.2.2.2.2.1) (A22 (ep34 ne T).2.2.2.2.2.2.2.2.2.2.2.2.2.2.2.2.2.2.2.2.2.1) (A23 (ep34 ne T).2.2.2.2.2.2.2.2.2.2.2.2.2.2.2.2.2.2.2.2.2.2.1) (A24 (ep34 ne T).2.2.2.2.2.2.2.2.2.2.2.2.2.2.2.2.2.2.2.2.2.2.2.1) (A25 (ep34 ne T).2.2.2.2.2.2.2.2.2.2.2.2.2.2.2.2.2.2.2.2.2.2.2.2.1) (A26 (ep34 ne T).2.2.2.2.2.2.2.2.2.2.2.2.2.2.2.2.2.2.2.2.2.2.2.2.2.1) (A27 (ep34 ne T).2.2.2.2.2.2.2.2.2.2.2.2.2.2.2.2.2.2.2.2.2.2.2.2.2.2.1) (A28 (ep34 ne T).2.2.2.2.2.2.2.2.2.2.2.2.2.2.2.2.2.2.2.2.2.2.2.2.2.2.2.1) (A29 (ep34 ne T).2.2.2.2.2.2.2.2.2.2.2.2.2.2.2.2.2.2.2.2.2.2.2.2.2.2.2.2.1) (A30 (ep34 ne T).2.2.2.2.2.2.2.2.2.2.2.2.2.2.2.2.2.2.2.2.2.2.2.2.2.2.2.2.2.1) (A31 (ep34 ne T).2.2.2.2.2.2.2.2.2.2.2.2.2.2.2.2.2.2.2.2.2.2.2.2.2.2.2.2.2.2.1) (A32 (ep34 ne T).2.2.2.2.2.2.2.2.2.2.2.2.2.2.2.2.2.2.2.2.2.2.2.2.2.2.2.2.2.2.2.1) (A33 (ep34 ne T).2.2.2.2.2.2.2.2.2.2.2.2.2.2.2.2.2.2.2.2.2.2.2.2.2.2.2.2.2.2.2.2.1) (A34 (ep34 ne T).2.2.2.2.2.2.2.2.2.2.2.2.2.2.2.2.2.2.2.2.2.2.2.2.2.2.2.2.2.2.2.2.2) → T (A1 (ep34 ne T).1) (A2 (ep34 ne T).2.1) (A3 (ep34 ne T).2.2.1) (A4 (ep34 ne T).2.2.2.1) (A5 (ep34 ne T).2.2.2.2.1) (A6 (ep34 ne T).2.2.2.2.2.1) (A7 (ep34 ne T).2.2.2.2.2.2.1) (A8 (ep34 ne T).2.2.2.2.2.2.2.1) (A9 (ep34 ne T).2.2.2.2.2.2.2.2.1) (A10 (ep34 ne T).2.2.2.2.2.2.2.2.2.1) (A11 (ep34 ne T).2.2.2.2.2.2.2.2.2.2.1) (A12 (ep34 ne T).2.2.2.2.2.2.2.2.2.2.2.1) (A13 (ep34 ne T).2.2.2.2.2.2.2.2.2.2.2.2.1) (A14 (ep34 ne T).2.2.2.2.2.2.2.2.2.2.2.2.2.1) (A15 (ep34 ne T).2.2.2.2.2.2.2.2.2.2.2.2.2.2.1) (A16 (ep34 ne T).2.2.2.2.2.2.2.2.2.2.2.2.2.2.2.1) (A17 (ep34 ne T).2.2.2.2.2.2.2.2.2.2.2.2.2.2.2.2.1) (A18 (ep34 ne T).2.2.2.2.2.2.2.2.2.2.2.2.2.2.2.2.2.1) (A19 (ep34 ne T).2.2.2.2.2.2.2.2.2.2.2.2.2.2.2.2.2.2.1) (A20 (ep34 ne T).2.2.2.2.2.2.2.2.2.2.2.2.2.2.2.2.2.2.2.1) (A21 (ep34 ne T).2.2.2.2.2.2.2.2.2.2.2.2.2.2.2.2.2.2.2.2.1) (A22 (ep34 ne T).2.2.2.2.2.2.2.2.2.2.2.2.2.2.2.2.2.2.2.2.2.1) (A23 (ep34 ne T).2.2.2.2.2.2.2.2.2.2.2.2.2.2.2.2.2.2.2.2.2.2.1) (A24 (ep34 ne T).2.2.2.2.2.2.2.2.2.2.2.2.2.2.2.2.2.2.2.2.2.2.2.1) (A25 (ep34 ne T).2.2.2.2.2.2.2.2.2.2.2.2.2.2.2.2.2.2.2.2.2.2.2.2.1) (A26 (ep34 ne T).2.2.2.2.2.2.2.2.2.2.2.2.2.2.2.2.2.2.2.2.2.2.2.2.2.1) (A27 (ep34 ne T).2.2.2.2.2.2.2.2.2.2.2.2.2.2.2.2.2.2.2.2.2.2.2.2.2.2.1) (A28 (ep34 ne T).2.2.2.2.2.2.2.2.2.2.2.2.2.2.2.2.2.2.2.2.2.2.2.2.2.2.2.1) (A29 (ep34 ne T).2.2.2.2.2.2.2.2.2.2.2.2.2.2.2.2.2.2.2.2.2.2.2.2.2.2.2.2.1) (A30 (ep34 ne T).2.2.2.2.2.2.2.2.2.2.2.2.2.2.2.2.2.2.2.2.2.2.2.2.2.2.2.2.2.1) (A31 (ep34 ne T).2.2.2.2.2.2.2.2.2.2.2.2.2.2.2.2.2.2.2.2.2.2.2.2.2.2.2.2.2.2.1) (A32 (ep34 ne T).2.2.2.2.2.2.2.2.2.2.2.2.2.2.2.2.2.2.2.2.2.2.2.2.2.2.2.2.2.2.2.1) (A33 (ep34 ne T).2.2.2.2.2.2.2.2.2.2.2.2.2.2.2.2.2.2.2.2.2.2.2.2.2.2.2.2.2.2.2.2.1) (A34 (ep34 ne T).2.2.2.2.2.2.2.2.2.2.2.2.2.2.2.2.2.2.2.2.2.2.2.2.2.2.2.2.2.2.2.2.2)) : ∀ x1 x2 x3 x4 x5 x6 x7 x8 x9 x10 x11 x12 x13 x14 x15 x16 x17 x18 x19 x20 x21 x22 x23 x24 x25 x26 x27 x28 x29 x30 x31 x32 x33 x34, T x1 x2 x3 x4 x5 x6 x7 x8 x9 x10 x11 x12 x13 x14 x15 x16 x17 x18 x19 x20 x21 x22 x23 x24 x25 x26 x27 x28 x29 x30 x31 x32 x33 x34 := fun x1 x2 x3 x4 x5 x6 x7 x8 x9 x10 x11 x12 x13 x14 x15 x16 x17 x18 x19 x20 x21 x22 x23 x24 x25 x26 x27 x28 x29 x30 x31 x32 x33 x34 => Classical.byContradiction fun hx => @Classical.epsilon_spec _ (fun p : α1 × α2 × α3 × α4 × α5 × α6 × α7 × α8 × α9 × α10 × α11 × α12 × α13 × α14 × α15 × α16 × α17 × α18 × α19 × α20 × α21 × α22 × α23 × α24 × α25 × α26 × α27 × α28 × α29 × α30 × α31 × α32 × α33 × α34 => ¬ T p.1 p.2.1 p.2.2.1 p.2.2.2.1 p.2.2.2.2.1 p.2.2.2.2.2.1 p.2.2.2.2.2.2.1 p.2.2.2.2.2.2.2.1 p.2.2.2.2.2.2.2.2.1 p.2.2.2.2.2.2.2.2.2.1 p.2.2.2.2.2.2.2.2.2.2.1 p.2.2.2.2.2.2.2.2.2.2.2.1 p.2.2.2.2.2.2.2.2.2.2.2.2.1 p.2.2.2.2.2.2.2.2.2.2.2.2.2.1 p.2.2.2.2.2.2.2.2.2.2.2.2.2.2.1 p.2.2.2.2.2.2.2.2.2.2.2.2.2.2.2.1 p.2.2.2.2.2.2.2.2.2.2.2.2.2.2.2.2.1 p.2.2.2.2.2.2.2.2.2.2.2.2.2.2.2.2.2.1 p.2.2.2.2.2.2.2.2.2.2.2.2.2.2.2.2.2.2.1 p.2.2.2.2.2.2.2.2.2.2.2.2.2.2.2.2.2.2.2.1 p.2.2.2.2.2.2.2.2.2.2.2.2.2.2.2.2.2.2.2.2.1 p.2.2.2.2.2.2.2.2.2.2.2.2.2.2.2.2.2.2.2.2.2.1 p.2.2.2.2.2.2.2.2.2.2.2.2.2.2.2.2.2.2.2.2.2.2.1 p.2.2.2.2.2.2.2.2.2.2.2.2.2.2.2.2.2.2.2.2.2.2.2.1 p.2.2.2.2.2.2.2.2.2.2.2.2.2.2.2.2.2.2.2.2.2.2.2.2.1 p.2.2.2.2.2.2.2.2.2.2.2.2.2.2.2.2.2.2.2.2.2.2.2.2.2.1 p.2.2.2.2.2.2.2.2.2.2.2.2.2.2.2.2.2.2.2.2.2.2.2.2.2.2.1 p.2.2.2.2.2.2.2.2.2.2.2.2.2.2.2.2.2.2.2.2.2.2.2.2.2.2.2.1 p.2.2.2.2.2.2.2.2.2.2.2.2.2.2.2.2.2.2.2.2.2.2.2.2.2.2.2.2.1 p.2.2.2.2.2.2.2.2.2.2.2.2.2.2.2.2.2.2.2.2.2.2.2.2.2.2.2.2.2.1 p.2.2.2.2.2.2.2.2.2.2.2.2.2.2.2.2.2.2.2.2.2.2.2.2.2.2.2.2.2.2.1 p.2.2.2.2.2.2.2.2.2.2.2.2.2.2.2.2.2.2.2.2.2.2.2.2.2.2.2.2.2.2.2.1 p.2.2.2.2.2.2.2.2.2.2.2.2.2.2.2.2.2.2.2.2.2.2.2.2.2.2.2.2.2.2.2.2.1 p.2.2.2.2.2.2.2.2.2.2.2.2.2.2.2.2.2.2.2.2.2.2.2.2.2.2.2.2.2.2.2.2.2) ⟨⟨x1, x2, x3, x4, x5, x6, x7, x8, x9, x10, x11, x12, x13, x14, x15, x16, x17, x18, x19, x20, x21, x22, x23, x24, x25, x26, x27, x28, x29, x30, x31, x32, x33, x34⟩, hx⟩ (h trivial)
noncomputable def ep40 {α1 α2 α3 α4 α5 α6 α7 α8 α9 α10 α11 α12 α13 α14 α15 α16 α17 α18 α19 α20 α21 α22 α23 α24 α25 α26 α27 α28 α29 α30 α31 α32 α33 α34 α35 α36 α37 α38 α39 α40 : Type} (ne : Nonempty (α1 × α2 × α3 × α4 × α5 × α6 × α7 × α8 × α9 × α10 × α11 × α12 × α13 × α14 × α15 × α16 × α17 × α18 × α19 × α20 × α21 × α22 × α23 × α24 × α25 × α26 × α27 × α28 × α29 × α30 × α31 × α32 × α33 × α34 × α35 × α36 × α37 × α38 × α39 × α40)) (T : α1 → α2 → α3 → α4 → α5 → α6 → α7 → α8 → α9 → α10 → α11 → α12 → α13 → α14 → α15 → α16 → α17 → α18 → α19 → α20 → α21 → α22 → α23 → α24 → α25 → α26 → α27 → α28 → α29 → α30 → α31 → α32 → α33 → α34 → α35 → α36 → α37 → α38 → α39 → α40 → Prop) : α1 × α2 × α3 × α4 × α5 × α6 × α7 × α8 × α9 × α10 × α11 × α12 × α13 × α14 × α15 × α16 × α17 × α18 × α19 × α20 × α21 × α22 × α23 × α24 × α25 × α26 × α27 × α28 × α29 × α30 × α31 × α32 × α33 × α34 × α35 × α36 × α37 × α38 × α39 × α40 := @Classical.epsilon _ ne fun p => ¬ T p.1 p.2.1 p.2.2.1 p.2.2.2.1 p.2.2.2.2.1 p.2.2.2.2.2.1 p.2.2.2.2.2.2.1 p.2.2.2.2.2.2.2.1 p.2.2.2.2.2.2.2.2.1 p.2.2.2.2.2.2.2.2.2.1 p.2.2.2.2.2.2.2.2.2.2.1 p.2.2.2.2.2.2.2.2.2.2.2.1 p.2.2.2.2.2.2.2.2.2.2.2.2.1 p.2.2.2.2.2.2.2.2.2.2.2.2.2.1 p.2.2.2.2.2.2.2.2.2.2.2.2.2.2.1 p.2.2.2.2.2.2.2.2.2.2.2.2.2.2.2.1 p.2.2.2.2.2.2.2.2.2.2.2.2.2.2.2.2.1 p.2.2.2.2.2.2.2.2.2.2.2.2.2.2.2.2.2.1 p.2.2.2.2.2.2.2.2.2.2.2.2.2.2.2.2.2.2.1 p.2.2.2.2.2.2.2.2.2.2.2.2.2.2.2.2.2.2.2.1 p.2.2.2.2.2.2.2.2.2.2.2.2.2.2.2.2.2.2.2.2.1 p.2.2.2.2.2.2.2.2.2.2.2.2.2.2.2.2.2.2.2.2.2.1 p.2.2.2.2.2.2.2.2.2.2.2.2.2.2.2.2.2.2.2.2.2.2.1 p.2.2.2.2.2.2.2.2.2.2.2.2.2.2.2.2.2.2.2.2.2.2.2.1 p.2.2.2.2.2.2.2.2.2.2.2.2.2.2.2.2.2.2.2.2.2.2.2.2.1 p.2.2.2.2.2.2.2.2.2.2.2.2.2.2.2.2.2.2.2.2.2.2.2.2.2.1 p.2.2.2.2.2.2.2.2.2.2.2.2.2.2.2.2.2.2.2.2.2.2.2.2.2.2.1 p.2.2.2.2.2.2.2.2.2.2.2.2.2.2.2.2.2.2.2.2.2.2.2.2.2.2.2.1 p.2.2.2.2.2.2.2.2.2.2.2.2.2.2.2.2.2.2.2.2.2.2.2.2.2.2.2.2.1 p.2.2.2.2.2.2.2.2.2.2.2.2.2.2.2.2.2.2.2.2.2.2.2.2.2.2.2.2.2.1 p.2.2.2.2.2.2.2.2.2.2.2.2.2.2.2.2.2.2.2.2.2.2.2.2.2.2.2.2.2.2.1 p.2.2.2.2.2.2.2.2.2.2.2.2.2.2.2.2.2.2.2.2.2.2.2.2.2.2.2.2.2.2.2.1 p.2.2.2.2.2.2.2.2.2.2.2.2.2.2.2.2.2.2.2.2.2.2.2.2.2.2.2.2.2.2.2.2.1 p.2.2.2.2.2.2.2.2.2.2.2.2.2.2.2.2.2.2.2.2.2.2.2.2.2.2.2.2.2.2.2.2.2.1 p.2.2.2.2.2.2.2.2.2.2.2.2.2.2.2.2.2.2.2.2.2.2.2.2.2.2.2.2.2.2.2.2.2.2.1 p.2.2.2.2.2.2.2.2.2.2.2.2.2.2.2.2.2.2.2.2.2.2.2.2.2.2.2.2.2.2.2.2.2.2.2.1 p.2.2.2.2.2.2.2.2.2.2.2.2.2.2.2.2.2.2.2.2.2.2.2.2.2.2.2.2.2.2.2.2.2.2.2.2.1 p.2.2.2.2.2.2.2.2.2.2.2.2.2.2.2.2.2.2.2.2.2.2.2.2.2.2.2.2.2.2.2.2.2.2.2.2.2.1 p.2.2.2.2.2.2.2.2.2.2.2.2.2.2.2.2.2.2.2.2.2.2.2.2.2.2.2.2.2.2.2.2.2.2.2.2.2.2.1 p.2.2.2.2.2.2.2.2.2.2.2.2.2.2.2.2.2.2.2.2.2.2.2.2.2.2.2.2.2.2.2.2.2.2.2.2.2.2.2
noncomputable def Used40 {α1 α2 α3 α4 α5 α6 α7 α8 α9 α10 α11 α12 α13 α14 α15 α16 α17 α18 α19 α20 α21 α22 α23 α24 α25 α26 α27 α28 α29 α30 α31 α32 α33 α34 α35 α36 α37 α38 α39 α40 : Type} (_ : α1) (_ : α2) (_ : α3) (_ : α4) (_ : α5) (_ : α6) (_ : α7) (_ : α8) (_ : α9) (_ : α10) (_ : α11) (_ : α12) (_ : α13) (_ : α14) (_ : α15) (_ : α16) (_ : α17) (_ : α18) (_ : α19) (_ : α20) (_ : α21) (_ : α22) (_ : α23) (_ : α24) (_ : α25) (_ : α26) (_ : α27) (_ : α28) (_ : α29) (_ : α30) (_ : α31) (_ : α32) (_ : α33) (_ : α34) (_ : α35) (_ : α36) (_ : α37) (_ : α38) (_ : α39) (_ : α40) : Prop := True
theorem hk40 {α1 α2 α3 α4 α5 α6 α7 α8 α9 α10 α11 α12 α13 α14 α15 α16 α17 α18 α19 α20 α21 α22 α23 α24 α25 α26 α27 α28 α29 α30 α31 α32 α33 α34 α35 α36 α37 α38 α39 α40 : Type} {T : α1 → α2 → α3 → α4 → α5 → α6 → α7 → α8 → α9 → α10 → α11 → α12 → α13 → α14 → α15 → α16 → α17 → α18 → α19 → α20 → α21 → α22 → α23 → α24 → α25 → α26 → α27 → α28 → α29 → α30 → α31 → α32 → α33 → α34 → α35 → α36 → α37 → α38 → α39 → α40 → Prop} (ne : Nonempty (α1 × α2 × α3 × α4 × α5 × α6 × α7 × α8 × α9 × α10 × α11 × α12 × α13 × α14 × α15 × α16 × α17 × α18 × α19 × α20 × α21 × α22 × α23 × α24 × α25 × α26 × α27 × α28 × α29 × α30 × α31 × α32 × α33 × α34 × α35 × α36 × α37 × α38 × α39 × α40)) (h : Used40 (A1 (ep40 ne T).1) (A2 (ep40 ne T).2.1) (A3 (ep40 ne T).2.2.1) (A4 (ep40 ne T).2.2.2.1) (A5 (ep40 ne T).2.2.2.2.1) (A6 (ep40 ne T).2.2.2.2.2.1) (A7 (ep40 ne T).2.2.2.2.2.2.1) (A8 (ep40 ne T).2.2.2.2.2.2.2.1) (A9 (ep40 ne T).2.2.2.2.2.2.2.2.1) (A10 (ep40 ne T).2.2.2.2.2.2.2.2.2.1) (A11 (ep40 ne T).2.2.2.2.2.2.2.2.2.2.1) (A12 (ep40 ne T).2.2.2.2.2.2.2.2.2.2.2.1) (A13 (ep40 ne T).2.2.2.2.2.2.2.2.2.2.2.2.1) (A14 (ep40 ne T).2.2.2.2.2.2.2.2.2.2.2.2.2.1) (A15 (ep40 ne T).2.2.2.2.2.2.2.2.2.2.2.2.2.2.1) (A16 (ep40 ne T).2.2.2.2.2.2.2.2.2.2.2.2.2.2.2.1) (A17 (ep40 ne T).2.2.2.2.2.2.2.2.2.2.2.2.2.2.2.2.1) (A18 (ep40 ne T).2.2.2.2.2.2.2.2.2.2.2.2.2.2.2.2.2.1) (A19 (ep40 ne T).2.2.2.2.2.2.2.2.2.2.2.2.2.2.2.2.2.2.1) (A20 (ep40 ne T).2.2.2.2.2.2.2.2.2.2.2.2.2.2.2.2.2.2.2.1) (A21 (ep40 ne T).2.2.2.2.2.2.2.2.2.2.2.2.2.2.2.2.2.2.2.2.1) (A22 (ep40 ne T).2.2.2.2.2.2.2.2.2.2.2.2.2.2.2.2.2.2.2.2.2.1) (A23 (ep40 ne T).2.2.2.2.2.2.2.2.2.2.2.2.2.2.2.2.2.2.2.2.2.2.1) (A24 (ep40 ne T).2.2.2.2.2.2.2.2.2.2.2.2.2.2.2.2.2.2.2.2.2.2.2.1) (A25 (ep40 ne T).2.2.2.2.2.2.2.2.2.2.2.2.2.2.2.2.2.2.2.2.2.2.2.2.1) (A26 (ep40 ne T).2.2.2.2.2.2.2.2.2.2.2.2.2.2.2.2.2.2.2.2.2.2.2.2.2.1) (A27 (ep40 ne T).2.2.2.2.2.2.2.2.2.2.2.2.2.2.2.2.2.2.2.2.2.2.2.2.2.2.1) (A28 (ep40 ne T).2.2.2.2.2.2.2.2.2.2.2.2.2.2.2.2.2.2.2.2.2.2.2.2.2.2.2.1) (A29 (ep40 ne T).2.2.2.2.2.2.2.2.2.2.2.2.2.2.2.2.2.2.2.2.2.2.2.2.2.2.2.2.1) (A30 (ep40 ne T).2.2.2.2.2.2.2.2.2.2.2.2.2.2.2.2.2.2.2.2.2.2.2.2.2.2.2.2.2.1) (A31 (ep40 ne T).2.2.2.2.2.2.2.2.2.2.2.2.2.2.2.2.2.2.2.2.2.2.2.2.2.2.2.2.2.2.1) (A32 (ep40 ne T).2.2.2.2.2.2.2.2.2.2.2.2.2.2.2.2.2.2.2.2.2.2.2.2.2.2.2.2.2.2.2.1) (A33 (ep40 ne T).2.2.2.2.2.2.2.2.2.2.2.2.2.2.2.2.2.2.2.2.2.2.2.2.2.2.2.2.2.2.2.2.1) (A34 (ep40 ne T).2.2.2.2.2.2.2.2.2.2.2.2.2.2.2.2.2.2.2.2.2.2.2.2.2.2.2.2.2.2.2.2.2.1) (A35 (ep40 ne T).2.2.2.2.2.2.2.2.2.2.2.2.2.2.2.2.2.2.2.2.2.2.2.2.2.2.2.2.2.2.2.2.2.2.1) (A36 (ep40 ne T).2.2.2.2.2.2.2.2.2.2.2.2.2.2.2.2.2.2.2.2.2.2.2.2.2.2.2.2.2.2.2.2.2.2.2.1) (A37 (ep40 ne T).2.2.2.2.2.2.2.2.2.2.2.2.2.2.2.2.2.2.2.2.2.2.2.2.2.2.2.2.2.2.2.2.2.2.2.2.1) (A38 (ep40 ne T).2.2.2.2.2.2.2.2.2.2.2.2.2.2.2.2.2.2.2.2.2.2.2.2.2.2.2.2.2.2.2.2.2.2.2.2.2.1) (A39 (ep40 ne T).2.2.2.2.2.2.2.2.2.2.2.2.2.2.2.2.2.2.2.2.2.2.2.2.2.2.2.2.2.2.2.2.2.2.2.2.2.2.1) (A40 (ep40 ne T).2.2.2.2.2.2.2.2.2.2.2.2.2.2.2.2.2.2.2.2.2.2.2.2.2.2.2.2.2.2.2.2.2.2.2.2.2.2.2) → T (A1 (ep40 ne T).1) (A2 (ep40 ne T).2.1) (A3 (ep40 ne T).2.2.1) (A4 (ep40 ne T).2.2.2.1) (A5 (ep40 ne T).2.2.2.2.1) (A6 (ep40 ne T).2.2.2.2.2.1) (A7 (ep40 ne T).2.2.2.2.2.2.1) (A8 (ep40 ne T).2.2.2.2.2.2.2.1) (A9 (ep40 ne T).2.2.2.2.2.2.2.2.1) (A10 (ep40 ne T).2.2.2.2.2.2.2.2.2.1) (A11 (ep40 ne T).2.2.2.2.2.2.2.2.2.2.1) (A12 (ep40 ne T).2.2.2.2.2.2.2.2.2.2.2.1) (A13 (ep40 ne T).2.2.2.2.2.2.2.2.2.2.2.2.1) (A14 (ep40 ne T).2.2.2.2.2.2.2.2.2.2.2.2.2.1) (A15 (ep40 ne T).2.2.2.2.2.2.2.2.2.2.2.2.2.2.1) (A16 (ep40 ne T).2.2.2.2.2.2.2.2.2.2.2.2.2.2.2.1) (A17 (ep40 ne T).2.2.2.2.2.2.2.2.2.2.2.2.2.2.2.2.1) (A18 (ep40 ne T).2.2.2.2.2.2.2.2.2.2.2.2.2.2.2.2.2.1) (A19 (ep40 ne T).2.2.2.2.2.2.2.2.2.2.2.2.2.2.2.2.2.2.1) (A20 (ep40 ne T).2.2.2.2.2.2.2.2.2.2.2.2.2.2.2.2.2.2.2.1) (A21 (ep40 ne T).2.2.2.2.2.2.2.2.2.2.2.2.2.2.2.2.2.2.2.2.1) (A22 (ep40 ne T).2.2.2.2.2.2.2.2.2.2.2.2.2.2.2.2.2.2.2.2.2.1) (A23 (ep40 ne T).2.2.2.2.2.2.2.2.2.2.2.2.2.2.2.2.2.2.2.2.2.2.1) (A24 (ep40 ne T).2.2.2.2.2.2.2.2.2.2.2.2.2.2.2.2.2.2.2.2.2.2.2.1) (A25 (ep40 ne T).2.2.2.2.2.2.2.2.2.2.2.2.2.2.2.2.2.2.2.2.2.2.2.2.1) (A26 (ep40 ne T).2.2.2.2.2.2.2.2.2.2.2.2.2.2.2.2.2.2.2.2.2.2.2.2.2.1) (A27 (ep40 ne T).2.2.2.2.2.2.2.2.2.2.2.2.2.2.2.2.2.2.2.2.2.2.2.2.2.2.1) (A28 (ep40 ne T).2.2.2.2.2.2.2.2.2.2.2.2.2.2.2.2.2.2.2.2.2.2.2.2.2.2.2.1) (A29 (ep40 ne T).2.2.2.2.2.2.2.2.2.2.2.2.2.2.2.2.2.2.2.2.2.2.2.2.2.2.2.2.1) (A30 (ep40 ne T).2.2.2.2.2.2.2.2.2.2.2.2.2.2.2.2.2.2.2.2.2.2.2.2.2.2.2.2.2.1) (A31 (ep40 ne T).2.2.2.2.2.2.2.2.2.2.2.2.2.2.2.2.2.2.2.2.2.2.2.2.2.2.2.2.2.2.1) (A32 (ep40 ne T).2.2.2.2.2.2.2.2.2.2.2.2.2.2.2.2.2.2.2.2.2.2.2.2.2.2.2.2.2.2.2.1) (A33 (ep40 ne T).2.2.2.2.2.2.2.2.2.2.2.2.2.2.2.2.2.2.2.2.2.2.2.2.2.2.2.2.2.2.2.2.1) (A34 (ep40 ne T).2.2.2.2.2.2.2.2.2.2.2.2.2.2.2.2.2.2.2.2.2.2.2.2.2.2.2.2.2.2.2.2.2.1) (A35 (ep40 ne T).2.2.2.2.2.2.2.2.2.2.2.2.2.2.2.2.2.2.2.2.2.2.2.2.2.2.2.2.2.2.2.2.2.2.1) (A36 (ep40 ne T).2.2.2.2.2.2.2.2.2.2.2.2.2.2.2.2.2.2.2.2.2.2.2.2.2.2.2.2.2.2.2.2.2.2.2.1) (A37 (ep40 ne T).2.2.2.2.2.2.2.2.2.2.2.2.2.2.2.2.2.2.2.2.2.2.2.2.2.2.2.2.2.2.2.2.2.2.2.2.1) (A38 (ep40 ne T).2.2.2.2.2.2.2.2.2.2.2.2.2.2.2.2.2.2.2.2.2.2.2.2.2.2.2.2.2.2.2.2.2.2.2.2.2.1) (A39 (ep40 ne T).2.2.2.2.2.2.2.2.2.2.2.2.2.2.2.2.2.2.2.2.2.2.2.2.2.2.2.2.2.2.2.2.2.2.2.2.2.2.1) (A40 (ep40 ne T).2.2.2.2.2.2.2.2.2.2.2.2.2.2.2.2.2.2.2.2.2.2.2.2.2.2.2.2.2.2.2.2.2.2.2.2.2.2.2)) : ∀ x1 x2 x3 x4 x5 x6 x7 x8 x9 x10 x11 x12 x13 x14 x15 x16 x17 x18 x19 x20 x21 x22 x23 x24 x25 x26 x27 x28 x29 x30 x31 x32 x33 x34 x35 x36 x37 x38 x39 x40, T x1 x2 x3 x4 x5 x6 x7 x8 x9 x10 x11 x12 x13 x14 x15 x16 x17 x18 x19 x20 x21 x22 x23 x24 x25 x26 x27 x28 x29 x30 x31 x32 x33 x34 x35 x36 x37 x38 x39 x40 := fun x1 x2 x3 x4 x5 x6 x7 x8 x9 x10 x11 x12 x13 x14 x15 x16 x17 x18 x19 x20 x21 x22 x23 x24 x25 x26 x27 x28 x29 x30 x31 x32 x33 x34 x35 x36 x37 x38 x39 x40 => Classical.byContradiction fun hx => @Classical.epsilon_spec _ (fun p : α1 × α2 × α3 × α4 × α5 × α6 × α7 × α8 × α9 × α10 × α11 × α12 × α13 × α14 × α15 × α16 × α17 × α18 × α19 × α20 × α21 × α22 × α23 × α24 × α25 × α26 × α27 × α28 × α29 × α30 × α31 × α32 × α33 × α34 × α35 × α36 × α37 × α38 × α39 × α40 => ¬ T p.1 p.2.1 p.2.2.1 p.2.2.2.1 p.2.2.2.2.1 p.2.2.2.2.2.1 p.2.2.2.2.2.2.1 p.2.2.2.2.2.2.2.1 p.2.2.2.2.2.2.2.2.1 p.2.2.2.2.2.2.2.2.2.1 p.2.2.2.2.2.2.2.2.2.2.1 p.2.2.2.2.2.2.2.2.2.2.2.1 p.2.2.2.2.2.2.2.2.2.2.2.2.1 p.2.2.2.2.2.2.2.2.2.2.2.2.2.1 p.2.2.2.2.2.2.2.2.2.2.2.2.2.2.1 p.2.2.2.2.2.2.2.2.2.2.2.2.2.2.2.1 p.2.2.2.2.2.2.2.2.2.2.2.2.2.2.2.2.1 p.2.2.2.2.2.2.2.2.2.2.2.2.2.2.2.2.2.1 p.2.2.2.2.2.2.2.2.2.2.2.2.2.2.2.2.2.2.1 p.2.2.2.2.2.2.2.2.2.2.2.2.2.2.2.2.2.2.2.1 p.2.2.2.2.2.2.2.2.2.2.2.2.2.2.2.2.2.2.2.2.1 p.2.2.2.2.2.2.2.2.2.2.2.2.2.2.2.2.2.2.2.2.2.1 p.2.2.2.2.2.2.2.2.2.2.2.2.2.2.2.2.2.2.2.2.2.2.1 p.2.2.2.2.2.2.2.2.2.2.2.2.2.2.2.2.2.2.2.2.2.2.2.1 p.2.2.2.2.2.2.2.2.2.2.2.2.2.2.2.2.2.2.2.2.2.2.2.2.1 p.2.2.2.2.2.2.2.2.2.2.2.2.2.2.2.2.2.2.2.2.2.2.2.2.2.1 p.2.2.2.2.2.2.2.2.2.2.2.2.2.2.2.2.2.2.2.2.2.2.2.2.2.2.1 p.2.2.2.2.2.2.2.2.2.2.2.2.2.2.2.2.2.2.2.2.2.2.2.2.2.2.2.1 p.2.2.2.2.2.2.2.2.2.2.2.2.2.2.2.2.2.2.2.2.2.2.2.2.2.2.2.2.1 p.2.2.2.2.2.2.2.2.2.2.2.2.2.2.2.2.2.2.2.2.2.2.2.2.2.2.2.2.2.1 p.2.2.2.2.2.2.2.2.2.2.2.2.2.2.2.2.2.2.2.2.2.2.2.2.2.2.2.2.2.2.1 p.2.2.2.2.2.2.2.2.2.2.2.2.2.2.2.2.2.2.2.2.2.2.2.2.2.2.2.2.2.2.2.1 p.2.2.2.2.2.2.2.2.2.2.2.2.2.2.2.2.2.2.2.2.2.2.2.2.2.2.2.2.2.2.2.2.1 p.2.2.2.2.2.2.2.2.2.2.2.2.2.2.2.2.2.2.2.2.2.2.2.2.2.2.2.2.2.2.2.2.2.1 p.2.2.2.2.2.2.2.2.2.2.2.2.2.2.2.2.2.2.2.2.2.2.2.2.2.2.2.2.2.2.2.2.2.2.1 p.2.2.2.2.2.2.2.2.2.2.2.2.2.2.2.2.2.2.2.2.2.2.2.2.2.2.2.2.2.2.2.2.2.2.2.1 p.2.2.2.2.2.2.2.2.2.2.2.2.2.2.2.2.2.2.2.2.2.2.2.2.2.2.2.2.2.2.2.2.2.2.2.2.1 p.2.2.2.2.2.2.2.2.2.2.2.2.2.2.2.2.2.2.2.2.2.2.2.2.2.2.2.2.2.2.2.2.2.2.2.2.2.1 p.2.2.2.2.2.2.2.2.2.2.2.2.2.2.2.2.2.2.2.2.2.2.2.2.2.2.2.2.2.2.2.2.2.2.2.2.2.2.1 p.2.2.2.2.2.2.2.2.2.2.2.2.2.2.2.2.2.2.2.2.2.2.2.2.2.2.2.2.2.2.2.2.2.2.2.2.2.2.2) ⟨⟨x1, x2, x3, x4, x5, x6, x7, x8, x9, x10, x11, x12, x13, x14, x15, x16, x17, x18, x19, x20, x21, x22, x23, x24, x25, x26, x27, x28, x29, x30, x31, x32, x33, x34, x35, x36, x37, x38, x39, x40⟩, hx⟩ (h trivial)
noncomputable def ep48 {α1 α2 α3 α4 α5 α6 α7 α8 α9 α10 α11 α12 α13 α14 α15 α16 α17 α18 α19 α20 α21 α22 α23 α24 α25 α26 α27 α28 α29 α30 α31 α32 α33 α34 α35 α36 α37 α38 α39 α40 α41 α42 α43 α44 α45 α46 α47 α48 : Type} (ne : Nonempty (α1 × α2 × α3 × α4 × α5 × α6 × α7 × α8 × α9 × α10 × α11 × α12 × α13 × α14 × α15 × α16 × α17 × α18 × α19 × α20 × α21 × α22 × α23 × α24 × α25 × α26 × α27 × α28 × α29 × α30 × α31 × α32 × α33 × α34 × α35 × α36 × α37 × α38 × α39 × α40 × α41 × α42 × α43 × α44 × α45 × α46 × α47 × α48)) (T : α1 → α2 → α3 → α4 → α5 → α6 → α7 → α8 → α9 → α10 → α11 → α12 → α13 → α14 → α15 → α16 → α17 → α18 → α19 → α20 → α21 → α22 → α23 → α24 → α25 → α26 → α27 → α28 → α29 → α30 → α31 → α32 → α33 → α34 → α35 → α36 → α37 → α38 → α39 → α40 → α41 → α42 → α43 → α44 → α45 → α46 → α47 → α48 → Prop) : α1 × α2 × α3 × α4 × α5 × α6 × α7 × α8 × α9 × α10 × α11 × α12 × α13 × α14 × α15 × α16 × α17 × α18 × α19 × α20 × α21 × α22 × α23 × α24 × α25 × α26 × α27 × α28 × α29 × α30 × α31 × α32 × α33 × α34 × α35 × α36 × α37 × α38 × α39 × α40 × α41 × α42 × α43 × α44 × α45 × α46 × α47 × α48 := @Classical.epsilon _ ne fun p => ¬ T p.1 p.2.1 p.2.2.1 p.2.2.2.1 p.2.2.2.2.1 p.2.2.2.2.2.1 p.2.2.2.2.2.2.1 p.2.2.2.2.2.2.2.1 p.2.2.2.2.2.2.2.2.1 p.2.2.2.2.2.2.2.2.2.1 p.2.2.2.2.2.2.2.2.2.2.1 p.2.2.2.2.2.2.2.2.2.2.2.1 p.2.2.2.2.2.2.2.2.2.2.2.2.1 p.2.2.2.2.2.2.2.2.2.2.2.2.2.1 p.2.2.2.2.2.2.2.2.2.2.2.2.2.2.1 p.2.2.2.2.2.2.2.2.2.2.2.2.2.2.2.1 p.2.2.2.2.2.2.2.2.2.2.2.2.2.2.2.2.1 p.2.2.2.2.2.2.2.2.2.2.2.2.2.2.2.2.2.1 p.2.2.2.2.2.2.2.2.2.2.2.2.2.2.2.2.2.2.1 p.2.2.2.2.2.2.2.2.2.2.2.2.2.2.2.2.2.2.2.1 p.2.2.2.2.2.2.2.2.2.2.2.2.2.2.2.2.2.2.2.2.1 p.2.2.2.2.2.2.2.2.2.2.2.2.2.2.2.2.2.2.2.2.2.1 p.2.2.2.2.2.2.2.2.2.2.2.2.2.2.2.2.2.2.2.2.2.2.1 p.2.2.2.2.2.2.2.2.2.2.2.2.2.2.2.2.2.2.2.2.2.2.2.1 p.2.2.2.2.2.2.2.2.2.2.2.2.2.2.2.2.2.2.2.2.2.2.2.2.1 p.2.2.2.2.2.2.2.2.2.2.2.2.2.2.2.2.2.2.2.2.2.2.2.2.2.1 p.2.2.2.2.2.2.2.2.2.2.2.2.2.2.2.2.2.2.2.2.2.2.2.2.2.2.1 p.2.2.2.2.2.2.2.2.2.2.2.2.2.2.2.2.2.2.2.2.2.2.2.2.2.2.2.1 p.2.2.2.2.2.2.2.2.2.2.2.2.2.2.2.2.2.2.2.2.2.2.2.2.2.2.2.2.1 p.2.2.2.2.2.2.2.2.2.2.2.2.2.2.2.2.2.2.2.2.2.2.2.2.2.2.2.2.2.1 p.2.2.2.2.2.2.2.2.2.2.2.2.2.2.2.2.2.2.2.2.2.2.2.2.2.2.2.2.2.2.1 p.2.2.2.2.2.2.2.2.2.2.2.2.2.2.2.2.2.2.2.2.2.2.2.2.2.2.2.2.2.2.2.1 p.2.2.2.2.2.2.2.2.2.2.2.2.2.2.2.2.2.2.2.2.2.2.2.2.2.2.2.2.2.2.2.2.1 p.2.2.2.2.2.2.2.2.2.2.2.2.2.2.2.2.2.2.2.2.2.2.2.2.2.2.2.2.2.2.2.2.2.1 p.2.2.2.2.2.2.2.2.2.2.2.2.2.2.2.2.2.2.2.2.2.2.2.2.2.2.2.2.2.2.2.2.2.2.1 p.2.2.2.2.2.2.2.2.2.2.2.2.2.2.2.2.2.2.2.2.2.2.2.2.2.2.2.2.2.2.2.2.2.2.2.1 p.2.2.2.2.2.2.2.2.2.2.2.2.2.2.2.2.2.2.2.2.2.2.2.2.2.2.2.2.2.2.2.2.2.2.2.2.1 p.2.2.2.2.2.2.2.2.2.2.2.2.2.2.2.2.2.2.2.2.2.2.2.2.2.2.2.2.2.2.2.2.2.2.2.2.2.1 p.2.2.2.2.2.2.2.2.2.2.2.2.2.2.2.2.2.2.2.2.2.2.2.2.2.2.2.2.2.2.2.2.2.2.2.2.2.2.1 p.2.2.2.2.2.2.2.2.2.2.2.2.2.2.2.2.2.2.2.2.2.2.2.2.2.2.2.2.2.2.2.2.2.2.2.2.2.2.2.1 p.2.2.2.2.2.2.2.2.2.2.2.2.2.2.2.2.2.2.2.2.2.2.2.2.2.2.2.2.2.2.2.2.2.2.2.2.2.2.2.2.1 p.2.2.2.2.2.2.2.2.2.2.2.2.2.2.2.2.2.2.2.2.2.2.2.2.2.2.2.2.2.2.2.2.2.2.2.2.2.2.2.2.2.1 p.2.2.2.2.2.2.2.2.2.2.2.2.2.2.2.2.2.2.2.2.2.2.2.2.2.2.2.2.2.2.2.2.2.2.2.2.2.2.2.2.2.2.1 p.2.2.2.2.2.2.2.2.2.2.2.2.2.2.2.2.2.2.2.2.2.2.2.2.2.2.2.2.2.2.2.2.2.2.2.2.2.2.2.2.2.2.2.1 p.2.2.2.2.2.2.2.2.2.2.2.2.2.2.2.2.2.2.2.2.2.2.2.2.2.2.2.2.2.2.2.2.2.2.2.2.2.2.2.2.2.2.2.2.1 p.2.2.2.2.2.2.2.2.2.2.2.2.2.2.2.2.2.2.2.2.2.2.2.2.2.2.2.2.2.2.2.2.2.2.2.2.2.2.2.2.2.2.2.2.2.1 p.2.2.2.2.2.2.2.2.2.2.2.2.2.2.2.2.2.2.2.2.2.2.2.2.2.2.2.2.2.2.2.2.2.2.2.2.2.2.2.2.2.2.2.2.2.2.1 p.2.2.2.2.2.2.2.2.2.2.2.2.2.2.2.2.2.2.2.2.2.2.2.2.2.2.2.2.2.2.2.2.2.2.2.2.2.2.2.2.2.2.2.2.2.2.2
noncomputable def Used48 {α1 α2 α3 α4 α5 α6 α7 α8 α9 α10 α11 α12 α13 α14 α15 α16 α17 α18 α19 α20 α21 α22 α23 α24 α25 α26 α27 α28 α29 α30 α31 α32 α33 α34 α35 α36 α37 α38 α39 α40 α41 α42 α43 α44 α45 α46 α47 α48 : Type} (_ : α1) (_ : α2) (_ : α3) (_ : α4) (_ : α5) (_ : α6) (_ : α7) (_ : α8) (_ : α9) (_ : α10) (_ : α11) (_ : α12) (_ : α13) (_ : α14) (_ : α15) (_ : α16) (_ : α17) (_ : α18) (_ : α19) (_ : α20) (_ : α21) (_ : α22) (_ : α23) (_ : α24) (_ : α25) (_ : α26) (_ : α27) (_ : α28) (_ : α29) (_ : α30) (_ : α31) (_ : α32) (_ : α33) (_ : α34) (_ : α35) (_ : α36) (_ : α37) (_ : α38) (_ : α39) (_ : α40) (_ : α41) (_ : α42) (_ : α43) (_ : α44) (_ : α45) (_ : α46) (_ : α47) (_ : α48) : Prop := True
theorem hk48 {α1 α2 α3 α4 α5 α6 α7 α8 α9 α10 α11 α12 α13 α14 α15 α16 α17 α18 α19 α20 α21 α22 α23 α24 α25 α26 α27 α28 α29 α30 α31 α32 α33 α34 α35 α36 α37 α38 α39 α40 α41 α42 α43 α44 α45 α46 α47 α48 : Type} {T : α1 → α2 → α3 → α4 → α5 → α6 → α7 → α8 → α9 → α10 → α11 → α12 → α13 → α14 → α15 → α16 → α17 → α18 → α19 → α20 → α21 → α22 → α23 → α24 → α25 → α26 → α27 → α28 → α29 → α30 → α31 → α32 → α33 → α34 → α35 → α36 → α37 → α38 → α39 → α40 → α41 → α42 → α43 → α44 → α45 → α46 → α47 → α48 → Prop} (ne : Nonempty (α1 × α2 × α3 × α4 × α5 × α6 × α7 × α8 × α9 × α10 × α11 × α12 × α13 × α14 × α15 × α16 × α17 × α18 × α19 × α20 × α21 × α22 × α23 × α24 × α25 × α26 × α27 × α28 × α29 × α30 × α31 × α32 × α33 × α34 × α35 × α36 × α37 × α38 × α39 × α40 × α41 × α42 × α43 × α44 × α45 × α46 × α47 × α48)) (h : Used48 (A1 (ep48 ne T).1) (A2 (ep48 ne T).2.1) (A3 (ep48 ne T).2.2.1) (A4 (ep48 ne T).2.2.2.1) (A5 (ep48 ne T).2.2.2.2.1) (A6 (ep48 ne T).2.2.2.2.2.1) (A7 (ep48 ne T).2.2.2.2.2.2.1) (A8 (ep48 ne T).2.2.2.2.2.2.2.1) (A9 (ep48 ne T).2.2.2.2.2.2.2.2.1) (A10 (ep48 ne T).2.2.2.2.2.2.2.2.2.1) (A11 (ep48 ne T).2.2.2.2.2.2.2.2.2.2.1) (A12 (ep48 ne T).2.2.2.2.2.2.2.2.2.2.2.1) (A13 (ep48 ne T).2.2.2.2.2.2.2.2.2.2.2.2.1) (A14 (ep48 ne T).2.2.2.2.2.2.2.2.2.2.2.2.2.1) (A15 (ep48 ne T).2.2.2.2.2.2.2.2.2.2.2.2.2.2.1) (A16 (ep48 ne T).2.2.2.2.2.2.2.2.2.2.2.2.2.2.2.1) (A17 (ep48 ne T).2.2.2.2.2.2.2.2.2.2.2.2.2.2.2.2.1) (A18 (ep48 ne T).2.2.2.2.2.2.2.2.2.2.2.2.2.2.2.2.2.1) (A19 (ep48 ne T).2.2.2.2.2.2.2.2.2.2.2.2.2.2.2.2.2.2.1) (A20 (ep48 ne T).2.2.2.2.2.2.2.2.2.2.2.2.2.2.2.2.2.2.2.1) (A21 (ep48 ne T).2.2.2.2.2.2.2.2.2.2.2.2.2.2.2.2.2.2.2.2.1) (A22 (ep48 ne T).2.2.2.2.2.2.2.2.2.2.2.2.2.2.2.2.2.2.2.2.2.1) (A23 (ep48 ne T).2.2.2.2.2.2.2.2.2.2.2.2.2.2.2.2.2.2.2.2.2.2.1) (A24 (ep48 ne T).2.2.2.2.2.2.2.2.2.2.2.2.2.2.2.2.2.2.2.2.2.2.2.1) (A25 (ep48 ne T).2.2.2.2.2.2.2.2.2.2.2.2.2.2.2.2.2.2.2.2.2.2.2.2.1) (A26 (ep48 ne T).2.2.2.2.2.2.2.2.2.2.2.2.2.2.2.2.2.2.2.2.2.2.2.2.2.1) (A27 (ep48 ne T).2.2.2.2.2.2.2.2.2.2.2.2.2.2.2.2.2.2.2.2.2.2.2.2.2.2.1) (A28 (ep48 ne T).2.2.2.2.2.2.2.2.2.2.2.2.2.2.2.2.2.2.2.2.2.2.2.2.2.2.2.1) (A29 (ep48 ne T).2.2.2.2.2.2.2.2.2.2.2.2.2.2.2.2.2.2.2.2.2.2.2.2.2.2.2.2.1) (A30 (ep48 ne T).2.2.2.2.2.2.2.2.2.2.2.2.2.2.2.2.2.2.2.2.2.2.2.2.2.2.2.2.2.1) (A31 (ep48 ne T).2.2.2.2.2.2.2.2.2.2.2.2.2.2.2.2.2.2.2.2.2.2.2.2.2.2.2.2.2.2.1) (A32 (ep48 ne T).2.2.2.2.2.2.2.2.2.2.2.2.2.2.2.2.2.2.2.2.2.2.2.2.2.2.2.2.2.2.2.1) (A33 (ep48 ne T).2.2.2.2.2.2.2.2.2.2.2.2.2.2.2.2.2.2.2.2.2.2.2.2.2.2.2.2.2.2.2.2.1) (A34 (ep48 ne T).2.2.2.2.2.2.2.2.2.2.2.2.2.2.2.2.2.2.2.2.2.2.2.2.2.2.2.2.2.2.2.2.2.1) (A35 (ep48 ne T).2.2.2.2.2.2.2.2.2.2.2.2.2.2.2.2.2.2.2.2.2.2.2.2.2.2.2.2.2.2.2.2.2.2.1) (A36 (ep48 ne T).2.2.2.2.2.2.2.2.2.2.2.2.2.2.2.2.2.2.2.2.2.2.2.2.2.2.2.2.2.2.2.2.2.2.2.1) (A37 (ep48 ne T).2.2.2.2.2.2.2.2.2.2.2.2.2.2.2.2.2.2.2.2.2.2.2.2.2.2.2.2.2.2.2.2.2.2.2.2.1) (A38 (ep48 ne T).2.2.2.2.2.2.2.2.2.2.2.2.2.2.2.2.2.2.2.2.2.2.2.2.2.2.2.2.2.2.2.2.2.2.2.2.2.1) (A39 (ep48 ne T).2.2.2.2.2.2.2.2.2.2.2.2.2.2.2.2.2.2.2.2.2.2.2.2.2.2.2.2.2.2.2.2.2.2.2.2.2.2.1) (A40 (ep48 ne T).2.2.2.2.2.2.2.2.2.2.2.2.2.2.2.2.2.2.2.2.2.2.2.2.2.2.2.2.2.2.2.2.2.2.2.2.2.2.2.1) (A41 (ep48 ne T).2.2.2.2.2.2.2.2.2.2.2.2.2.2.2.2.2.2.2.2.2.2.2.2.2.2.2.2.2.2.2.2.2.2.2.2.2.2.2.2.1) (A42 (ep48 ne T).2.2.2.2.2.2.2.2.2.2.2.2.2.2.2.2.2.2.2.2.2.2.2.2.2.2.2.2.2.2.2.2.2.2.2.2.2.2.2.2.2.1) (A43 (ep48 ne T).2.2.2.2.2.2.2.2.2.2.2.2.2.2.2.2.2.2.2.2.2.2.2.2.2.2.2.2.2.2.2.2.2.2.2.2.2.2.2.2.2.2.1) (A44 (ep48 ne T).2.2.2.2.2.2.2.2.2.2.2.2.2.2.2.2.2.2.2.2.2.2.2.2.2.2.2.2.2.2.2.2.2.2.2.2.2.2.2.2.2.2.2.1) (A45 (ep48 ne T).2.2.2.2.2.2.2.2.2.2.2.2.2.2.2.2.2.2.2.2.2.2.2.2.2.2.2.2.2.2.2.2.2.2.2.2.2.2.2.2.2.2.2.2.1) (A46 (ep48 ne T).2.2.2.2.2.2.2.2.2.2.2.2.2.2.2.2.2.2.2.2.2.2.2.2.2.2.2.2.2.2.2.2.2.2.2.2.2.2.2.2.2.2.2.2.2.1) (A47 (ep48 ne T).2.2.2.2.2.2.2.2.2.2.2.2.2.2.2.2.2.2.2.2.2.2.2.2.2.2.2.2.2.2.2.2.2.2.2.2.2.2.2.2.2.2.2.2.2.2.1) (A48 (ep48 ne T).2.2.2.2.2.2.2.2.2.2.2.2.2.2.2.2.2.2.2.2.2.2.2.2.2.2.2.2.2.2.2.2.2.2.2.2.2.2.2.2.2.2.2.2.2.2.2) → T (A1 (ep48 ne T).1) (A2 (ep48 ne T).2.1) (A3 (ep48 ne T).2.2.1) (A4 (ep48 ne T).2.2.2.1) (A5 (ep48 ne T).2.2.2.2.1) (A6 (ep48 ne T).2.2.2.2.2.1) (A7 (ep48 ne T).2.2.2.2.2.2.1) (A8 (ep48 ne T).2.2.2.2.2.2.2.1) (A9 (ep48 ne T).2.2.2.2.2.2.2.2.1) (A10 (ep48 ne T).2.2.2.2.2.2.2.2.2.1) (A11 (ep48 ne T).2.2.2.2.2.2.2.2.2.2.1) (A12 (ep48 ne T).2.2.2.2.2.2.2.2.2.2.2.1) (A13 (ep48 ne T).2.2.2.2.2.2.2.2.2.2.2.2.1) (A14 (ep48 ne T).2.2.2.2.2.2.2.2.2.2.2.2.2.1) (A15 (ep48 ne T).2.2.2.2.2.2.2.2.2.2.2.2.2.2.1) (A16 (ep48 ne T).2.2.2.2.2.2.2.2.2.2.2.2.2.2.2.1) (A17 (ep48 ne T).2.2.2.2.2.2.2.2.2.2.2.2.2.2.2.2.1) (A18 (ep48 ne T).2.2.2.2.2.2.2.2.2.2.2.2.2.2.2.2.2.1) (A19 (ep48 ne T).2.2.2.2.2.2.2.2.2.2.2.2.2.2.2.2.2.2.1) (A20 (ep48 ne T).2.2.2.2.2.2.2.2.2.2.2.2.2.2.2.2.2.2.2.1) (A21 (ep48 ne T).2.2.2.2.2.2.2.2.2.2.2.2.2.2.2.2.2.2.2.2.1) (A22 (ep48 ne T).2.2.2.2.2.2.2.2.2.2.2.2.2.2.2.2.2.2.2.2.2.1) (A23 (ep48 ne T).2.2.2.2.2.2.2.2.2.2.2.2.2.2.2.2.2.2.2.2.2.2.1) (A24 (ep48 ne T).2.2.2.2.2.2.2.2.2.2.2.2.2.2.2.2.2.2.2.2.2.2.2.1) (A25 (ep48 ne T).2.2.2.2.2.2.2.2.2.2.2.2.2.2.2.2.2.2.2.2.2.2.2.2.1) (A26 (ep48 ne T).2.2.2.2.2.2.2.2.2.2.2.2.2.2.2.2.2.2.2.2.2.2.2.2.2.1) (A27 (ep48 ne T).2.2.2.2.2.2.2.2.2.2.2.2.2.2.2.2.2.2.2.2.2.2.2.2.2.2.1) (A28 (ep48 ne T).2.2.2.2.2.2.2.2.2.2.2.2.2.2.2.2.2.2.2.2.2.2.2.2.2.2.2.1) (A29 (ep48 ne T).2.2.2.2.2.2.2.2.2.2.2.2.2.2.2.2.2.2.2.2.2.2.2.2.2.2.2.2.1) (A30 (ep48 ne T).2.2.2.2.2.2.2.2.2.2.2.2.2.2.2.2.2.2.2.2.2.2.2.2.2.2.2.2.2.1) (A31 (ep48 ne T).2.2.2.2.2.2.2.2.2.2.2.2.2.2.2.2.2.2.2.2.2.2.2.2.2.2.2.2.2.2.1) (A32 (ep48 ne T).2.2.2.2.2.2.2.2.2.2.2.2.2.2.2.2.2.2.2.2.2.2.2.2.2.2.2.2.2.2.2.1) (A33 (ep48 ne T).2.2.2.2.2.2.2.2.2.2.2.2.2.2.2.2.2.2.2.2.2.2.2.2.2.2.2.2.2.2.2.2.1) (A34 (ep48 ne T).2.2.2.2.2.2.2.2.2.2.2.2.2.2.2.2.2.2.2.2.2.2.2.2.2.2.2.2.2.2.2.2.2.1) (A35 (ep48 ne T).2.2.2.2.2.2.2.2.2.2.2.2.2.2.2.2.2.2.2.2.2.2.2.2.2.2.2.2.2.2.2.2.2.2.1) (A36 (ep48 ne T).2.2.2.2.2.2.2.2.2.2.2.2.2.2.2.2.2.2.2.2.2.2.2.2.2.2.2.2.2.2.2.2.2.2.2.1) (A37 (ep48 ne T).2.2.2.2.2.2.2.2.2.2.2.2.2.2.2.2.2.2.2.2.2.2.2.2.2.2.2.2.2.2.2.2.2.2.2.2.1) (A38 (ep48 ne T).2.2.2.2.2.2.2.2.2.2.2.2.2.2.2.2.2.2.2.2.2.2.2.2.2.2.2.2.2.2.2.2.2.2.2.2.2.1) (A39 (ep48 ne T).2.2.2.2.2.2.2.2.2.2.2.2.2.2.2.2.2.2.2.2.2.2.2.2.2.2.2.2.2.2.2.2.2.2.2.2.2.2.1) (A40 (ep48 ne T).2.2.2.2.2.2.2.2.2.2.2.2.2.2.2.2.2.2.2.2.2.2.2.2.2.2.2.2.2.2.2.2.2.2.2.2.2.2.2.1) (A41 (ep48 ne T).2.2.2.2.2.2.2.2.2.2.2.2.2.2.2.2.2.2.2.2.2.2.2.2.2.2.2.2.2.2.2.2.2.2.2.2.2.2.2.2.1) (A42 (ep48 ne T).2.2.2.2.2.2.2.2.2.2.2.2.2.2.2.2.2.2.2.2.2.2.2.2.2.2.2.2.2.2.2.2.2.2.2.2.2.2.2.2.2.1) (A43 (ep48 ne T).2.2.2.2.2.2.2.2.2.2.2.2.2.2.2.2.2.2.2.2.2.2.2.2.2.2.2.2.2.2.2.2.2.2.2.2.2.2.2.2.2.2.1) (A44 (ep48 ne T).2.2.2.2.2.2.2.2.2.2.2.2.2.2.2.2.2.2.2.2.2.2.2.2.2.2.2.2.2.2.2.2.2.2.2.2.2.2.2.2.2.2.2.1) (A45 (ep48 ne T).2.2.2.2.2.2.2.2.2.2.2.2.2.2.2.2.2.2.2.2.2.2.2.2.2.2.2.2.2.2.2.2.2.2.2.2.2.2.2.2.2.2.2.2.1) (A46 (ep48 ne T).2.2.2.2.2.2.2.2.2.2.2.2.2.2.2.2.2.2.2.2.2.2.2.2.2.2.2.2.2.2.2.2.2.2.2.2.2.2.2.2.2.2.2.2.2.1) (A47 (ep48 ne T).2.2.2.2.2.2.2.2.2.2.2.2.2.2.2.2.2.2.2.2.2.2.2.2.2.2.2.2.2.2.2.2.2.2.2.2.2.2.2.2.2.2.2.2.2.2.1) (A48 (ep48 ne T).2.2.2.2.2.2.2.2.2.2.2.2.2.2.2.2.2.2.2.2.2.2.2.2.2.2.2.2.2.2.2.2.2.2.2.2.2.2.2.2.2.2.2.2.2.2.2)) : ∀ x1 x2 x3 x4 x5 x6 x7 x8 x9 x10 x11 x12 x13 x14 x15 x16 x17 x18 x19 x20 x21 x22 x23 x24 x25 x26 x27 x28 x29 x30 x31 x32 x33 x34 x35 x36 x37 x38 x39 x40 x41 x42 x43 x44 x45 x46 x47 x48, T x1 x2 x3 x4 x5 x6 x7 x8 x9 x10 x11 x12 x13 x14 x15 x16 x17 x18 x19 x20 x21 x22 x23 x24 x25 x26 x27 x28 x29 x30 x31 x32 x33 x34 x35 x36 x37 x38 x39 x40 x41 x42 x43 x44 x45 x46 x47 x48 := fun x1 x2 x3 x4 x5 x6 x7 x8 x9 x10 x11 x12 x13 x14 x15 x16 x17 x18 x19 x20 x21 x22 x23 x24 x25 x26 x27 x28 x29 x30 x31 x32 x33 x34 x35 x36 x37 x38 x39 x40 x41 x42 x43 x44 x45 x46 x47 x48 => Classical.byContradiction fun hx => @Classical.epsilon_spec _ (fun p : α1 × α2 × α3 × α4 × α5 × α6 × α7 × α8 × α9 × α10 × α11 × α12 × α13 × α14 × α15 × α16 × α17 × α18 × α19 × α20 × α21 × α22 × α23 × α24 × α25 × α26 × α27 × α28 × α29 × α30 × α31 × α32 × α33 × α34 × α35 × α36 × α37 × α38 × α39 × α40 × α41 × α42 × α43 × α44 × α45 × α46 × α47 × α48 => ¬ T p.1 p.2.1 p.2.2.1 p.2.2.2.1 p.2.2.2.2.1 p.2.2.2.2.2.1 p.2.2.2.2.2.2.1 p.2.2.2.2.2.2.2.1 p.2.2.2.2.2.2.2.2.1 p.2.2.2.2.2.2.2.2.2.1 p.2.2.2.2.2.2.2.2.2.2.1 p.2.2.2.2.2.2.2.2.2.2.2.1 p.2.2.2.2.2.2.2.2.2.2.2.2.1 p.2.2.2.2.2.2.2.2.2.2.2.2.2.1 p.2.2.2.2.2.2.2.2.2.2.2.2.2.2.1 p.2.2.2.2.2.2.2.2.2.2.2.2.2.2.2.1 p.2.2.2.2.2.2.2.2.2.2.2.2.2.2.2.2.1 p.2.2.2.2.2.2.2.2.2.2.2.2.2.2.2.2.2.1 p.2.2.2.2.2.2.2.2.2.2.2.2.2.2.2.2.2.2.1 p.2.2.2.2.2.2.2.2.2.2.2.2.2.2.2.2.2.2.2.1 p.2.2.2.2.2.2.2.2.2.2.2.2.2.2.2.2.2.2.2.2.1 p.2.2.2.2.2.2.2.2.2.2.2.2.2.2.2.2.2.2.2.2.2.1 p.2.2.2.2.2.2.2.2.2.2.2.2.2.2.2.2.2.2.2.2.2.2.1 p.2.2.2.2.2.2.2.2.2.2.2.2.2.2.2.2.2.2.2.2.2.2.2.1 p.2.2.2.2.2.2.2.2.2.2.2.2.2.2.2.2.2.2.2.2.2.2.2.2.1 p.2.2.2.2.2.2.2.2.2.2.2.2.2.2.2.2.2.2.2.2.2.2.2.2.2.1 p.2.2.2.2.2.2.2.2.2.2.2.2.2.2.2.2.2.2.2.2.2.2.2.2.2.2.1 p.2.2.2.2.2.2.2.2.2.2.2.2.2.2.2.2.2.2.2.2.2.2.2.2.2.2.2.1 p.2.2.2.2.2.2.2.2.2.2.2.2.2.2.2.2.2.2.2.2.2.2.2.2.2.2.2.2.1 p.2.2.2.2.2.2.2.2.2.2.2.2.2.2.2.2.2.2.2.2.2.2.2.2.2.2.2.2.2.1 p.2.2.2.2.2.2.2.2.2.2.2.2.2.2.2.2.2.2.2.2.2.2.2.2.2.2.2.2.2.2.1 p.2.2.2.2.2.2.2.2.2.2.2.2.2.2.2.2.2.2.2.2.2.2.2.2.2.2.2.2.2.2.2.1 p.2.2.2.2.2.2.2.2.2.2.2.2.2.2.2.2.2.2.2.2.2.2.2.2.2.2.2.2.2.2.2.2.1 p.2.2.2.2.2.2.2.2.2.2.2.2.2.2.2.2.2.2.2.2.2.2.2.2.2.2.2.2.2.2.2.2.2.1 p.2.2.2.2.2.2.2.2.2.2.2.2.2.2.2.2.2.2.2.2.2.2.2.2.2.2.2.2.2.2.2.2.2.2.1 p.2.2.2.2.2.2.2.2.2.2.2.2.2.2.2.2.2.2.2.2.2.2.2.2.2.2.2.2.2.2.2.2.2.2.2.1 p.2.2.2.2.2.2.2.2.2.2.2.2.2.2.2.2.2.2.2.2.2.2.2.2.2.2.2.2.2.2.2.2.2.2.2.2.1 p.2.2.2.2.2.2.2.2.2.2.2.2.2.2.2.2.2.2.2.2.2.2.2.2.2.2.2.2.2.2.2.2.2.2.2.2.2.1 p.2.2.2.2.2.2.2.2.2.2.2.2.2.2.2.2.2.2.2.2.2.2.2.2.2.2.2.2.2.2.2.2.2.2.2.2.2.2.1 p.2.2.2.2.2.2.2.2.2.2.2.2.2.2.2.2.2.2.2.2.2.2.2.2.2.2.2.2.2.2.2.2.2.2.2.2.2.2.2.1 p.2.2.2.2.2.2.2.2.2.2.2.2.2.2.2.2.2.2.2.2.2.2.2.2.2.2.2.2.2.2.2.2.2.2.2.2.2.2.2.2.1 p.2.2.2.2.2.2.2.2.2.2.2.2.2.2.2.2.2.2.2.2.2.2.2.2.2.2.2.2.2.2.2.2.2.2.2.2.2.2.2.2.2.1 p.2.2.2.2.2.2.2.2.2.2.2.2.2.2.2.2.2.2.2.2.2.2.2.2.2.2.2.2.2.2.2.2.2.2.2.2.2.2.2.2.2.2.1 p.2.2.2.2.2.2.2.2.2.2.2.2.2.2.2.2.2.2.2.2.2.2.2.2.2.2.2.2.2.2.2.2.2.2.2.2.2.2.2.2.2.2.2.1 p.2.2.2.2.2.2.2.2.2.2.2.2.2.2.2.2.2.2.2.2.2.2.2.2.2.2.2.2.2.2.2.2.2.2.2.2.2.2.2.2.2.2.2.2.1 p.2.2.2.2.2.2.2.2.2.2.2.2.2.2.2.2.2.2.2.2.2.2.2.2.2.2.2.2.2.2.2.2.2.2.2.2.2.2.2.2.2.2.2.2.2.1 p.2.2.2.2.2.2.2.2.2.2.2.2.2.2.2.2.2.2.2.2.2.2.2.2.2.2.2.2.2.2.2.2.2.2.2.2.2.2.2.2.2.2.2.2.2.2.1 p.2.2.2.2.2.2.2.2.2.2.2.2.2.2.2.2.2.2.2.2.2.2.2.2.2.2.2.2.2.2.2.2.2.2.2.2.2.2.2.2.2.2.2.2.2.2.2) ⟨⟨x1, x2, x3, x4, x5, x6, x7, x8, x9, x10, x11, x12, x13, x14, x15, x16, x17, x18, x19, x20, x21, x22, x23, x24, x25, x26, x27, x28, x29, x30, x31, x32, x33, x34, x35, x36, x37, x38, x39, x40, x41, x42, x43, x44, x45, x46, x47, x48⟩, hx⟩ (h trivial)
noncomputable def ep59 {α1 α2 α3 α4 α5 α6 α7 α8 α9 α10 α11 α12 α13 α14 α15 α16 α17 α18 α19 α20 α21 α22 α23 α24 α25 α26 α27 α28 α29 α30 α31 α32 α33 α34 α35 α36 α37 α38 α39 α40 α41 α42 α43 α44 α45 α46 α47 α48 α49 α50 α51 α52 α53 α54 α55 α56 α57 α58 α59 : Type} (ne : Nonempty (α1 × α2 × α3 × α4 × α5 × α6 × α7 × α8 × α9 × α10 × α11 × α12 × α13 × α14 × α15 × α16 × α17 × α18 × α19 × α20 × α21 × α22 × α23 × α24 × α25 × α26 × α27 × α28 × α29 × α30 × α31 × α32 × α33 × α34 × α35 × α36 × α37 × α38 × α39 × α40 × α41 × α42 × α43 × α44 × α45 × α46 × α47 × α48 × α49 × α50 × α51 × α52 × α53 × α54 × α55 × α56 × α57 × α58 × α59)) (T : α1 → α2 → α3 → α4 → α5 → α6 → α7 → α8 → α9 → α10 → α11 → α12 → α13 → α14 → α15 → α16 → α17 → α18 → α19 → α20 → α21 → α22 → α23 → α24 → α25 → α26 → α27 → α28 → α29 → α30 → α31 → α32 → α33 → α34 → α35 → α36 → α37 → α38 → α39 → α40 → α41 → α42 → α43 → α44 → α45 → α46 → α47 → α48 → α49 → α50 → α51 → α52 → α53 → α54 → α55 → α56 → α57 → α58 → α59 → Prop) : α1 × α2 × α3 × α4 × α5 × α6 × α7 × α8 × α9 × α10 × α11 × α12 × α13 × α14 × α15 × α16 × α17 × α18 × α19 × α20 × α21 × α22 × α23 × α24 × α25 × α26 × α27 × α28 × α29 × α30 × α31 × α32 × α33 × α34 × α35 × α36 × α37 × α38 × α39 × α40 × α41 × α42 × α43 × α44 × α45 × α46 × α47 × α48 × α49 × α50 × α51 × α52 × α53 × α54 × α55 × α56 × α57 × α58 × α59 := @Classical.epsilon _ ne fun p => ¬ T p.1 p.2.1 p.2.2.1 p.2.2.2.1 p.2.2.2.2.1 p.2.2.2.2.2.1 p.2.2.2.2.2.2.1 p.2.2.2.2.2.2.2.1 p.2.2.2.2.2.2.2.2.1 p.2.2.2.2.2.2.2.2.2.1 p.2.2.2.2.2.2.2.2.2.2.1 p.2.2.2.2.2.2.2.2.2.2.2.1 p.2.2.2.2.2.2.2.2.2.2.2.2.1 p.2.2.2.2.2.2.2.2.2.2.2.2.2.1 p.2.2.2.2.2.2.2.2.2.2.2.2.2.2.1 p.2.2.2.2.2.2.2.2.2.2.2.2.2.2.2.1 p.2.2.2.2.2.2.2.2.2.2.2.2.2.2.2.2.1 p.2.2.2.2.2.2.2.2.2.2.2.2.2.2.2.2.2.1 p.2.2.2.2.2.2.2.2.2.2.2.2.2.2.2.2.2.2.1 p.2.2.2.2.2.2.2.2.2.2.2.2.2.2.2.2.2.2.2.1 p.2.2.2.2.2.2.2.2.2.2.2.2.2.2.2.2.2.2.2.2.1 p.2.2.2.2.2.2.2.2.2.2.2.2.2.2.2.2.2.2.2.2.2.1 p.2.2.2.2.2.2.2.2.2.2.2.2.2.2.2.2.2.2.2.2.2.2.1 p.2.2.2.2.2.2.2.2.2.2.2.2.2.2.2.2.2.2.2.2.2.2.2.1 p.2.2.2.2.2.2.2.2.2.2.2.2.2.2.2.2.2.2.2.2.2.2.2.2.1 p.2.2.2.2.2.2.2.2.2.2.2.2.2.2.2.2.2.2.2.2.2.2.2.2.2.1 p.2.2.2.2.2.2.2.2.2.2.2.2.2.2.2.2.2.2.2.2.2.2.2.2.2.2.1 p.2.2.2.2.2.2.2.2.2.2.2.2.2.2.2.2.2.2.2.2.2.2.2.2.2.2.2.1 p.2.2.2.2.2.2.2.2.2.2.2.2.2.2.2.2.2.2.2.2.2.2.2.2.2.2.2.2.1 p.2.2.2.2.2.2.2.2.2.2.2.2.2.2.2.2.2.2.2.2.2.2.2.2.2.2.2.2.2.1 p.2.2.2.2.2.2.2.2.2.2.2.2.2.2.2.2.2.2.2.2.2.2.2.2.2.2.2.2.2.2.1 p.2.2.2.2.2.2.2.2.2.2.2.2.2.2.2.2.2.2.2.2.2.2.2.2.2.2.2.2.2.2.2.1 p.2.2.2.2.2.2.2.2.2.2.2.2.2.2.2.2.2.2.2.2.2.2.2.2.2.2.2.2.2.2.2.2.1 p.2.2.2.2.2.2.2.2.2.2.2.2.2.2.2.2.2.2.2.2.2.2.2.2.2.2.2.2.2.2.2.2.2.1 p.2.2.2.2.2.2.2.2.2.2.2.2.2.2.2.2.2.2.2.2.2.2.2.2.2.2.2.2.2.2.2.2.2.2.1 p.2.2.2.2.2.2.2.2.2.2.2.2.2.2.2.2.2.2.2.2.2.2.2.2.2.2.2.2.2.2.2.2.2.2.2.1 p.2.2.2.2.2.2.2.2.2.2.2.2.2.2.2.2.2.2.2.2.2.2.2.2.2.2.2.2.2.2.2.2.2.2.2.2.1 p.2.2.2.2.2.2.2.2.2.2.2.2.2.2.2.2.2.2.2.2.2.2.2.2.2.2.2.2.2.2.2.2.2.2.2.2.2.1 p.2.2.2.2.2.2.2.2.2.2.2.2.2.2.2.2.2.2.2.2.2.2.2.2.2.2.2.2.2.2.2.2.2.2.2.2.2.2.1 p.2.2.2.2.2.2.2.2.2.2.2.2.2.2.2.2.2.2.2.2.2.2.2.2.2.2.2.2.2.2.2.2.2.2.2.2.2.2.2.1 p.2.2.2.2.2.2.2.2.2.2.2.2.2.2.2.2.2.2.2.2.2.2.2.2.2.2.2.2.2.2.2.2.2.2.2.2.2.2.2.2.1 p.2.2.2.2.2.2.2.2.2.2.2.2.2.2.2.2.2.2.2.2.2.2.2.2.2.2.2.2.2.2.2.2.2.2.2.2.2.2.2.2.2.1 p.2.2.2.2.2.2.2.2.2.2.2.2.2.2.2.2.2.2.2.2.2.2.2.2.2.2.2.2.2.2.2.2.2.2.2.2.2.2.2.2.2.2.1 p.2.2.2.2.2.2.2.2.2.2.2.2.2.2.2.2.2.2.2.2.2.2.2.2.2.2.2.2.2.2.2.2.2.2.2.2.2.2.2.2.2.2.2.1 p.2.2.2.2.2.2.2.2.2.2.2.2.2.2.2.2.2.2.2.2.2.2.2.2.2.2.2.2.2.2.2.2.2.2.2.2.2.2.2.2.2.2.2.2.1 p.2.2.2.2.2.2.2.2.2.2.2.2.2.2.2.2.2.2.2.2.2.2.2.2.2.2.2.2.2.2.2.2.2.2.2.2.2.2.2.2.2.2.2.2.2.1 p.2.2.2.2.2.2.2.2.2.2.2.2.2.2.2.2.2.2.2.2.2.2.2.2.2.2.2.2.2.2.2.2.2.2.2.2.2.2.2.2.2.2.2.2.2.2.1 p.2.2.2.2.2.2.2.2.2.2.2.2.2.2.2.2.2.2.2.2.2.2.2.2.2.2.2.2.2.2.2.2.2.2.2.2.2.2.2.2.2.2.2.2.2.2.2.1 p.2.2.2.2.2.2.2.2.2.2.2.2.2.2.2.2.2.2.2.2.2.2.2.2.2.2.2.2.2.2.2.2.2.2.2.2.2.2.2.2.2.2.2.2.2.2.2.2.1 p.2.2.2.2.2.2.2.2.2.2.2.2.2.2.2.2.2.2.2.2.2.2.2.2.2.2.2.2.2.2.2.2.2.2.2.2.2.2.2.2.2.2.2.2.2.2.2.2.2.1 p.2.2.2.2.2.2.2.2.2.2.2.2.2.2.2.2.2.2.2.2.2.2.2.2.2.2.2.2.2.2.2.2.2.2.2.2.2.2.2.2.2.2.2.2.2.2.2.2.2.2.1 p.2.2.2.2.2.2.2.2.2.2.2.2.2.2.2.2.2.2.2.2.2.2.2.2.2.2.2.2.2.2.2.2.2.2.2.2.2.2.2.2.2.2.2.2.2.2.2.2.2.2.2.1 p.2.2.2.2.2.2.2.2.2.2.2.2.2.2.2.2.2.2.2.2.2.2.2.2.2.2.2.2.2.2.2.2.2.2.2.2.2.2.2.2.2.2.2.2.2.2.2.2.2.2.2.2.1 p.2.2.2.2.2.2.2.2.2.2.2.2.2.2.2.2.2.2.2.2.2.2.2.2.2.2.2.2.2.2.2.2.2.2.2.2.2.2.2.2.2.2.2.2.2.2.2.2.2.2.2.2.2.1 p.2.2.2.2.2.2.2.2.2.2.2.2.2.2.2.2.2.2.2.2.2.2.2.2.2.2.2.2.2.2.2.2.2.2.2.2.2.2.2.2.2.2.2.2.2.2.2.2.2.2.2.2.2.2.1 p.2.2.2.2.2.2.2.2.2.2.2.2.2.2.2.2.2.2.2.2.2.2.2.2.2.2.2.2.2.2.2.2.2.2.2.2.2.2.2.2.2.2.2.2.2.2.2.2.2.2.2.2.2.2.2.1 p.2.2.2.2.2.2.2.2.2.2.2.2.2.2.2.2.2.2.2.2.2.2.2.2.2.2.2.2.2.2.2.2.2.2.2.2.2.2.2.2.2.2.2.2.2.2.2.2.2.2.2.2.2.2.2.2.1 p.2.2.2.2.2.2.2.2.2.2.2.2.2.2.2.2.2.2.2.2.2.2.2.2.2.2.2.2.2.2.2.2.2.2.2.2.2.2.2.2.2.2.2.2.2.2.2.2.2.2.2.2.2.2.2.2.2.1 p.2.2.2.2.2.2.2.2.2.2.2.2.2.2.2.2.2.2.2.2.2.2.2.2.2.2.2.2.2.2.2.2.2.2.2.2.2.2.2.2.2.2.2.2.2.2.2.2.2.2.2.2.2.2.2.2.2.2
noncomputable def Used59 {α1 α2 α3 α4 α5 α6 α7 α8 α9 α10 α11 α12 α13 α14 α15 α16 α17 α18 α19 α20 α21 α22 α23 α24 α25 α26 α27 α28 α29 α30 α31 α32 α33 α34 α35 α36 α37 α38 α39 α40 α41 α42 α43 α44 α45 α46 α47 α48 α49 α50 α51 α52 α53 α54 α55 α56 α57 α58 α59 : Type} (_ : α1) (_ : α2) (_ : α3) (_ : α4) (_ : α5) (_ : α6) (_ : α7) (_ : α8) (_ : α9) (_ : α10) (_ : α11) (_ : α12) (_ : α13) (_ : α14) (_ : α15) (_ : α16) (_ : α17) (_ : α18) (_ : α19) (_ : α20) (_ : α21) (_ : α22) (_ : α23) (_ : α24) (_ : α25) (_ : α26) (_ : α27) (_ : α28) (_ : α29) (_ : α30) (_ : α31) (_ : α32) (_ : α33) (_ : α34) (_ : α35) (_ : α36) (_ : α37) (_ : α38) (_ : α39) (_ : α40) (_ : α41) (_ : α42) (_ : α43) (_ : α44) (_ : α45) (_ : α46) (_ : α47) (_ : α48) (_ : α49) (_ : α50) (_ : α51) (_ : α52) (_ : α53) (_ : α54) (_ : α55) (_ : α56) (_ : α57) (_ : α58) (_ : α59) : Prop := True
theorem hk59 {α1 α2 α3 α4 α5 α6 α7 α8 α9 α10 α11 α12 α13 α14 α15 α16 α17 α18 α19 α20 α21 α22 α23 α24 α25 α26 α27 α28 α29 α30 α31 α32 α33 α34 α35 α36 α37 α38 α39 α40 α41 α42 α43 α44 α45 α46 α47 α48 α49 α50 α51 α52 α53 α54 α55 α56 α57 α58 α59 : Type} {T : α1 → α2 → α3 → α4 → α5 → α6 → α7 → α8 → α9 → α10 → α11 → α12 → α13 → α14 → α15 → α16 → α17 → α18 → α19 → α20 → α21 → α22 → α23 → α24 → α25 → α26 → α27 → α28 → α29 → α30 → α31 → α32 → α33 → α34 → α35 → α36 → α37 → α38 → α39 → α40 → α41 → α42 → α43 → α44 → α45 → α46 → α47 → α48 → α49 → α50 → α51 → α52 → α53 → α54 → α55 → α56 → α57 → α58 → α59 → Prop} (ne : Nonempty (α1 × α2 × α3 × α4 × α5 × α6 × α7 × α8 × α9 × α10 × α11 × α12 × α13 × α14 × α15 × α16 × α17 × α18 × α19 × α20 × α21 × α22 × α23 × α24 × α25 × α26 × α27 × α28 × α29 × α30 × α31 × α32 × α33 × α34 × α35 × α36 × α37 × α38 × α39 × α40 × α41 × α42 × α43 × α44 × α45 × α46 × α47 × α48 × α49 × α50 × α51 × α52 × α53 × α54 × α55 × α56 × α57 × α58 × α59)) (h : Used59 (A1 (ep59 ne T).1) (A2 (ep59 ne T).2.1) (A3 (ep59 ne T).2.2.1) (A4 (ep59 ne T).2.2.2.1) (A5 (ep59 ne T).2.2.2.2.1) (A6 (ep59 ne T).2.2.2.2.2.1) (A7 (ep59 ne T).2.2.2.2.2.2.1) (A8 (ep59 ne T).2.2.2.2.2.2.2.1) (A9 (ep59 ne T).2.2.2.2.2.2.2.2.1) (A10 (ep59 ne T).2.2.2.2.2.2.2.2.2.1) (A11 (ep59 ne T).2.2.2.2.2.2.2.2.2.2.1) (A12 (ep59 ne T).2.2.2.2.2.2.2.2.2.2.2.1) (A13 (ep59 ne T).2.2.2.2.2.2.2.2.2.2.2.2.1) (A14 (ep59 ne T).2.2.2.2.2.2.2.2.2.2.2.2.2.1) (A15 (ep59 ne T).2.2.2.2.2.2.2.2.2.2.2.2.2.2.1) (A16 (ep59 ne T).2.2.2.2.2.2.2.2.2.2.2.2.2.2.2.1) (A17 (ep59 ne T).2.2.2.2.2.2.2.2.2.2.2.2.2.2.2.2.1) (A18 (ep59 ne T).2.2.2.2.2.2.2.2.2.2.2.2.2.2.2.2.2.1) (A19 (ep59 ne T).2.2.2.2.2.2.2.2.2.2.2.2.2.2.2.2.2.2.1) (A20 (ep59 ne T).2.2.2.2.2.2.2.2.2.2.2.2.2.2.2.2.2.2.2.1) (A21 (ep59 ne T).2.2.2.2.2.2.2.2.2.2.2.2.2.2.2.2.2.2.2.2.1) (A22 (ep59 ne T).2.2.2.2.2.2.2.2.2.2.2.2.2.2.2.2.2.2.2.2.2.1) (A23 (ep59 ne T).2.2.2.2.2.2.2.2.2.2.2.2.2.2.2.2.2.2.2.2.2.2.1) (A24 (ep59 ne T).2.2.2.2.2.2.2.2.2.2.2.2.2.2.2.2.2.2.2.2.2.2.2.1) (A25 (ep59 ne T).2.2.2.2.2.2.2.2.2.2.2.2.2.2.2.2.2.2.2.2.2.2.2.2.1) (A26 (ep59 ne T).2.2.2.2.2.2.2.2.2.2.2.2.2.2.2.2.2.2.2.2.2.2.2.2.2.1) (A27 (ep59 ne T).2.2.2.2.2.2.2.2.2.2.2.2.2.2.2.2.2.2.2.2.2.2.2.2.2.2.1) (A28 (ep59 ne T).2.2.2.2.2.2.2.2.2.2.2.2.2.2.2.2.2.2.2.2.2.2.2.2.2.2.2.1) (A29 (ep59 ne T).2.2.2.2.2.2.2.2.2.2.2.2.2.2.2.2.2.2.2.2.2.2.2.2.2.2.2.2.1) (A30 (ep59 ne T).2.2.2.2.2.2.2.2.2.2.2.2.2.2.2.2.2.2.2.2.2.2.2.2.2.2.2.2.2.1) (A31 (ep59 ne T).2.2.2.2.2.2.2.2.2.2.2.2.2.2.2.2.2.2.2.2.2.2.2.2.2.2.2.2.2.2.1) (A32 (ep59 ne T).2.2.2.2.2.2.2.2.2.2.2.2.2.2.2.2.2.2.2.2.2.2.2.2.2.2.2.2.2.2.2.1) (A33 (ep59 ne T).2.2.2.2.2.2.2.2.2.2.2.2.2.2.2.2.2.2.2.2.2.2.2.2.2.2.2.2.2.2.2.2.1) (A34 (ep59 ne T).2.2.2.2.2.2.2.2.2.2.2.2.2.2.2.2.2.2.2.2.2.2.2.2.2.2.2.2.2.2.2.2.2.1) (A35 (ep59 ne T).2.2.2.2.2.2.2.2.2.2.2.2.2.2.2.2.2.2.2.2.2.2.2.2.2.2.2.2.2.2.2.2.2.2.1) (A36 (ep59 ne T).2.2.2.2.2.2.2.2.2.2.2.2.2.2.2.2.2.2.2.2.2.2.2.2.2.2.2.2.2.2.2.2.2.2.2.1) (A37 (ep59 ne T).2.2.2.2.2.2.2.2.2.2.2.2.2.2.2.2.2.2.2.2.2.2.2.2.2.2.2.2.2.2.2.2.2.2.2.2.1) (A38 (ep59 ne T).2.2.2.2.2.2.2.2.2.2.2.2.2.2.2.2.2.2.2.2.2.2.2.2.2.2.2.2.2.2.2.2.2.2.2.2.2.1) (A39 (ep59 ne T).2.2.2.2.2.2.2.2.2.2.2.2.2.2.2.2.2.2.2.2.2.2.2.2.2.2.2.2.2.2.2.2.2.2.2.2.2.2.1) (A40 (ep59 ne T).2.2.2.2.2.2.2.2.2.2.2.2.2.2.2.2.2.2.2.2.2.2.2.2.2.2.2.2.2.2.2.2.2.2.2.2.2.2.2.1) (A41 (ep59 ne T).2.2.2.2.2.2.2.2.2.2.2.2.2.2.2.2.2.2.2.2.2.2.2.2.2.2.2.2.2.2.2.2.2.2.2.2.2.2.2.2.1) (A42 (ep59 ne T).2.2.2.2.2.2.2.2.2.2.2.2.2.2.2.2.2.2.2.2.2.2.2.2.2.2.2.2.2.2.2.2.2.2.2.2.2.2.2.2.2.1) (A43 (ep59 ne T).2.2.2.2.2.2.2.2.2.2.2.2.2.2.2.2.2.2.2.2.2.2.2.2.2.2.2.2.2.2.2.2.2.2.2.2.2.2.2.2.2.2.1) (A44 (ep59 ne T).2.2.2.2.2.2.2.2.2.2.2.2.2.2.2.2.2.2.2.2.2.2.2.2.2.2.2.2.2.2.2.2.2.2.2.2.2.2.2.2.2.2.2.1) (A45 (ep59 ne T).2.2.2.2.2.2.2.2.2.2.2.2.2.2.2.2.2.2.2.2.2.2.2.2.2.2.2.2.2.2.2.2.2.2.2.2.2.2.2.2.2.2.2.2.1) (A46 (ep59 ne T).2.2.2.2.2.2.2.2.2.2.2.2.2.2.2.2.2.2.2.2.2.2.2.2.2.2.2.2.2.2.2.2.2.2.2.2.2.2.2.2.2.2.2.2.2.1) (A47 (ep59 ne T).2.2.2.2.2.2.2.2.2.2.2.2.2.2.2.2.2.2.2.2.2.2.2.2.2.2.2.2.2.2.2.2.2.2.2.2.2.2.2.2.2.2.2.2.2.2.1) (A48 (ep59 ne T).2.2.2.2.2.2.2.2.2.2.2.2.2.2.2.2.2.2.2.2.2.2.2.2.2.2.2.2.2.2.2.2.2.2.2.2.2.2.2.2.2.2.2.2.2.2.2.1) (A49 (ep59 ne T).2.2.2.2.2.2.2.2.2.2.2.2.2.2.2.2.2.2.2.2.2.2.2.2.2.2.2.2.2.2.2.2.2.2.2.2.2.2.2.2.2.2.2.2.2.2.2.2.1) (A50 (ep59 ne T).2.2.2.2.2.2.2.2.2.2.2.2.2.2.2.2.2.2.2.2.2.2.2.2.2.2.2.2.2.2.2.2.2.2.2.2.2.2.2.2.2.2.2.2.2.2.2.2.2.1) (A51 (ep59 ne T).2.2.2.2.2.2.2.2.2.2.2.2.2.2.2.2.2.2.2.2.2.2.2.2.2.2.2.2.2.2.2.2.2.2.2.2.2.2.2.2.2.2.2.2.2.2.2.2.2.2.1) (A52 (ep59 ne T).2.2.2.2.2.2.2.2.2.2.2.2.2.2.2.2.2.2.2.2.2.2.2.2.2.2.2.2.2.2.2.2.2.2.2.2.2.2.2.2.2.2.2.2.2.2.2.2.2.2.2.1) (A53 (ep59 ne T).2.2.2.2.2.2.2.2.2.2.2.2.2.2.2.2.2.2.2.2.2.2.2.2.2.2.2.2.2.2.2.2.2.2.2.2.2.2.2.2.2.2.2.2.2.2.2.2.2.2.2.2.1) (A54 (ep59 ne T).2.2.2.2.2.2.2.2.2.2.2.2.2.2.2.2.2.2.2.2.2.2.2.2.2.2.2.2.2.2.2.2.2.2.2.2.2.2.2.2.2.2.2.2.2.2.2.2.2.2.2.2.2.1) (A55 (ep59 ne T).2.2.2.2.2.2.2.2.2.2.2.2.2.2.2.2.2.2.2.2.2.2.2.2.2.2.2.2.2.2.2.2.2.2.2.2.2.2.2.2.2.2.2.2.2.2.2.2.2.2.2.2.2.2.1) (A56 (ep59 ne T).2.2.2.2.2.2.2.2.2.2.2.2.2.2.2.2.2.2.2.2.2.2.2.2.2.2.2.2.2.2.2.2.2.2.2.2.2.2.2.2.2.2.2.2.2.2.2.2.2.2.2.2.2.2.2.1) (A57 (ep59 ne T).2.2.2.2.2.2.2.2.2.2.2.2.2.2.2.2.2.2.2.2.2.2.2.2.2.2.2.2.2.2.2.2.2.2.2.2.2.2.2.2.2.2.2.2.2.2.2.2.2.2.2.2.2.2.2.2.1) (A58 (ep59 ne T).2.2.2.2.2.2.2.2.2.2.2.2.2.2.2.2.2.2.2.2.2.2.2.2.2.2.2.2.2.2.2.2.2.2.2.2.2.2.2.2.2.2.2.2.2.2.2.2.2.2.2.2.2.2.2.2.2.1) (A59 (ep59 ne T).2.2.2.2.2.2.2.2.2.2.2.2.2.2.2.2.2.2.2.2.2.2.2.2.2.2.2.2.2.2.2.2.2.2.2.2.2.2.2.2.2.2.2.2.2.2.2.2.2.2.2.2.2.2.2.2.2.2) → T (A1 (ep59 ne T).1) (A2 (ep59 ne T).2.1) (A3 (ep59 ne T).2.2.1) (A4 (ep59 ne T).2.2.2.1) (A5 (ep59 ne T).2.2.2.2.1) (A6 (ep59 ne T).2.2.2.2.2.1) (A7 (ep59 ne T).2.2.2.2.2.2.1) (A8 (ep59 ne T).2.2.2.2.2.2.2.1) (A9 (ep59 ne T).2.2.2.2.2.2.2.2.1) (A10 (ep59 ne T).2.2.2.2.2.2.2.2.2.1) (A11 (ep59 ne T).2.2.2.2.2.2.2.2.2.2.1) (A12 (ep59 ne T).2.2.2.2.2.2.2.2.2.2.2.1) (A13 (ep59 ne T).2.2.2.2.2.2.2.2.2.2.2.2.1) (A14 (ep59 ne T).2.2.2.2.2.2.2.2.2.2.2.2.2.1) (A15 (ep59 ne T).2.2.2.2.2.2.2.2.2.2.2.2.2.2.1) (A16 (ep59 ne T).2.2.2.2.2.2.2.2.2.2.2.2.2.2.2.1) (A17 (ep59 ne T).2.2.2.2.2.2.2.2.2.2.2.2.2.2.2.2.1) (A18 (ep59 ne T).2.2.2.2.2.2.2.2.2.2.2.2.2.2.2.2.2.1) (A19 (ep59 ne T).2.2.2.2.2.2.2.2.2.2.2.2.2.2.2.2.2.2.1) (A20 (ep59 ne T).2.2.2.2.2.2.2.2.2.2.2.2.2.2.2.2.2.2.2.1) (A21 (ep59 ne T).2.2.2.2.2.2.2.2.2.2.2.2.2.2.2.2.2.2.2.2.1) (A22 (ep59 ne T).2.2.2.2.2.2.2.2.2.2.2.2.2.2.2.2.2.2.2.2.2.1) (A23 (ep59 ne T).2.2.2.2.2.2.2.2.2.2.2.2.2.2.2.2.2.2.2.2.2.2.1) (A24 (ep59 ne T).2.2.2.2.2.2.2.2.2.2.2.2.2.2.2.2.2.2.2.2.2.2.2.1) (A25 (ep59 ne T).2.2.2.2.2.2.2.2.2.2.2.2.2.2.2.2.2.2.2.2.2.2.2.2.1) (A26 (ep59 ne T).2.2.2.2.2.2.2.2.2.2.2.2.2.2.2.2.2.2.2.2.2.2.2.2.2.1) (A27 (ep59 ne T).2.2.2.2.2.2.2.2.2.2.2.2.2.2.2.2.2.2.2.2.2.2.2.2.2.2.1) (A28 (ep59 ne T).2.2.2.2.2.2.2.2.2.2.2.2.2.2.2.2.2.2.2.2.2.2.2.2.2.2.2.1) (A29 (ep59 ne T).2.2.2.2.2.2.2.2.2.2.2.2.2.2.2.2.2.2.2.2.2.2.2.2.2.2.2.2.1) (A30 (ep59 ne T).2.2.2.2.2.2.2.2.2.2.2.2.2.2.2.2.2.2.2.2.2.2.2.2.2.2.2.2.2.1) (A31 (ep59 ne T).2.2.2.2.2.2.2.2.2.2.2.2.2.2.2.2.2.2.2.2.2.2.2.2.2.2.2.2.2.2.1) (A32 (ep59 ne T).2.2.2.2.2.2.2.2.2.2.2.2.2.2.2.2.2.2.2.2.2.2.2.2.2.2.2.2.2.2.2.1) (A33 (ep59 ne T).2.2.2.2.2.2.2.2.2.2.2.2.2.2.2.2.2.2.2.2.2.2.2.2.2.2.2.2.2.2.2.2.1) (A34 (ep59 ne T).2.2.2.2.2.2.2.2.2.2.2.2.2.2.2.2.2.2.2.2.2.2.2.2.2.2.2.2.2.2.2.2.2.1) (A35 (ep59 ne T).2.2.2.2.2.2.2.2.2.2.2.2.2.2.2.2.2.2.2.2.2.2.2.2.2.2.2.2.2.2.2.2.2.2.1) (A36 (ep59 ne T).2.2.2.2.2.2.2.2.2.2.2.2.2.2.2.2.2.2.2.2.2.2.2.2.2.2.2.2.2.2.2.2.2.2.2.1) (A37 (ep59 ne T).2.2.2.2.2.2.2.2.2.2.2.2.2.2.2.2.2.2.2.2.2.2.2.2.2.2.2.2.2.2.2.2.2.2.2.2.1) (A38 (ep59 ne T).2.2.2.2.2.2.2.2.2.2.2.2.2.2.2.2.2.2.2.2.2.2.2.2.2.2.2.2.2.2.2.2.2.2.2.2.2.1) (A39 (ep59 ne T).2.2.2.2.2.2.2.2.2.2.2.2.2.2.2.2.2.2.2.2.2.2.2.2.2.2.2.2.2.2.2.2.2.2.2.2.2.2.1) (A40 (ep59 ne T).2.2.2.2.2.2.2.2.2.2.2.2.2.2.2.2.2.2.2.2.2.2.2.2.2.2.2.2.2.2.2.2.2.2.2.2.2.2.2.1) (A41 (ep59 ne T).2.2.2.2.2.2.2.2.2.2.2.2.2.2.2.2.2.2.2.2.2.2.2.2.2.2.2.2.2.2.2.2.2.2.2.2.2.2.2.2.1) (A42 (ep59 ne T).2.2.2.2.2.2.2.2.2.2.2.2.2.2.2.2.2.2.2.2.2.2.2.2.2.2.2.2.2.2.2.2.2.2.2.2.2.2.2.2.2.1) (A43 (ep59 ne T).2.2.2.2.2.2.2.2.2.2.2.2.2.2.2.2.2.2.2.2.2.2.2.2.2.2.2.2.2.2.2.2.2.2.2.2.2.2.2.2.2.2.1) (A44 (ep59 ne T).2.2.2.2.2.2.2.2.2.2.2.2.2.2.2.2.2.2.2.2.2.2.2.2.2.2.2.2.2.2.2.2.2.2.2.2.2.2.2.2.2.2.2.1) (A45 (ep59 ne T).2.2.2.2.2.2.2.2.2.2.2.2.2.2.2.2.2.2.2.2.2.2.2.2.2.2.2.2.2.2.2.2.2.2.2.2.2.2.2.2.2.2.2.2.1) (A46 (ep59 ne T).2.2.2.2.2.2.2.2.2.2.2.2.2.2.2.2.2.2.2.2.2.2.2.2.2.2.2.2.2.2.2.2.2.2.2.2.2.2.2.2.2.2.2.2.2.1) (A47 (ep59 ne T).2.2.2.2.2.2.2.2.2.2.2.2.2.2.2.2.2.2.2.2.2.2.2.2.2.2.2.2.2.2.2.2.2.2.2.2.2.2.2.2.2.2.2.2.2.2.1) (A48 (ep59 ne T).2.2.2.2.2.2.2.2.2.2.2.2.2.2.2.2.2.2.2.2.2.2.2.2.2.2.2.2.2.2.2.2.2.2.2.2.2.2.2.2.2.2.2.2.2.2.2.1) (A49 (ep59 ne T).2.2.2.2.2.2.2.2.2.2.2.2.2.2.2.2.2.2.2.2.2.2.2.2.2.2.2.2.2.2.2.2.2.2.2.2.2.2.2.2.2.2.2.2.2.2.2.2.1) (A50 (ep59 ne T).2.2.2.2.2.2.2.2.2.2.2.2.2.2.2.2.2.2.2.2.2.2.2.2.2.2.2.2.2.2.2.2.2.2.2.2.2.2.2.2.2.2.2.2.2.2.2.2.2.1) (A51 (ep59 ne T).2.2.2.2.2.2.2.2.2.2.2.2.2.2.2.2.2.2.2.2.2.2.2.2.2.2.2.2.2.2.2.2.2.2.2.2.2.2.2.2.2.2.2.2.2.2.2.2.2.2.1) (A52 (ep59 ne T).2.2.2.2.2.2.2.2.2.2.2.2.2.2.2.2.2.2.2.2.2.2.2.2.2.2.2.2.2.2.2.2.2.2.2.2.2.2.2.2.2.2.2.2.2.2.2.2.2.2.2.1) (A53 (ep59 ne T).2.2.2.2.2.2.2.2.2.2.2.2.2.2.2.2.2.2.2.2.2.2.2.2.2.2.2.2.2.2.2.2.2.2.2.2.2.2.2.2.2.2.2.2.2.2.2.2.2.2.2.2.1) (A54 (ep59 ne T).2.2.2.2.2.2.2.2.2.2.2.2.2.2.2.2.2.2.2.2.2.2.2.2.2.2.2.2.2.2.2.2.2.2.2.2.2.2.2.2.2.2.2.2.2.2.2.2.2.2.2.2.2.1) (A55 (ep59 ne T).2.2.2.2.2.2.2.2.2.2.2.2.2.2.2.2.2.2.2.2.2.2.2.2.2.2.2.2.2.2.2.2.2.2.2.2.2.2.2.2.2.2.2.2.2.2.2.2.2.2.2.2.2.2.1) (A56 (ep59 ne T).2.2.2.2.2.2.2.2.2.2.2.2.2.2.2.2.2.2.2.2.2.2.2.2.2.2.2.2.2.2.2.2.2.2.2.2.2.2.2.2.2.2.2.2.2.2.2.2.2.2.2.2.2.2.2.1) (A57 (ep59 ne T).2.2.2.2.2.2.2.2.2.2.2.2.2.2.2.2.2.2.2.2.2.2.2.2.2.2.2.2.2.2.2.2.2.2.2.2.2.2.2.2.2.2.2.2.2.2.2.2.2.2.2.2.2.2.2.2.1) (A58 (ep59 ne T).2.2.2.2.2.2.2.2.2.2.2.2.2.2.2.2.2.2.2.2.2.2.2.2.2.2.2.2.2.2.2.2.2.2.2.2.2.2.2.2.2.2.2.2.2.2.2.2.2.2.2.2.2.2.2.2.2.1) (A59 (ep59 ne T).2.2.2.2.2.2.2.2.2.2.2.2.2.2.2.2.2.2.2.2.2.2.2.2.2.2.2.2.2.2.2.2.2.2.2.2.2.2.2.2.2.2.2.2.2.2.2.2.2.2.2.2.2.2.2.2.2.2)) : ∀ x1 x2 x3 x4 x5 x6 x7 x8 x9 x10 x11 x12 x13 x14 x15 x16 x17 x18 x19 x20 x21 x22 x23 x24 x25 x26 x27 x28 x29 x30 x31 x32 x33 x34 x35 x36 x37 x38 x39 x40 x41 x42 x43 x44 x45 x46 x47 x48 x49 x50 x51 x52 x53 x54 x55 x56 x57 x58 x59, T x1 x2 x3 x4 x5 x6 x7 x8 x9 x10 x11 x12 x13 x14 x15 x16 x17 x18 x19 x20 x21 x22 x23 x24 x25 x26 x27 x28 x29 x30 x31 x32 x33 x34 x35 x36 x37 x38 x39 x40 x41 x42 x43 x44 x45 x46 x47 x48 x49 x50 x51 x52 x53 x54 x55 x56 x57 x58 x59 := fun x1 x2 x3 x4 x5 x6 x7 x8 x9 x10 x11 x12 x13 x14 x15 x16 x17 x18 x19 x20 x21 x22 x23 x24 x25 x26 x27 x28 x29 x30 x31 x32 x33 x34 x35 x36 x37 x38 x39 x40 x41 x42 x43 x44 x45 x46 x47 x48 x49 x50 x51 x52 x53 x54 x55 x56 x57 x58 x59 => Classical.byContradiction fun hx => @Classical.epsilon_spec _ (fun p : α1 × α2 × α3 × α4 × α5 × α6 × α7 × α8 × α9 × α10 × α11 × α12 × α13 × α14 × α15 × α16 × α17 × α18 × α19 × α20 × α21 × α22 × α23 × α24 × α25 × α26 × α27 × α28 × α29 × α30 × α31 × α32 × α33 × α34 × α35 × α36 × α37 × α38 × α39 × α40 × α41 × α42 × α43 × α44 × α45 × α46 × α47 × α48 × α49 × α50 × α51 × α52 × α53 × α54 × α55 × α56 × α57 × α58 × α59 => ¬ T p.1 p.2.1 p.2.2.1 p.2.2.2.1 p.2.2.2.2.1 p.2.2.2.2.2.1 p.2.2.2.2.2.2.1 p.2.2.2.2.2.2.2.1 p.2.2.2.2.2.2.2.2.1 p.2.2.2.2.2.2.2.2.2.1 p.2.2.2.2.2.2.2.2.2.2.1 p.2.2.2.2.2.2.2.2.2.2.2.1 p.2.2.2.2.2.2.2.2.2.2.2.2.1 p.2.2.2.2.2.2.2.2.2.2.2.2.2.1 p.2.2.2.2.2.2.2.2.2.2.2.2.2.2.1 p.2.2.2.2.2.2.2.2.2.2.2.2.2.2.2.1 p.2.2.2.2.2.2.2.2.2.2.2.2.2.2.2.2.1 p.2.2.2.2.2.2.2.2.2.2.2.2.2.2.2.2.2.1 p.2.2.2.2.2.2.2.2.2.2.2.2.2.2.2.2.2.2.1 p.2.2.2.2.2.2.2.2.2.2.2.2.2.2.2.2.2.2.2.1 p.2.2.2.2.2.2.2.2.2.2.2.2.2.2.2.2.2.2.2.2.1 p.2.2.2.2.2.2.2.2.2.2.2.2.2.2.2.2.2.2.2.2.2.1 p.2.2.2.2.2.2.2.2.2.2.2.2.2.2.2.2.2.2.2.2.2.2.1 p.2.2.2.2.2.2.2.2.2.2.2.2.2.2.2.2.2.2.2.2.2.2.2.1 p.2.2.2.2.2.2.2.2.2.2.2.2.2.2.2.2.2.2.2.2.2.2.2.2.1 p.2.2.2.2.2.2.2.2.2.2.2.2.2.2.2.2.2.2.2.2.2.2.2.2.2.1 p.2.2.2.2.2.2.2.2.2.2.2.2.2.2.2.2.2.2.2.2.2.2.2.2.2.2.1 p.2.2.2.2.2.2.2.2.2.2.2.2.2.2.2.2.2.2.2.2.2.2.2.2.2.2.2.1 p.2.2.2.2.2.2.2.2.2.2.2.2.2.2.2.2.2.2.2.2.2.2.2.2.2.2.2.2.1 p.2.2.2.2.2.2.2.2.2.2.2.2.2.2.2.2.2.2.2.2.2.2.2.2.2.2.2.2.2.1 p.2.2.2.2.2.2.2.2.2.2.2.2.2.2.2.2.2.2.2.2.2.2.2.2.2.2.2.2.2.2.1 p.2.2.2.2.2.2.2.2.2.2.2.2.2.2.2.2.2.2.2.2.2.2.2.2.2.2.2.2.2.2.2.1 p.2.2.2.2.2.2.2.2.2.2.2.2.2.2.2.2.2.2.2.2.2.2.2.2.2.2.2.2.2.2.2.2.1 p.2.2.2.2.2.2.2.2.2.2.2.2.2.2.2.2.2.2.2.2.2.2.2.2.2.2.2.2.2.2.2.2.2.1 p.2.2.2.2.2.2.2.2.2.2.2.2.2.2.2.2.2.2.2.2.2.2.2.2.2.2.2.2.2.2.2.2.2.2.1 p.2.2.2.2.2.2.2.2.2.2.2.2.2.2.2.2.2.2.2.2.2.2.2.2.2.2.2.2.2.2.2.2.2.2.2.1 p.2.2.2.2.2.2.2.2.2.2.2.2.2.2.2.2.2.2.2.2.2.2.2.2.2.2.2.2.2.2.2.2.2.2.2.2.1 p.2.2.2.2.2.2.2.2.2.2.2.2.2.2.2.2.2.2.2.2.2.2.2.2.2.2.2.2.2.2.2.2.2.2.2.2.2.1 p.2.2.2.2.2.2.2.2.2.2.2.2.2.2.2.2.2.2.2.2.2.2.2.2.2.2.2.2.2.2.2.2.2.2.2.2.2.2.1 p.2.2.2.2.2.2.2.2.2.2.2.2.2.2.2.2.2.2.2.2.2.2.2.2.2.2.2.2.2.2.2.2.2.2.2.2.2.2.2.1 p.2.2.2.2.2.2.2.2.2.2.2.2.2.2.2.2.2.2.2.2.2.2.2.2.2.2.2.2.2.2.2.2.2.2.2.2.2.2.2.2.1 p.2.2.2.2.2.2.2.2.2.2.2.2.2.2.2.2.2.2.2.2.2.2.2.2.2.2.2.2.2.2.2.2.2.2.2.2.2.2.2.2.2.1 p.2.2.2.2.2.2.2.2.2.2.2.2.2.2.2.2.2.2.2.2.2.2.2.2.2.2.2.2.2.2.2.2.2.2.2.2.2.2.2.2.2.2.1 p.2.2.2.2.2.2.2.2.2.2.2.2.2.2.2.2.2.2.2.2.2.2.2.2.2.2.2.2.2.2.2.2.2.2.2.2.2.2.2.2.2.2.2.1 p.2.2.2.2.2.2.2.2.2.2.2.2.2.2.2.2.2.2.2.2.2.2.2.2.2.2.2.2.2.2.2.2.2.2.2.2.2.2.2.2.2.2.2.2.1 p.2.2.2.2.2.2.2.2.2.2.2.2.2.2.2.2.2.2.2.2.2.2.2.2.2.2.2.2.2.2.2.2.2.2.2.2.2.2.2.2.2.2.2.2.2.1 p.2.2.2.2.2.2.2.2.2.2.2.2.2.2.2.2.2.2.2.2.2.2.2.2.2.2.2.2.2.2.2.2.2.2.2.2.2.2.2.2.2.2.2.2.2.2.1 p.2.2.2.2.2.2.2.2.2.2.2.2.2.2.2.2.2.2.2.2.2.2.2.2.2.2.2.2.2.2.2.2.2.2.2.2.2.2.2.2.2.2.2.2.2.2.2.1 p.2.2.2.2.2.2.2.2.2.2.2.2.2.2.2.2.2.2.2.2.2.2.2.2.2.2.2.2.2.2.2.2.2.2.2.2.2.2.2.2.2.2.2.2.2.2.2.2.1 p.2.2.2.2.2.2.2.2.2.2.2.2.2.2.2.2.2.2.2.2.2.2.2.2.2.2.2.2.2.2.2.2.2.2.2.2.2.2.2.2.2.2.2.2.2.2.2.2.2.1 p.2.2.2.2.2.2.2.2.2.2.2.2.2.2.2.2.2.2.2.2.2.2.2.2.2.2.2.2.2.2.2.2.2.2.2.2.2.2.2.2.2.2.2.2.2.2.2.2.2.2.1 p.2.2.2.2.2.2.2.2.2.2.2.2.2.2.2.2.2.2.2.2.2.2.2.2.2.2.2.2.2.2.2.2.2.2.2.2.2.2.2.2.2.2.2.2.2.2.2.2.2.2.2.1 p.2.2.2.2.2.2.2.2.2.2.2.2.2.2.2.2.2.2.2.2.2.2.2.2.2.2.2.2.2.2.2.2.2.2.2.2.2.2.2.2.2.2.2.2.2.2.2.2.2.2.2.2.1 p.2.2.2.2.2.2.2.2.2.2.2.2.2.2.2.2.2.2.2.2.2.2.2.2.2.2.2.2.2.2.2.2.2.2.2.2.2.2.2.2.2.2.2.2.2.2.2.2.2.2.2.2.2.1 p.2.2.2.2.2.2.2.2.2.2.2.2.2.2.2.2.2.2.2.2.2.2.2.2.2.2.2.2.2.2.2.2.2.2.2.2.2.2.2.2.2.2.2.2.2.2.2.2.2.2.2.2.2.2.1 p.2.2.2.2.2.2.2.2.2.2.2.2.2.2.2.2.2.2.2.2.2.2.2.2.2.2.2.2.2.2.2.2.2.2.2.2.2.2.2.2.2.2.2.2.2.2.2.2.2.2.2.2.2.2.2.1 p.2.2.2.2.2.2.2.2.2.2.2.2.2.2.2.2.2.2.2.2.2.2.2.2.2.2.2.2.2.2.2.2.2.2.2.2.2.2.2.2.2.2.2.2.2.2.2.2.2.2.2.2.2.2.2.2.1 p.2.2.2.2.2.2.2.2.2.2.2.2.2.2.2.2.2.2.2.2.2.2.2.2.2.2.2.2.2.2.2.2.2.2.2.2.2.2.2.2.2.2.2.2.2.2.2.2.2.2.2.2.2.2.2.2.2.1 p.2.2.2.2.2.2.2.2.2.2.2.2.2.2.2.2.2.2.2.2.2.2.2.2.2.2.2.2.2.2.2.2.2.2.2.2.2.2.2.2.2.2.2.2.2.2.2.2.2.2.2.2.2.2.2.2.2.2) ⟨⟨x1, x2, x3, x4, x5, x6, x7, x8, x9, x10, x11, x12, x13, x14, x15, x16, x17, x18, x19, x20, x21, x22, x23, x24, x25, x26, x27, x28, x29, x30, x31, x32, x33, x34, x35, x36, x37, x38, x39, x40, x41, x42, x43, x44, x45, x46, x47, x48, x49, x50, x51, x52, x53, x54, x55, x56, x57, x58, x59⟩, hx⟩ (h trivial)
end Mine
local macro_rules | `(tactic| ktr_room) => `(tactic| ((try dsimp only [depth_under_make, depth_under_kw, depth_in1, depth_deeper, depth_caller]); first | exact Mine.rm2 (by assumption) (by exact rfl) | exact Mine.rm0 (by assumption) | exact Mine.rm1 (by assumption) (by exact rfl) | exact Mine.rm3 (by assumption) (by exact rfl) | exact Mine.rm4 (by assumption) (by exact rfl)))
local macro_rules | `(tactic| ktr_units) => `(tactic| ((try dsimp only [units_in1, units_deeper, Around.mark_units, units_caller]); first | exact Mine.rm2 (by assumption) (by exact rfl) | exact Mine.rm0 (by assumption) | exact Mine.rm1 (by assumption) (by exact rfl) | exact Mine.rm3 (by assumption) (by exact rfl) | exact Mine.rm4 (by assumption) (by exact rfl)))
local macro_rules | `(tactic| size_fits) => `(tactic| first | with_reducible assumption | exact True.intro | exact Mine.sz (by assumption) (by exact rfl))
local macro_rules | `(tactic| walk_at "call builtin:issubclass") => `(tactic| (k_here; (with_unfolding_all refine' Mine.issub_K (by k_asm) (by k_mem) ?_); k_whole))
local macro_rules | `(tactic| walk_at "execs cons") => `(tactic| ((fail_if_success (with_reducible show wpAny _ _ (execs (Stmt.For _ _ _ _ _ :: _) _) _ _ _)); (first | k_gentoks | ((with_reducible refine PySem.wpAny_execs_cons ?_); (try dsimp only); (try k_fold)))))
local macro_rules | `(tactic| walk_at "execs cons") => `(tactic| ((fail_if_success (with_reducible show wpAny _ _ (execs (Stmt.For _ _ _ _ _ :: _) _) _ _ _)); (first | k_gentoks | ((try ((with_reducible rename Fr _ _ _ _ => Fq1); refine (let mk : PySem.Str → Option Value := _; (fun (Fq2 : Fr _ _ _ mk) => (?_ : _)) Fq1); clear Fq1)); (with_reducible refine PySem.wpAny_execs_cons ?_); (try dsimp only); (try k_fold)))))
namespace Mine
open PySem PySem.W PySem.Calls PyProof.Rows
theorem c_fspath (w : World) (news : Led) (x : Str) (t : Tok) : Ctr w 2 271 news [.str x t] (fun v n => v = .str x t ∧ n = news) := by
  revert w news x t
  refine' no_implicit_lambda% (Mine.hk4 ?ne ?_)
  case ne => (repeat' (first | (refine Mine.nePair ?_ ?_) | exact Mine.neWorld | exact Mine.neAround | exact Mine.neShared | infer_instance))
  generalize Mine.A1 _ = w; generalize Mine.A2 _ = news; generalize Mine.A3 _ = x; generalize Mine.A4 _ = t
  intro uHk
  clear uHk
  intro p loose mean mg mb dp un gd cn cs a ccd cl outer A₀ base h₀ L m s Q E B F X N T hk hdp hun hret
  refine wpAny_call ?_
  k_dflt cell_enter
  k_steps
  exact hret _ _ _ _ (by k_asm) (cb_drop (by assumption) (by kcj_all)) ⟨rfl, rfl⟩
theorem c_getsep (w : World) (news : Led) (x : Str) (t : Tok) : Ctr w 2 285 news [.str x t] (fun v n => ∃ t, v = .str (Str.ofString "/") t ∧ n = news) := by
  revert w news x t
  refine' no_implicit_lambda% (Mine.hk4 ?ne ?_)
  case ne => (repeat' (first | (refine Mine.nePair ?_ ?_) | exact Mine.neWorld | exact Mine.neAround | exact Mine.neShared | infer_instance))
  generalize Mine.A1 _ = w; generalize Mine.A2 _ = news; generalize Mine.A3 _ = x; generalize Mine.A4 _ = t
  intro uHk
  clear uHk
  intro p loose mean mg mb dp un gd cn cs a ccd cl outer A₀ base h₀ L m s Q E B F X N T hk hdp hun hret
  refine wpAny_call ?_
  k_dflt cell_enter
  k_steps
  exact hret _ _ _ _ (by k_asm) (cb_drop (by assumption) (by kcj_all)) ⟨_, rfl, rfl⟩
end Mine
namespace Mine
open PySem PySem.W PySem.Calls PyProof.Rows
noncomputable def Plain (x : Str) : Prop := ∀ c ∈ x.cps.toList, 32 ≤ c ∧ c < 127
noncomputable def nameCode : Array Nat := #[14, 10, 4, 1, 1, 22, 0, 31, 16, 127, 0, 13, 7, 22, 0, 31, 16, 127, 0, 1]
noncomputable def valueCode : Array Nat := #[14, 14, 4, 1, 1, 9, 4294966783, 0, 0, 2147483648, 0, 0, 0, 0, 0, 13, 11, 9, 4294966783, 0, 0, 2147483648, 0, 0, 0, 0, 0, 1]
theorem inSet_name (c : Nat) (h1 : 32 ≤ c) (h2 : c < 127) (seen : Sre.Seen) : ∃ seen', Sre.inSet nameCode c nameCode.size 5 true seen = .ok (false, seen') := by
  revert h1 h2 seen
  revert c
  iterate 3 refine no_implicit_lambda% (Mine.pad1 ?_)
  refine' no_implicit_lambda% (Mine.hk4 ?ne ?_)
  case ne => (repeat' (first | (refine Mine.nePair ?_ ?_) | exact Mine.neWorld | exact Mine.neAround | exact Mine.neShared | infer_instance))
  generalize Mine.A4 _ = c
  intro uHk
  clear uHk
  intro h1 h2 seen
  have e1 : (decide (0 ≤ c) && decide (c ≤ 31)) = false := by simp; lia
  have e2 : (c == 127) = false := by simp; lia
  refine ⟨((seen.add 22).add 16).add 0, ?_⟩
  show Sre.inSet nameCode c (17 + 1 + 1 + 1) 5 true seen = _
  unfold Sre.inSet
  simp only [show nameCode.getD (5 + 0) 0 = 22 from rfl, show Sre.ops[22]? = some Sre.Op.RANGE from rfl, show nameCode.getD (5 + 1) 0 = 0 from rfl, show nameCode.getD (5 + 2) 0 = 31 from rfl, e1, Bool.false_eq_true, if_false]
  unfold Sre.inSet
  simp only [show nameCode.getD (5 + 3 + 0) 0 = 16 from rfl, show Sre.ops[16]? = some Sre.Op.LITERAL from rfl, show nameCode.getD (5 + 3 + 1) 0 = 127 from rfl, e2, Bool.false_eq_true, if_false]
  unfold Sre.inSet
  simp only [show nameCode.getD (5 + 3 + 2 + 0) 0 = 0 from rfl, show Sre.ops[0]? = some Sre.Op.FAILURE from rfl, Bool.not_true]
theorem chars_value : ∀ c, c < 127 → 32 ≤ c → (decide (c < 256) && (valueCode.getD (5 + (1 + c / 32)) 0).testBit (c % 32)) = false := by decide +kernel
theorem inSet_value (c : Nat) (h1 : 32 ≤ c) (h2 : c < 127) (seen : Sre.Seen) : ∃ seen', Sre.inSet valueCode c valueCode.size 5 true seen = .ok (false, seen') := by
  revert h1 h2 seen
  revert c
  iterate 3 refine no_implicit_lambda% (Mine.pad1 ?_)
  refine' no_implicit_lambda% (Mine.hk4 ?ne ?_)
  case ne => (repeat' (first | (refine Mine.nePair ?_ ?_) | exact Mine.neWorld | exact Mine.neAround | exact Mine.neShared | infer_instance))
  generalize Mine.A4 _ = c
  intro uHk
  clear uHk
  intro h1 h2 seen
  have e1 := chars_value c h2 h1
  refine ⟨(seen.add 9).add 0, ?_⟩
  show Sre.inSet valueCode c (26 + 1 + 1) 5 true seen = _
  unfold Sre.inSet
  simp only [show valueCode.getD (5 + 0) 0 = 9 from rfl, show Sre.ops[9]? = some Sre.Op.CHARSET from rfl, e1, Bool.false_eq_true, if_false]
  unfold Sre.inSet
  simp only [show valueCode.getD (5 + 9 + 0) 0 = 0 from rfl, show Sre.ops[0]? = some Sre.Op.FAILURE from rfl, Bool.not_true]
theorem admitted_none {m : Sre.M} (hs : ∀ c, 32 ≤ c → c < 127 → ∀ seen, ∃ seen', Sre.inSet m.code c m.code.size 5 true seen = .ok (false, seen')) (ht : ∀ i, i < m.lim → 32 ≤ m.text.getD i 0 ∧ m.text.getD i 0 < 127) :
    ∀ fuel s seen, ∃ seen', Sre.M.admitted m fuel s seen = .ok (none, seen') := by
  intro fuel
  induction fuel with
  | zero => exact fun s seen => ⟨seen, rfl⟩
  | succ fuel ih =>
    intro s seen
    unfold Sre.M.admitted
    by_cases h : s ≥ m.lim
    · exact ⟨seen, by rw [if_pos h]⟩
    · rw [if_neg h]
      obtain ⟨h1, h2⟩ := ht s (by lia)
      obtain ⟨seen', e⟩ := hs _ h1 h2 seen
      rw [e]
      exact ih (s + 1) seen'
theorem hasFirst (m : Sre.M) (h : m.code = nameCode ∨ m.code = valueCode) : m.hasFirstSet = true := by
  unfold Sre.M.hasFirstSet
  rcases h with h | h <;> rw [h] <;> rfl
noncomputable def Lost (m : Sre.M) : Prop := m.answer = some false ∧ m.outcome = none ∧ m.frames = []
theorem attempt_lost (code : Array Nat) (hc : code = nameCode ∨ code = valueCode) (x : Str) (hx : Plain x) (m : Sre.M) (h1 : m.code = code) (h2 : m.text = x.cps) (h3 : m.lim = x.cps.size) (h4 : m.outcome = none) (h5 : m.frames = []) : Lost (m.attemptFrom 0 true) := by
  have hs : ∀ c, 32 ≤ c → c < 127 → ∀ seen, ∃ seen', Sre.inSet m.code c m.code.size 5 true seen = .ok (false, seen') := by
    rw [h1]
    rcases hc with h | h <;> subst h
    · exact fun c h1 h2 seen => inSet_name c h1 h2 seen
    · exact fun c h1 h2 seen => inSet_value c h1 h2 seen
  have ht : ∀ i, i < m.lim → 32 ≤ m.text.getD i 0 ∧ m.text.getD i 0 < 127 := by
    intro i hi
    rw [h2]
    rw [h3] at hi
    have : x.cps.getD i 0 = x.cps[i] := by simp [Array.getD, hi]
    rw [this]
    exact hx _ (by simp)
  unfold Sre.M.attemptFrom
  rw [hasFirst m (h1 ▸ hc)]
  obtain ⟨seen', e⟩ := admitted_none hs ht (m.lim + 1 - 0) 0 m.seen
  rw [e]
  exact ⟨rfl, h4, h5⟩
theorem search_lost (code : Array Nat) (hc : code = nameCode ∨ code = valueCode) (x : Str) (hx : Plain x) (g : Nat) : Lost (Sre.forSearch code x.cps g 0 x.cps.size false) := by
  unfold Sre.forSearch
  try dsimp only
  split
  · exact ⟨rfl, rfl, rfl⟩
  · exact attempt_lost code hc x hx _ rfl rfl rfl rfl rfl
theorem lost_run {m : Sre.M} (h : Lost m) : (m.runFor Builtin.Re.reTurnSteps).outcome = some .failed := by
  (refine (let Gk : Prop := _; (?_ : Gk)))
  obtain ⟨h1, h2, h3⟩ := h
  have e1 : m.step = { m with outcome := some .failed } := by
    unfold Sre.M.step
    rw [h1, h2, h3]
    rfl
  ((show Gk); k_unfold; clear Gk)
  show (Sre.M.runFor (3 + 1) m).outcome = _
  unfold Sre.M.runFor
  rw [h2, e1]
  rfl
section
variable {prog : Program} {w : World} {A : Around} {E : Value → Shared → Prop} {s : Shared}
theorem rules_loop (b : Nat → Bool) (g : Nat → String) (l : List Nat) {Q : PUnit → Shared → Prop} (h : Q ⟨⟩ s) : wpAny (model prog w) A (forIn l PUnit.unit (fun i _ => do
    if b i = true then do rule (g i); pure (ForInStep.yield PUnit.unit) else pure (ForInStep.yield PUnit.unit))) Q E s := by
  induction l with
  | nil => exact wpAny_pure h
  | cons i l ih =>
    rw [List.forIn_cons]
    refine wpAny_bind ?_
    by_cases hb : b i = true
    · rw [if_pos hb]
      exact wpAny_bind (wpAny_rule (wpAny_pure ih))
    · rw [if_neg hb]
      exact wpAny_pure ih
theorem reRun_lost {m : Sre.M} (h : Lost m) {Q : Option Sre.M → Shared → Prop} (hq : Q none s) : wpAny (model prog w) A (Builtin.Re.reRunToEnd m) Q E s := by
  have ho := lost_run h
  unfold Builtin.Re.reRunToEnd
  refine wpAny_bind ?_
  rw [show (2 ^ 64 : Nat) = 18446744073709551615 + 1 from rfl]
  unfold Builtin.Re.reDrive
  try dsimp only
  rw [ho]
  refine wpAny_pure ?_
  refine wpAny_bind ?_
  rw [ho]
  refine rules_loop _ _ _ ?_
  exact wpAny_pure hq
theorem rawItems {T : Addr} {ws : Array Value} {n : Nat} {Q : Array Int → Shared → Prop} (hT : s.heap.get? T = some { cls := .type "tuple", data := .seq ws n }) (hq : Q (ws.map Builtin.Re.reRawOf) s) : wpAny (model prog w) A (Builtin.Re.reRawItems (.ref T)) Q E s := by
  have hTT : s.TypeIs (.ref T) "tuple" := ⟨_, hT, rfl⟩
  unfold Builtin.Re.reRawItems
  repeat (any_goals (first | assumption | wp_step))
theorem search_none {a : Addr} {fs ws : Array Value} {T : Addr} {n : Nat} {x : Str} {t : Tok} {Q : Fin → Shared → Prop}
    (ha : s.heap.get? a = some { cls := .type "re.Pattern", data := .fields fs }) (h5 : fs.getD 5 .none = .ref T) (h6 : Builtin.Re.reRawNat (fs.getD 6 .none) = 0)
    (hT : s.heap.get? T = some { cls := .type "tuple", data := .seq ws n }) (hc : (ws.map Builtin.Re.reRawOf).map (·.toNat) = nameCode ∨ (ws.map Builtin.Re.reRawOf).map (·.toNat) = valueCode) (hx : Plain x) (hsz : x.cps.size ≤ 2 ^ 63 - 1) (hq : Q (.done (.ret .none)) s) :
    wpAny (model prog w) A (Builtin.«re.Pattern.search» ⟨[.ref a, .str x t], []⟩) Q E s := by
  revert Q ha h5 h6 hT hc hx hsz hq
  revert prog w A E s a fs ws T n x t
  refine' no_implicit_lambda% (Mine.hk12 ?ne ?_)
  case ne => (repeat' (first | (refine Mine.nePair ?_ ?_) | exact Mine.neWorld | exact Mine.neAround | exact Mine.neShared | infer_instance))
  generalize Mine.A1 _ = prog; generalize Mine.A2 _ = w; generalize Mine.A3 _ = A; generalize Mine.A4 _ = E; generalize Mine.A5 _ = s; generalize Mine.A6 _ = a; generalize Mine.A7 _ = fs; generalize Mine.A8 _ = ws; generalize Mine.A9 _ = T; generalize Mine.A10 _ = n; generalize Mine.A11 _ = x; generalize Mine.A12 _ = t
  intro uHk
  clear uHk
  intro Q ha h5 h6 hT hc hx hsz hq
  unfold Builtin.«re.Pattern.search»
  refine wpAny_bind ?_
  unfold Builtin.Re.reTarget
  repeat (any_goals (first | assumption | wp_step))
  rw [if_neg (by rw [h6]; decide)]
  try dsimp only
  refine wpAny_bind ?_
  unfold Builtin.Re.reNoCollectionInside
  rw [if_neg (by decide)]
  refine wpAny_pure (wpAny_bind ?_)
  rw [h5]
  refine rawItems hT (wpAny_pure ?_)
  unfold Builtin.Re.reAnswer
  try dsimp only
  refine wpAny_bind ?_
  rw [show min (Int.toNat 0) x.cps.size = 0 from by simp]
  by_cases hl : x.cps.size ≤ 2 ^ 63 - 1
  · rw [show min (Int.toNat (2 ^ 63 - 1)) x.cps.size = x.cps.size from by lia]
    exact reRun_lost (search_lost _ hc x hx _) (wpAny_pure hq)
  · exact absurd hsz hl
theorem plainAttrs_pat : PlainAttrs "re.Pattern" :=
  ⟨⟨"object.__getattribute__", by rw [typeLookup_type, builtinLookup_eq_fast]; kernel_rfl, by decide +kernel⟩, by rw [typeLookup_type, builtinLookup_eq_fast]; kernel_rfl⟩
theorem slot_pat_search : Slot "re.Pattern" "search" "re.Pattern.search" :=
  .of (owner := "re.Pattern") (n := "search") (by rw [typeLookup_type, builtinLookup_eq_fast]; kernel_rfl) (by decide +kernel) (by decide +kernel) (by decide +kernel)
    (by first | exact .inl (by decide +kernel) | exact .inr (by decide +kernel)) (by rw [isSubtype_type]; kernel_rfl)
theorem type_pat_search : typeOf (.builtin "re.Pattern.search") = pure (.type "method_descriptor") := by show builtinType _ = _; rw [builtinType_eq_fast]; kernel_rfl
theorem entry_pat_search : entryFor table "re.Pattern.search" = some Builtin.«re.Pattern.search» := entryFor_of_tree (by kernel_rfl)
theorem args_pat_search (a b : Value) : argsOk "re.Pattern.search" ⟨[a, b], []⟩ := by unfold argsOk; kernel_rfl
section
variable {K : Frag} {h₀ : Heap} {L a T : Addr} {m : Str → Option Value} {fs ws : Array Value}
theorem ptCodes {ws : Array Value} (hc : ws.toList.map (fun v => (Builtin.Re.reRawOf v).toNat) = nameCode.toList ∨ ws.toList.map (fun v => (Builtin.Re.reRawOf v).toNat) = valueCode.toList) :
    (ws.map Builtin.Re.reRawOf).map (·.toNat) = nameCode ∨ (ws.map Builtin.Re.reRawOf).map (·.toNat) = valueCode := by
  refine hc.imp (fun h => Array.ext' ?_) fun h => Array.ext' ?_
  all_goals (rw [← h]; simp)
theorem pat_method {pl : Sem Bool} {Q : Value × List Value → Shared → Prop} (F : Fr h₀ L s.heap m) (X : K.In h₀) (hl : K.lookup a = some ⟨.type "re.Pattern", none, .fields fs, #[]⟩) (h : Q (.builtin "re.Pattern.search", [.ref a]) s) :
    wpAny (model prog w) A (getMethod (.ref a) (Str.ofString "search") pl) Q E s :=
  getMethod_builtin (T := "re.Pattern") ⟨_, F.keep _ _ (X _ _ hl), rfl⟩ plainAttrs_pat slot_pat_search type_pat_search (fun b e => by cases e; exact ⟨_, F.keep _ _ (X _ _ hl), rfl⟩) h
theorem pat_search {n : Nat} {x : Str} {t : Tok} {Q : Value → Shared → Prop} (F : Fr h₀ L s.heap m) (X : K.In h₀) (hl : K.lookup a = some ⟨.type "re.Pattern", none, .fields fs, #[]⟩)
    (h5 : fs.getD 5 .none = .ref T) (h6 : Builtin.Re.reRawNat (fs.getD 6 .none) = 0) (hT : K.lookup T = some ⟨.type "tuple", none, .seq ws n, #[]⟩)
    (hc : ws.toList.map (fun v => (Builtin.Re.reRawOf v).toNat) = nameCode.toList ∨ ws.toList.map (fun v => (Builtin.Re.reRawOf v).toNat) = valueCode.toList) (hx : Plain x) (hsz : x.length ≤ sizeLine) (hq : Q .none s) :
    wpAny (model prog w) A (call (.builtin "re.Pattern.search") [.ref a, .str x t]) Q E s :=
  call_meets (S := fun _ R s => (s.heap.get? a = some { cls := .type "re.Pattern", data := .fields fs } ∧ s.heap.get? T = some { cls := .type "tuple", data := .seq ws n }) ∧ R (.ok (.ret .none)) s) slot_pat_search ⟨_, F.keep _ _ (X _ _ hl), rfl⟩ entry_pat_search (args_pat_search _ _)
    (fun _ _ _ _ _ hs => search_none hs.1.1 h5 h6 hs.1.2 (ptCodes hc) hx (by rw [sizeLine_eq] at hsz; show x.length ≤ _; lia) hs.2) ⟨⟨F.keep _ _ (X _ _ hl), F.keep _ _ (X _ _ hT)⟩, hq⟩
end
end
end Mine
namespace Mine
open PySem PySem.W PySem.Calls PyProof.Rows
section
variable {prog : Program} {w : World} {A : Around} {E : Value → Shared → Prop} {s : Shared} {env : Env} {h₀ : Heap} {target : Expr} {body : List Stmt} {Q : Flow → Shared → Prop}
structure Itr (prog : Program) (w : World) (A : Around) (target : Expr) (I : Addr) (fp wr : List Addr) (n : Nat) (P : Nat → Value → Led → Prop) (St : Nat → Heap → Prop) : Prop where
  sub : ∀ b ∈ wr, b ∈ fp
  frame : ∀ i h h', St i h → (∀ b ∈ fp, ∀ o, h.get? b = some o → h'.get? b = some o) → St i h'
  item : ∀ i (s : Shared) (Q : Value → Shared → Prop) (E : Value → Shared → Prop), i < n → St i s.heap →
    (∀ v fr h' tk, P i v fr → (∀ p ∈ fr, h'.get? p.1 = some p.2 ∧ s.heap.objs.size ≤ p.1) → St (i + 1) h' → (∀ b o, b ∉ wr → s.heap.get? b = some o → h'.get? b = some o) → Q v { s with heap := h', toks := tk }) →
    wpAny (model prog w) A (pyNext (.ref I)) (fun r s₁ => match r with | some v => wpAny (model prog w) A (letOwnedTupleGo target (.ref I) v) (fun _ s₂ => Q v s₂) E s₁ | none => False) E s
  done : ∀ (s : Shared) (Q : Option Value → Shared → Prop) (E : Value → Shared → Prop), St n s.heap →
    (∀ h' tk, (∀ b o, b ∉ wr → s.heap.get? b = some o → h'.get? b = some o) → Q none { s with heap := h', toks := tk }) → wpAny (model prog w) A (pyNext (.ref I)) Q E s
theorem Itr.ofWalks {I : Addr} {fp wr : List Addr} {n : Nat} {P : Nat → Value → Prop} {St : Nat → Heap → Prop} (W : Walks prog w A I fp wr n P St)
    (go : ∀ i (s' : Shared) v (Q' : Unit → Shared → Prop) (E : Value → Shared → Prop), St i s'.heap → Q' () s' → wpAny (model prog w) A (letOwnedTupleGo target (.ref I) v) Q' E s') :
    Itr prog w A target I fp wr n (fun i v fr => P i v ∧ fr = []) St where
  sub := W.sub
  frame := W.frame
  item := fun i s Q E hi st h => W.item i s _ _ hi st fun v h' tk hP st' hk => go (i + 1) _ _ _ _ st' (h v [] h' tk ⟨hP, rfl⟩ (fun _ hp => nomatch hp) st' hk)
  done := W.done
structure MyEnd (h₀ : Heap) (L : Addr) (own : Led) (Jn : (Str → Option Value) → Led → Prop) (g : Array GenState) (d : Drawn) (os : OsState) (s₂ : Shared) : Prop where
  out : ∃ h' tk m' news' news'', s₂ = ⟨h', g, d, tk, os⟩ ∧ Fr h₀ L h' m' ∧ News h₀ L h' news'' ∧ (∀ p ∈ own, p ∈ news'') ∧ (∀ p ∈ news', p ∈ news'') ∧ (∀ p ∈ news', ∀ q ∈ own, p.1 ≠ q.1) ∧ Jn m' news'
theorem MyEnd.intro {h₀ h' : Heap} {L : Addr} {own news' news'' : Led} {Jn : (Str → Option Value) → Led → Prop} {g : Array GenState} {d : Drawn} {os : OsState} {tk : Nat} {m' : Str → Option Value} (F : Fr h₀ L h' m') (N : News h₀ L h' news'') (hJ : Jn m' news') (h1 : ∀ p ∈ own, p ∈ news'') (h2 : ∀ p ∈ news', p ∈ news'') (h3 : ∀ p ∈ news', ∀ q ∈ own, p.1 ≠ q.1) :
    MyEnd h₀ L own Jn g d os ⟨h', g, d, tk, os⟩ := ⟨h', tk, m', news', news'', rfl, F, N, h1, h2, h3, hJ⟩
noncomputable def MyPost (h₀ : Heap) (L : Addr) (own : Led) (Jn : (Str → Option Value) → Led → Prop) (s : Shared) (Q : Flow → Shared → Prop) (f : Flow) (s₂ : Shared) : Prop :=
  match f with
  | .ret v => Q (.ret v) s₂
  | .brk => Q .next s₂
  | _ => MyEnd h₀ L own Jn s.gens s.drawn s.os s₂
theorem forLoop_my {I : Addr} {fp wr : List Addr} {n : Nat} {P : Nat → Value → Led → Prop} {St : Nat → Heap → Prop} {m : Str → Option Value} {news : Led} (W : Itr prog w A target I fp wr n P St)
    (hLf : env.locals ∉ fp) (hwr : ∀ b ∈ wr, h₀.get? b = none) (hnw : ∀ p ∈ news, p.1 ∉ wr) (hst : St 0 s.heap) (F : Fr h₀ env.locals s.heap m) (N : News h₀ env.locals s.heap news)
    (own : Heap → Led) (hown : ∀ i h, St i h → (∀ p ∈ own h, h.get? p.1 = some p.2 ∧ h₀.get? p.1 = none ∧ p.1 ∈ fp) ∧ (∀ b ∈ wr, ∃ o, (b, o) ∈ own h))
    (hfr : ∀ i h h', St i h → (∀ b o, h₀.get? b = some o → h.get? b = some o) → (∀ b o, h₀.get? b = some o → h'.get? b = some o) → (∀ p ∈ own h, h'.get? p.1 = some p.2) → St i h')
    (J : Nat → (Str → Option Value) → Led → Prop) (h0 : J 0 m news)
    (step : ∀ i v fr m₁ news₁ h₁ tk₁, i < n → P i v fr → St (i + 1) h₁ → J i m₁ news₁ → (∀ p ∈ news₁, ∀ q ∈ own h₁, p.1 ≠ q.1) → Fr h₀ env.locals h₁ m₁ → News h₀ env.locals h₁ (own h₁ ++ (fr ++ news₁)) →
      wpAny (model prog w) A (assign target env v) (fun _ s₂ => wpAny (model prog w) A (execs body env) (MyPost h₀ env.locals (own h₁) (J (i + 1)) s Q) E s₂) E { s with heap := h₁, toks := tk₁ })
    (hoff : ∀ i h, St i h → ∀ p ∈ own h, p.1 ∈ wr)
    (hR : ∀ h' tk m' news', J n m' news' → Fr h₀ env.locals h' m' → News h₀ env.locals h' news' → Q .next { s with heap := h', toks := tk })
    (hE : PassesOwn (model prog w) A env E) :
    codeAny (model prog w) A (.forLoop target (.ref I) body [] env) (fun r s' => match r with | .ok f => Q f s' | .error e => cameBackBy (model prog w) A env E e s') s := by
  revert fp wr P St W hLf hwr hnw hst F N own hown hfr J h0 step hoff hR hE
  revert prog w A E s env h₀ target body Q I n m news
  iterate 2 refine no_implicit_lambda% (Mine.pad1 ?_)
  refine' no_implicit_lambda% (Mine.hk16 ?ne ?_)
  case ne => (repeat' (first | (refine Mine.nePair ?_ ?_) | exact Mine.neWorld | exact Mine.neAround | exact Mine.neShared | infer_instance))
  generalize Mine.A3 _ = prog; generalize Mine.A4 _ = w; generalize Mine.A5 _ = A; generalize Mine.A6 _ = E; generalize Mine.A7 _ = s; generalize Mine.A8 _ = env; generalize Mine.A9 _ = h₀; generalize Mine.A10 _ = target; generalize Mine.A11 _ = body; generalize Mine.A12 _ = Q; generalize Mine.A13 _ = I; generalize Mine.A14 _ = n; generalize Mine.A15 _ = m; generalize Mine.A16 _ = news
  intro uHk
  clear uHk
  intro fp wr P St W hLf hwr hnw hst F N own hown hfr J h0 step hoff hR hE
  have hLw : env.locals ∉ wr := fun h => hLf (W.sub _ h)
  have old : ∀ b o, h₀.get? b = some o → b ∉ wr := fun b o e hb => by rw [hwr b hb] at e; cases e
  refine codeAny_forLoop_any
    (fun k s' => ∃ h' tk m' news' i, s' = { s with heap := h', toks := tk } ∧ St i h' ∧ Fr h₀ env.locals h' m' ∧ News h₀ env.locals h' news' ∧ (∀ p ∈ news', p.1 ∉ wr) ∧ J i m' news' ∧ i ≤ n ∧ k = n + 1 - i) ?_ (n + 1)
    ⟨s.heap, s.toks, m, news, 0, rfl, hst, F, N, hnw, h0, Nat.zero_le _, rfl⟩
  intro k s' hJ1
  (refine (let Gk : Prop := _; (?_ : Gk)))
  obtain ⟨h', tk, m', news', i, rfl, hst', F', N', hnw', hJ, hi, rfl⟩ := hJ1
  have next : ∀ h₁ : Heap, (∀ b o, b ∉ wr → h'.get? b = some o → h₁.get? b = some o) → Fr h₀ env.locals h₁ m' ∧ News h₀ env.locals h₁ news' := fun h₁ hk₁ =>
    ⟨⟨F'.ns.at' fun o e => hk₁ _ o hLw e, fun b o e => hk₁ b o (old b o e) (F'.keep b o e), F'.above⟩, fun p hp => ⟨hk₁ _ _ (hnw' p hp) (N' p hp).1, (N' p hp).2⟩⟩
  ((show Gk); k_unfold; clear Gk)
  by_cases hlt : i < n
  · refine wpAny_mono (W.item i _ (fun v s₂ => wpAny (model prog w) A (assign target env v) (fun _ s₂ => wpAny (model prog w) A (execs body env) (fun f s₃ => match f with
            | .next | .cont => ∃ m, m < n + 1 - i ∧ ∃ h' tk m' news' i, s₃ = { s with heap := h', toks := tk } ∧ St i h' ∧ Fr h₀ env.locals h' m' ∧ News h₀ env.locals h' news' ∧ (∀ p ∈ news', p.1 ∉ wr) ∧ J i m' news' ∧ i ≤ n ∧ m = n + 1 - i
            | .brk => Q .next s₃
            | .ret v => Q (.ret v) s₃) (notedBy (model prog w) A env fun e s' => cameBackBy (model prog w) A env E e s') s₂) (notedBy (model prog w) A env fun e s' => cameBackBy (model prog w) A env E e s') s₂) _ hlt hst' ?_) (fun r s₁ h₁ => ?_) fun _ _ e => e
    · intro v fr h₁ tk₁ hP hfr₁ hst₁ hk₁
      obtain ⟨F₁, N₁⟩ := next h₁ hk₁
      obtain ⟨o1, o2⟩ := hown _ _ hst₁
      have NO : News h₀ env.locals h₁ (own h₁) := fun p hp => ⟨(o1 p hp).1, fun e => hLf (e ▸ (o1 p hp).2.2), (o1 p hp).2.1⟩
      have NF : News h₀ env.locals h₁ fr := fun p hp => by
        have hlt2 : env.locals < h'.objs.size := F'.ns.lt
        have q := (hfr₁ p hp).2
        refine ⟨(hfr₁ p hp).1, fun e => ?_, ?_⟩
        · rw [e] at q; exact absurd (Nat.lt_of_lt_of_le hlt2 q) (Nat.lt_irrefl _)
        · cases hq : h₀.get? p.1 with
          | none => rfl
          | some o => exact absurd (Nat.lt_of_lt_of_le (Heap.lt_size (F'.keep _ _ hq)) q) (Nat.lt_irrefl _)
      refine wpAny_mono (step i v fr m' news' h₁ tk₁ hlt hP hst₁ hJ (fun p hp q hq e => hnw' p hp (e ▸ hoff _ _ hst₁ q hq)) F₁ (NO.append (NF.append N₁))) (fun _ s₂ h₂ => wpAny_mono h₂ (fun f s₃ h₃ => ?_) hE) hE
      have fin : (∃ h' tk m'' news'' news₃, s₃ = { s with heap := h', toks := tk } ∧ Fr h₀ env.locals h' m'' ∧ News h₀ env.locals h' news₃ ∧ (∀ p ∈ own h₁, p ∈ news₃) ∧ (∀ p ∈ news'', p ∈ news₃) ∧ (∀ p ∈ news'', ∀ q ∈ own h₁, p.1 ≠ q.1) ∧ J (i + 1) m'' news'') →
          ∃ m, m < n + 1 - i ∧ ∃ h' tk m' news' i, s₃ = { s with heap := h', toks := tk } ∧ St i h' ∧ Fr h₀ env.locals h' m' ∧ News h₀ env.locals h' news' ∧ (∀ p ∈ news', p.1 ∉ wr) ∧ J i m' news' ∧ i ≤ n ∧ m = n + 1 - i := by
        intro hJ2
        (refine (let Gk : Prop := _; (?_ : Gk)))
        obtain ⟨h₃, tk₃, m₃, news₃, news₄, e, F₃, N₃, q1, q2, q3, q4⟩ := hJ2
        ((show Gk); k_unfold; clear Gk)
        refine ⟨n + 1 - (i + 1), by lia, h₃, tk₃, m₃, news₃, i + 1, e, ?_, F₃, fun p hp => N₃ p (q2 p hp), fun p hp hw => ?_, q4, hlt, rfl⟩
        · exact hfr _ _ _ hst₁ F₁.keep F₃.keep fun p hp => (N₃ p (q1 p hp)).1
        · obtain ⟨o, ho⟩ := o2 _ hw
          exact q3 p hp _ ho rfl
      cases f with
      | ret v => exact h₃
      | brk => exact h₃
      | cont => exact fin h₃.out
      | next => exact fin h₃.out
    · cases r with
      | none => exact absurd h₁ id
      | some v => exact h₁
  · have hin : i = n := by lia
    subst hin
    refine W.done _ _ _ hst' fun h₁ tk₁ hk₁ => wpAny_execs_nil ?_
    obtain ⟨F₁, N₁⟩ := next h₁ hk₁
    exact hR h₁ tk₁ m' news' hJ F₁ N₁
abbrev MyLoop (prog : Program) (w : World) (A : Around) (env : Env) (target : Expr) (body : List Stmt) (Q : Flow → Shared → Prop) (E : Value → Shared → Prop) (it : Value) (s₂ : Shared) : Prop :=
  codeAny (model prog w) A (.forLoop target it body [] env) (fun r s' => match r with | .ok f => Q f s' | .error e => cameBackBy (model prog w) A env E e s') s₂
theorem iter_list {l : Addr} {vs : List Value} {m₀ : Str → Option Value} {news : Led} (J : Nat → (Str → Option Value) → Led → Prop)
    (hh : A.handled = none) (hl : h₀.IsList l vs.toArray) (F : Fr h₀ env.locals s.heap m₀) (N : News h₀ env.locals s.heap news) (hj : J 0 m₀ news)
    (turn : ∀ i v m₁ news₁ h tk I o, vs[i]? = some v → J i m₁ news₁ → (∀ p ∈ news₁, p.1 ≠ I) → Fr h₀ env.locals h m₁ → News h₀ env.locals h ((I, o) :: news₁) →
      wpAny (model prog w) A (assign target env v) (fun _ s₂ => wpAny (model prog w) A (execs body env) (MyPost h₀ env.locals [(I, o)] (J (i + 1)) s Q) E s₂) E { s with heap := h, toks := tk })
    (done : ∀ m₁ news₁ h tk, J vs.length m₁ news₁ → Fr h₀ env.locals h m₁ → News h₀ env.locals h news₁ → Q .next { s with heap := h, toks := tk })
    (hE : PassesOwn (model prog w) A env E := by passes_own) :
    wpAny (model prog w) A (pyIter (.ref l)) (fun it s₂ => MyLoop prog w A env target body Q E it s₂) E s := by
  revert J hh hl F N hj turn done hE
  revert prog w A E s env h₀ target body Q l vs m₀ news
  iterate 2 refine no_implicit_lambda% (Mine.pad1 ?_)
  refine' no_implicit_lambda% (Mine.hk16 ?ne ?_)
  case ne => (repeat' (first | (refine Mine.nePair ?_ ?_) | exact Mine.neWorld | exact Mine.neAround | exact Mine.neShared | infer_instance))
  generalize Mine.A3 _ = prog; generalize Mine.A4 _ = w; generalize Mine.A5 _ = A; generalize Mine.A6 _ = E; generalize Mine.A7 _ = s; generalize Mine.A8 _ = env; generalize Mine.A9 _ = h₀; generalize Mine.A10 _ = target; generalize Mine.A11 _ = body; generalize Mine.A12 _ = Q; generalize Mine.A13 _ = l; generalize Mine.A14 _ = vs; generalize Mine.A15 _ = m₀; generalize Mine.A16 _ = news
  intro uHk
  clear uHk
  intro J hh hl F N hj turn done hE
  have hls : s.heap.IsList l vs.toArray := hl.at fun o e => F.keep l o e
  (refine (let Gk : Prop := _; (?_ : Gk)))
  obtain ⟨ol, hol, _⟩ := id hl
  have hlt : l < h₀.objs.size := Heap.lt_size hol
  have hne : l ≠ s.heap.objs.size := Nat.ne_of_lt (Nat.lt_trans (Nat.lt_of_lt_of_le hlt F.above) F.ns.lt)
  have hI : h₀.get? s.heap.objs.size = none := next_is_new F
  ((show Gk); k_unfold; clear Gk)
  refine wpAny_pyIter_list hls ?_
  have W := Itr.ofWalks (target := target) (Walks.list (prog := prog) (w := w) hh s.heap.objs.size l hne vs.toArray) fun i s' v Q' E st hQ' => letGo_listiter st.1 hQ'
  have gI : ∀ i (h : Heap), (h.IsListIter s.heap.objs.size l i ∧ h.IsList l vs.toArray) → ∃ o, h.get? s.heap.objs.size = some o := fun i h st => let ⟨o, ho, _⟩ := st.1; ⟨o, ho⟩
  refine forLoop_my (s := { s with heap := s.heap.push { cls := .type "list_iterator", data := .fields #[.ref l, .int 0 0] } }) (news := news) W ?_ ?_ ?_
    ⟨⟨_, Heap.get?_push_size _ rfl, rfl, rfl⟩, hls.at fun o e => Heap.get?_push_of_some _ e⟩ (F.push _) (fun p hp => ⟨Heap.get?_push_of_some _ (N p hp).1, (N p hp).2⟩)
    (fun h => match h.get? s.heap.objs.size with | some o => [(s.heap.objs.size, o)] | none => []) ?_ ?_ J hj ?_ ?_ ?_ hE
  · intro hm
    rcases List.mem_cons.mp hm with e | hm
    · exact absurd F.ns.lt (e ▸ Nat.lt_irrefl _)
    · exact absurd (Nat.lt_of_lt_of_le hlt F.above) ((List.mem_singleton.mp hm) ▸ Nat.lt_irrefl _)
  · intro b hb
    rw [List.mem_singleton.mp hb]; exact hI
  · intro p hp hw
    exact absurd (Heap.lt_size (N p hp).1) ((List.mem_singleton.mp hw) ▸ Nat.lt_irrefl _)
  · intro i h st
    obtain ⟨o, ho⟩ := gI i h st
    rw [ho]
    exact ⟨fun p hp => by rw [List.mem_singleton.mp hp]; exact ⟨ho, hI, by simp⟩, fun b hb => ⟨o, by rw [List.mem_singleton.mp hb]; simp⟩⟩
  · intro i h h' st k k' hp
    obtain ⟨o, ho⟩ := gI i h st
    rw [ho] at hp
    refine ⟨st.1.at fun o' e => ?_, hl.at fun o' e => k' _ _ e⟩
    rw [ho] at e; cases e
    exact hp (s.heap.objs.size, o) (by simp)
  · intro i v fr m₁ news₁ h₁ tk₁ hin hJ3 st hJ hoff F₁ N₁
    (refine (let Gk : Prop := _; (?_ : Gk)))
    obtain ⟨hP, rfl⟩ := hJ3
    obtain ⟨o, hg⟩ := gI _ _ st
    ((show Gk); k_unfold; clear Gk)
    simp only [hg] at hoff N₁ ⊢
    exact turn i v m₁ news₁ h₁ tk₁ s.heap.objs.size o (by simpa using hP) hJ (fun p hp => hoff p hp (s.heap.objs.size, o) (by simp)) F₁ (by simpa using N₁)
  · intro i h st p hp
    obtain ⟨o, ho⟩ := gI i h st
    rw [ho] at hp
    rw [List.mem_singleton.mp hp]; simp
  · intro h' tk m' news' hJ F' N'
    exact done m' news' h' tk (by simpa using hJ) F' N'
end
end Mine
namespace Mine
open PySem PySem.W PySem.Calls PyProof.Rows
section
variable {prog : Program} {w : World} {A : Around} {E : Value → Shared → Prop} {s : Shared} {env : Env} {h₀ : Heap} {target : Expr} {body : List Stmt} {Q : Flow → Shared → Prop}
theorem letGo_name {x : Str} {px : Pos} {it v : Value} {Q' : Unit → Shared → Prop} {s' : Shared} (h : Q' () s') : wpAny (model prog w) A (letOwnedTupleGo (.Name x px) it v) Q' E s' := by
  unfold letOwnedTupleGo
  exact wpAny_pure h
theorem iter_range {x : Str} {px : Pos} {r : Addr} {a₀ b₀ : Int} {t₀ u₀ v₀ : Tok} {n : Nat} {m₀ : Str → Option Value} {news : Led} (J : Nat → (Str → Option Value) → Led → Prop)
    (hh : A.handled = none) (hr : IsRange s.heap r a₀ b₀ 1 t₀ u₀ v₀) (hsmall : Builtin.Range.small a₀ b₀ 1 = true) (hn : Builtin.Range.rangeSize a₀ b₀ 1 = (n : Int)) (F : Fr h₀ env.locals s.heap m₀) (N : News h₀ env.locals s.heap news) (hj : J 0 m₀ news)
    (turn : ∀ i t m₁ news₁ h tk I o, i < n → J i m₁ news₁ → (∀ p ∈ news₁, p.1 ≠ I) → Fr h₀ env.locals h m₁ → News h₀ env.locals h ((I, o) :: news₁) →
      wpAny (model prog w) A (assign (.Name x px) env (.int (a₀ + i) t)) (fun _ s₂ => wpAny (model prog w) A (execs body env) (MyPost h₀ env.locals [(I, o)] (J (i + 1)) s Q) E s₂) E { s with heap := h, toks := tk })
    (done : ∀ m₁ news₁ h tk, J n m₁ news₁ → Fr h₀ env.locals h m₁ → News h₀ env.locals h news₁ → Q .next { s with heap := h, toks := tk })
    (hE : PassesOwn (model prog w) A env E := by passes_own) :
    wpAny (model prog w) A (pyIter (.ref r)) (fun it s₂ => MyLoop prog w A env (.Name x px) body Q E it s₂) E s := by
  revert J hh hr hsmall hn F N hj turn done hE
  revert prog w A E s env h₀ body Q x px r a₀ b₀ t₀ u₀ v₀ n m₀ news
  iterate 1 refine no_implicit_lambda% (Mine.pad1 ?_)
  refine' no_implicit_lambda% (Mine.hk21 ?ne ?_)
  case ne => (repeat' (first | (refine Mine.nePair ?_ ?_) | exact Mine.neWorld | exact Mine.neAround | exact Mine.neShared | infer_instance))
  generalize Mine.A2 _ = prog; generalize Mine.A3 _ = w; generalize Mine.A4 _ = A; generalize Mine.A5 _ = E; generalize Mine.A6 _ = s; generalize Mine.A7 _ = env; generalize Mine.A8 _ = h₀; generalize Mine.A9 _ = body; generalize Mine.A10 _ = Q; generalize Mine.A11 _ = x; generalize Mine.A12 _ = px; generalize Mine.A13 _ = r; generalize Mine.A14 _ = a₀; generalize Mine.A15 _ = b₀; generalize Mine.A16 _ = t₀; generalize Mine.A17 _ = u₀; generalize Mine.A18 _ = v₀; generalize Mine.A19 _ = n; generalize Mine.A20 _ = m₀; generalize Mine.A21 _ = news
  intro uHk
  clear uHk
  intro J hh hr hsmall hn F N hj turn done hE
  have hI : h₀.get? s.heap.objs.size = none := next_is_new F
  refine wpAny_pyIter_range hr hsmall ?_
  have W := Itr.ofWalks (target := .Name x px) (Walks.range (prog := prog) (w := w) hh s.heap.objs.size a₀ 1 n) fun i s' v Q' E st hQ' => letGo_name hQ'
  refine forLoop_my (s := { s with heap := s.heap.push { cls := .type "range_iterator", data := .fields #[rawInt a₀, rawInt (Builtin.Range.rangeSize a₀ b₀ 1), rawInt 1] } }) (news := news) W ?_ ?_ ?_
    (by show IsRangeIter _ _ _ _ _; rw [hn]; simpa using Heap.get?_push_size _ rfl) (F.push _) (fun p hp => ⟨Heap.get?_push_of_some _ (N p hp).1, (N p hp).2⟩)
    (fun h => match h.get? s.heap.objs.size with | some o => [(s.heap.objs.size, o)] | none => []) ?_ ?_ J hj ?_ ?_ ?_ hE
  · intro hm
    exact absurd F.ns.lt ((List.mem_singleton.mp hm) ▸ Nat.lt_irrefl _)
  · intro b hb
    rw [List.mem_singleton.mp hb]; exact hI
  · intro p hp hw
    exact absurd (Heap.lt_size (N p hp).1) ((List.mem_singleton.mp hw) ▸ Nat.lt_irrefl _)
  · intro i h st
    obtain ⟨o, ho⟩ : ∃ o, h.get? s.heap.objs.size = some o := ⟨_, st⟩
    simp only [ho]
    exact ⟨fun p hp => by rw [List.mem_singleton.mp hp]; exact ⟨ho, hI, by simp⟩, fun b hb => ⟨o, by rw [List.mem_singleton.mp hb]; simp⟩⟩
  · intro i h h' st k k' hp
    have ho : h.get? s.heap.objs.size = some _ := st
    rw [ho] at hp
    exact hp (s.heap.objs.size, _) (by simp)
  · intro i v fr m₁ news₁ h₁ tk₁ hin hJ4 st hJ hoff F₁ N₁
    (refine (let Gk : Prop := _; (?_ : Gk)))
    obtain ⟨⟨t, rfl⟩, rfl⟩ := hJ4
    obtain ⟨o, ho⟩ : ∃ o, h₁.get? s.heap.objs.size = some o := ⟨_, st⟩
    ((show Gk); k_unfold; clear Gk)
    simp only [ho] at hoff N₁ ⊢
    rw [Int.mul_one]
    exact turn i t m₁ news₁ h₁ tk₁ s.heap.objs.size o hin hJ (fun p hp => hoff p hp (s.heap.objs.size, o) (by simp)) F₁ (by simpa using N₁)
  · intro i h st p hp
    obtain ⟨o, ho⟩ : ∃ o, h.get? s.heap.objs.size = some o := ⟨_, st⟩
    simp only [ho] at hp
    rw [List.mem_singleton.mp hp]; simp
  · intro h' tk m' news' hJ F' N'
    exact done m' news' h' tk hJ F' N'
theorem Itr.enum {elts : List Expr} {k : Nat} {pos : Pos} (hh : A.handled = none) (e it l : Addr) (hei : e ≠ it) (hle : l ≠ e) (hli : l ≠ it) (items : Array Value) :
    Itr prog w A (.Tuple elts k pos) e [e, it, l] [e, it] items.size
      (fun i v fr => ∃ T t x, items[i]? = some x ∧ v = .ref T ∧ fr = [(T, { cls := .type "tuple", data := .seq #[.int i t, x] })])
      (fun i h => (∃ old, IsEnum h e it i old) ∧ h.IsListIter it l i ∧ h.IsList l items) where
  sub := (WalksT.enumerate (prog := prog) (w := w) hh e it l hei hle hli items).sub
  frame := (WalksT.enumerate (prog := prog) (w := w) hh e it l hei hle hli items).frame
  done := (WalksT.enumerate (prog := prog) (w := w) hh e it l hei hle hli items).done
  item := fun i s Q E hi hst hQ => by
    (refine (let Gk : Prop := _; (?_ : Gk)))
    obtain ⟨⟨old, he⟩, hit, hl⟩ := hst
    have hx : items[i]? = some items[i] := Array.getElem?_eq_getElem hi
    ((show Gk); k_unfold; clear Gk)
    refine wpAny_pyNext_enum_item he hit hl hx hei fun h' ho hit' hT hsz hk => ?_
    have helt : e < s.heap.objs.size := Heap.lt_size he
    have hilt : it < s.heap.objs.size := by obtain ⟨_, x, _⟩ := hit; exact Heap.lt_size x
    refine wpAny_letOwnedTupleGo_enum ho fun h'' he' hs' => ?_
    have k2 : ∀ b o, b ≠ e → h'.get? b = some o → h''.get? b = some o := fun b o hb y => (hs'.2 b hb).trans y
    refine hQ _ [(s.heap.objs.size, { cls := .type "tuple", data := .seq #[.int i s.toks, items[i]] })] h'' _ ⟨_, _, _, hx, rfl, rfl⟩ ?_ ⟨⟨_, by simpa using he'⟩, hit'.at fun o y => k2 it o hei.symm y, hl.at fun o x => k2 l o hle (hk l o hle hli x)⟩ fun b o hb x => ?_
    · intro p hp
      rw [List.mem_singleton.mp hp]
      exact ⟨k2 _ _ (Nat.ne_of_gt helt) hT, Nat.le_refl _⟩
    · have b1 : b ≠ e := fun q => hb (by simp [q])
      have b2 : b ≠ it := fun q => hb (by simp [q])
      exact k2 b o b1 (hk b o b1 b2 x)
theorem enum_make {l L : Addr} {vs : List Value} {n : Nat} {m : Str → Option Value} {news : Led} {Q : Value → Shared → Prop} (F : Fr h₀ L s.heap m) (N : News h₀ L s.heap news)
    (hl : h₀.get? l = some { cls := .type "list", data := .seq vs.toArray n })
    (h : ∀ h' e it, IsEnum h' e it 0 .none → h'.IsListIter it l 0 → e ≠ it → h₀.get? e = none → h₀.get? it = none → e ≠ L → it ≠ L → (∀ p ∈ news, p.1 ≠ e ∧ p.1 ≠ it) → Fr h₀ L h' m → News h₀ L h' news → Q (.ref e) { s with heap := h' }) :
    wpAny (model prog w) A (call (.type "enumerate") [.ref l]) Q E s := by
  refine call_enumerate_1 (F.keep _ _ hl) fun h' he hit hsz hk => ?_
  have hL : (L : Nat) < s.heap.objs.size := F.ns.lt
  have d0 : ∀ z k : Nat, ¬ (@LT.lt Nat _ (z + k) z) := fun z k => by lia
  have old : ∀ k, h₀.get? (s.heap.objs.size + k) = none := fun k => by
    cases q : h₀.get? (s.heap.objs.size + k) with
    | none => rfl
    | some o => exact absurd (Heap.lt_size (F.keep _ _ q)) (d0 _ _)
  have d1 : ∀ z : Nat, @Ne Nat (z + 1) z := fun z => by lia
  have d2 : ∀ z L : Nat, L < z → @Ne Nat (z + 1) L ∧ @Ne Nat z L := fun z L q => by lia
  have d3 : ∀ z L : Nat, L < z → @Ne Nat L (z + 1) ∧ @Ne Nat L z := fun z L q => by lia
  exact h h' _ _ he hit (d1 _) (old 1) (old 0) (d2 _ _ hL).1 (d2 _ _ hL).2 (fun p hp => d3 _ _ (Heap.lt_size (N p hp).1)) ⟨F.ns.at' fun o e => hk _ o e, fun b o e => hk b o (F.keep b o e), F.above⟩ fun p hp => ⟨hk _ _ (N p hp).1, (N p hp).2⟩
theorem iter_enum {elts : List Expr} {k : Nat} {pos : Pos} {e it l : Addr} {vs : List Value} {m₀ : Str → Option Value} {news : Led} (J : Nat → (Str → Option Value) → Led → Prop)
    (hh : A.handled = none) (hl : h₀.IsList l vs.toArray) (he : IsEnum s.heap e it 0 .none) (hit : s.heap.IsListIter it l 0) (hei : e ≠ it) (he0 : h₀.get? e = none) (hi0 : h₀.get? it = none) (heL : e ≠ env.locals) (hiL : it ≠ env.locals)
    (hnew : ∀ p ∈ news, p.1 ≠ e ∧ p.1 ≠ it) (F : Fr h₀ env.locals s.heap m₀) (N : News h₀ env.locals s.heap news) (hj : J 0 m₀ news)
    (turn : ∀ i v m₁ news₁ h tk oe oi T t, vs[i]? = some v → J i m₁ news₁ → (∀ p ∈ news₁, p.1 ≠ e ∧ p.1 ≠ it) → Fr h₀ env.locals h m₁ →
      News h₀ env.locals h ((e, oe) :: (it, oi) :: (T, { cls := .type "tuple", data := .seq #[.int i t, v] }) :: news₁) →
      wpAny (model prog w) A (assign (.Tuple elts k pos) env (.ref T)) (fun _ s₂ => wpAny (model prog w) A (execs body env) (MyPost h₀ env.locals [(e, oe), (it, oi)] (J (i + 1)) s Q) E s₂) E { s with heap := h, toks := tk })
    (done : ∀ m₁ news₁ h tk, J vs.length m₁ news₁ → Fr h₀ env.locals h m₁ → News h₀ env.locals h news₁ → Q .next { s with heap := h, toks := tk })
    (hE : PassesOwn (model prog w) A env E := by passes_own) :
    wpAny (model prog w) A (pyIter (.ref e)) (fun it s₂ => MyLoop prog w A env (.Tuple elts k pos) body Q E it s₂) E s := by
  revert elts J hh hl he hit hei he0 hi0 heL hiL hnew F N hj turn done hE
  revert prog w A E s env h₀ body Q k pos e it l vs m₀ news
  iterate 4 refine no_implicit_lambda% (Mine.pad1 ?_)
  refine' no_implicit_lambda% (Mine.hk21 ?ne ?_)
  case ne => (repeat' (first | (refine Mine.nePair ?_ ?_) | exact Mine.neWorld | exact Mine.neAround | exact Mine.neShared | infer_instance))
  generalize Mine.A5 _ = prog; generalize Mine.A6 _ = w; generalize Mine.A7 _ = A; generalize Mine.A8 _ = E; generalize Mine.A9 _ = s; generalize Mine.A10 _ = env; generalize Mine.A11 _ = h₀; generalize Mine.A12 _ = body; generalize Mine.A13 _ = Q; generalize Mine.A14 _ = k; generalize Mine.A15 _ = pos; generalize Mine.A16 _ = e; generalize Mine.A17 _ = it; generalize Mine.A18 _ = l; generalize Mine.A19 _ = vs; generalize Mine.A20 _ = m₀; generalize Mine.A21 _ = news
  intro uHk
  clear uHk
  intro elts J hh hl he hit hei he0 hi0 heL hiL hnew F N hj turn done hE
  have hls : s.heap.IsList l vs.toArray := hl.at fun o e => F.keep l o e
  (refine (let Gk : Prop := _; (?_ : Gk)))
  obtain ⟨ol, hol, _⟩ := id hl
  have hlt : l < h₀.objs.size := Heap.lt_size hol
  have hle : l ≠ e := fun q => by rw [q, he0] at hol; cases hol
  have hli : l ≠ it := fun q => by rw [q, hi0] at hol; cases hol
  ((show Gk); k_unfold; clear Gk)
  refine wpAny_pyIter_enum he ?_
  have W := Itr.enum (prog := prog) (w := w) (elts := elts) (k := k) (pos := pos) hh e it l hei hle hli vs.toArray
  have gI : ∀ (i : Nat) (h : Heap), ((∃ old, IsEnum h e it i old) ∧ h.IsListIter it l i ∧ h.IsList l vs.toArray) → ∃ oe oi, h.get? e = some oe ∧ h.get? it = some oi := fun i h st => by
    (refine (let Gk : Prop := _; (?_ : Gk)))
    obtain ⟨⟨_, a⟩, ⟨oi, b, _⟩, _⟩ := st
    ((show Gk); k_unfold; clear Gk)
    exact ⟨_, oi, a, b⟩
  refine forLoop_my (news := news) W ?_ ?_ ?_ ⟨⟨_, he⟩, hit, hls⟩ F N
    (fun h => match h.get? e, h.get? it with | some oe, some oi => [(e, oe), (it, oi)] | _, _ => []) ?_ ?_ J hj ?_ ?_ ?_ hE
  · intro hm
    simp only [List.mem_cons, List.not_mem_nil, or_false] at hm
    rcases hm with q | q | q
    · exact heL q.symm
    · exact hiL q.symm
    · exact absurd (Nat.lt_of_lt_of_le hlt F.above) (q ▸ Nat.lt_irrefl _)
  · intro b hb
    simp only [List.mem_cons, List.not_mem_nil, or_false] at hb
    rcases hb with q | q <;> rw [q] <;> assumption
  · intro p hp hw
    simp only [List.mem_cons, List.not_mem_nil, or_false] at hw
    rcases hw with q | q
    · exact (hnew p hp).1 q
    · exact (hnew p hp).2 q
  · intro i h st
    (refine (let Gk : Prop := _; (?_ : Gk)))
    obtain ⟨oe, oi, h1, h2⟩ := gI i h st
    ((show Gk); k_unfold; clear Gk)
    simp only [h1, h2]
    refine ⟨fun p hp => ?_, fun b hb => ?_⟩
    · simp only [List.mem_cons, List.not_mem_nil, or_false] at hp
      rcases hp with q | q <;> rw [q]
      · exact ⟨h1, he0, by simp⟩
      · exact ⟨h2, hi0, by simp⟩
    · simp only [List.mem_cons, List.not_mem_nil, or_false] at hb
      rcases hb with q | q <;> rw [q]
      · exact ⟨oe, by simp⟩
      · exact ⟨oi, by simp⟩
  · intro i h h' st k k' hp
    (refine (let Gk : Prop := _; (?_ : Gk)))
    obtain ⟨oe, oi, h1, h2⟩ := gI i h st
    simp only [h1, h2] at hp
    obtain ⟨⟨old, a⟩, b, c⟩ := st
    have p1 := hp (e, oe) (by simp)
    have p2 := hp (it, oi) (by simp)
    ((show Gk); k_unfold; clear Gk)
    refine ⟨⟨old, ?_⟩, b.at fun o' q => ?_, hl.at fun o' q => k' _ _ q⟩
    · have : oe = _ := Option.some.inj (h1.symm.trans a)
      rw [this] at p1; exact p1
    · rw [h2] at q; cases q; exact p2
  · intro i v fr m₁ news₁ h₁ tk₁ hin hJ5 st hJ hoff F₁ N₁
    (refine (let Gk : Prop := _; (?_ : Gk)))
    obtain ⟨T, t, x, hx, rfl, rfl⟩ := hJ5
    obtain ⟨oe, oi, h1, h2⟩ := gI _ _ st
    ((show Gk); k_unfold; clear Gk)
    simp only [h1, h2] at hoff N₁ ⊢
    exact turn i x m₁ news₁ h₁ tk₁ oe oi T t (by simpa using hx) hJ (fun p hp => ⟨hoff p hp (e, oe) (by simp), hoff p hp (it, oi) (by simp)⟩) F₁ (by simpa using N₁)
  · intro i h st p hp
    (refine (let Gk : Prop := _; (?_ : Gk)))
    obtain ⟨oe, oi, h1, h2⟩ := gI i h st
    simp only [h1, h2] at hp
    simp only [List.mem_cons, List.not_mem_nil, or_false] at hp
    ((show Gk); k_unfold; clear Gk)
    rcases hp with q | q <;> rw [q] <;> simp
  · intro h' tk m' news' hJ F' N'
    exact done m' news' h' tk (by simpa using hJ) F' N'
end
end Mine
namespace Mine
open PySem PySem.W PySem.Calls PyProof.Rows PySem.Spec
section
variable {prog : Program} {w : World} {A A₀ : Around} {s : Shared} {K : Frag} {L : Addr} {h₀ base : Heap} {m mg mb : Str → Option Value} {p : Program} {loose : List Str} {mean : ExcName → Option Value}
  {env : Env} {outer : List Env} {R : Result → Shared → Prop} {name qual : Str} {params : Arguments} {body : List Stmt} {scope : Scope} {dV kV doc pm cdv ct oc : Value} {an od : Option Addr} {osl : Array (Option Value)} {f : Addr} {args : Args} {binds : List (Str × Value)}
theorem enterG (sub : Led) (B : Below A₀ base outer h₀) (F : Fr h₀ L s.heap m) (X₀ : K.In h₀) (N : News h₀ L s.heap sub) (T : Top p loose mean mg mb h₀) (hA : A.frames = some (env :: outer)) (hf : env.frame = some L) (hke : env.scope.kind = .function)
    (ho : K.lookup f = some ⟨oc, od, .func (fnOf name qual params body scope dV kV doc pm an cdv ct), osl⟩) (hcd : codeIn K cdv qual = true) (hroom : A.depth < recursionLimit)
    (hbind : BindsTo s (fnOf name qual params body scope dV kV doc pm an cdv ct) args binds) (hloc : ∀ y ∈ binds, scope.names.lookup y.1 = some .local)
    (h : ∀ L' h₁, Fr (hideAll s.heap (sub.map (·.1))) L' h₁ (fun y => binds.reverse.lookup y) → News (hideAll s.heap (sub.map (·.1))) L' h₁ sub → Below A base (env :: outer) (hideAll s.heap (sub.map (·.1))) → K.In (hideAll s.heap (sub.map (·.1))) → Top p loose mean mg mb (hideAll s.heap (sub.map (·.1))) →
      wpAny (model prog w) (A.deeper (envOf qual scope L' f cdv)) (execs body (envOf qual scope L' f cdv))
        (fun fl s' => R (.ok (.ret (match fl with | .ret v => v | _ => .none))) s')
        (fun e s' => wpAny (model prog w) (A.deeper (envOf qual scope L' f cdv)) (leaving (envOf qual scope L' f cdv) e) (fun _ s'' => R (.error e) s'') (fun e' s'' => R (.error e') s'') s')
        { s with heap := h₁, toks := s.toks + binds.length })
    (hco : scope.isCoroutine = false) (hgen : scope.isGenerator = false) (hk : scope.kind = .function)
    (hcell : ∀ x ∈ scope.names, x.2 ≠ .cell) : codeAny (model prog w) A (.call (.ref f) args) R s := by
  (refine (let Gk : Prop := _; (?_ : Gk)))
  obtain ⟨FG, BG, st, lv⟩ := groundX (R := R) B F N hA hf hke
  ((show Gk); k_unfold; clear Gk)
  refine codeAny_call_def (fd := fnOf name qual params body scope dV kV doc pm an cdv ct) (body := body) (binds := binds) hroom ((X₀.keeps F.keep) _ _ ho) rfl (T.nolimit.keeps F.keep) (codeRec_of (X₀.keeps F.keep) hcd) rfl hbind hcell hloc (fun h₁ hns hk₁ => ?_) hco hgen hk
  exact h s.heap.objs.size h₁ ⟨hns, fun b o e => hk₁ b o (of_hideAll _ e), Nat.le_of_eq (hideAll_size _ _)⟩
    (fun p hp => ⟨hk₁ _ _ (N p hp).1, Nat.ne_of_lt (Heap.lt_size (N p hp).1), hideAll_none _ (List.mem_map_of_mem hp)⟩) BG (X₀.keeps st) (T.keeps st)
theorem enterGC (sub : Led) (B : Below A₀ base outer h₀) (F : Fr h₀ L s.heap m) (X₀ : K.In h₀) (N : News h₀ L s.heap sub) (T : Top p loose mean mg mb h₀) (hA : A.frames = some (env :: outer)) (hf : env.frame = some L) (hke : env.scope.kind = .function)
    (ho : K.lookup f = some ⟨oc, od, .func (fnOf name qual params body scope dV kV doc pm an cdv ct), osl⟩) (hcd : codeIn K cdv qual = true) (hroom : A.depth < recursionLimit)
    (hbind : BindsTo s (fnOf name qual params body scope dV kV doc pm an cdv ct) args binds) (hkind : (binds.all fun y => scope.names.lookup y.1 == some .local || scope.names.lookup y.1 == some .cell) = true)
    (hnd : ((cellsFrom 0 scope.names []).map (·.1)).Nodup)
    (h : ∀ L' h₁ tk cells, Fr (hideAll s.heap (sub.map (·.1))) L' h₁ (bindL (envOfC qual scope L' f cdv).kindOf binds fun _ => none) → News (hideAll s.heap (sub.map (·.1))) L' h₁ (cells ++ sub) →
      CellsAre (bindC (envOfC qual scope L' f cdv).kindOf binds fun _ => none) (cellsFrom (L' + 1) scope.names []) cells → Below A base (env :: outer) (hideAll s.heap (sub.map (·.1))) → K.In (hideAll s.heap (sub.map (·.1))) → Top p loose mean mg mb (hideAll s.heap (sub.map (·.1))) → (∀ p ∈ sub, p.1 < L') →
      wpAny (model prog w) (A.deeper (envOfC qual scope L' f cdv)) (execs body (envOfC qual scope L' f cdv))
        (fun fl s' => R (.ok (.ret (match fl with | .ret v => v | _ => .none))) s')
        (fun e s' => wpAny (model prog w) (A.deeper (envOfC qual scope L' f cdv)) (leaving (envOfC qual scope L' f cdv) e) (fun _ s'' => R (.error e) s'') (fun e' s'' => R (.error e') s'') s')
        { s with heap := h₁, toks := tk })
    (hco : scope.isCoroutine = false) (hgen : scope.isGenerator = false) (hk : scope.kind = .function) : codeAny (model prog w) A (.call (.ref f) args) R s := by
  (refine (let Gk : Prop := _; (?_ : Gk)))
  obtain ⟨FG, BG, st, lv⟩ := groundX (R := R) B F N hA hf hke
  ((show Gk); k_unfold; clear Gk)
  refine codeAny_call_function hroom ((X₀.keeps F.keep) _ _ ho) rfl hco hgen rfl (codeRec_of (X₀.keeps F.keep) hcd) (hbind _ _ _ _ ?_)
  refine wpAny_newFunctionEnv_cells hk (kindsX hkind _) fun env' he s' x => ?_
  subst he
  refine ⟨(T.nolimit.keeps F.keep).keeps x.toInCall.keep, codeAny_func ?_⟩
  (refine (let Gk : Prop := _; (?_ : Gk)))
  obtain ⟨h₁, tk, rfl, _⟩ := x.done
  have hk₁ := x.toInCall.keep
  obtain ⟨cells, NC, Y⟩ := Cl.news (h₀ := s.heap) (Nat.le_refl _) fun n c hm => ⟨x.cell n c (lookup_of_mem_nodup (cellsFrom_names scope.names 0 (s.heap.objs.size + 1) [] [] rfl ▸ hnd) hm), x.above n c hm⟩
  ((show Gk); k_unfold; clear Gk)
  refine h s.heap.objs.size h₁ tk cells ⟨x.toInCall.ns, fun b o e => hk₁ b o (of_hideAll _ e), Nat.le_of_eq (hideAll_size _ _)⟩ (fun p hp => ?_) Y BG (X₀.keeps st) (T.keeps st) (fun p hp => Heap.lt_size (N p hp).1)
  rcases List.mem_append.mp hp with hp | hp
  · refine ⟨(NC p hp).1, (NC p hp).2.1, ?_⟩
    cases q : (hideAll s.heap (sub.map (·.1))).get? p.1 with
    | none => rfl
    | some o => have := of_hideAll _ q; rw [(NC p hp).2.2] at this; cases this
  · exact ⟨hk₁ _ _ (N p hp).1, Nat.ne_of_lt (Heap.lt_size (N p hp).1), hideAll_none _ (List.mem_map_of_mem hp)⟩
theorem enterRO (B : Below A₀ base outer h₀) (F : Fr h₀ L s.heap m) (X₀ : K.In h₀) (T : Top p loose mean mg mb h₀) (hA : A.frames = some (env :: outer)) (hf : env.frame = some L) (hke : env.scope.kind = .function)
    (ho : K.lookup f = some ⟨oc, od, .func (fnOf name qual params body scope dV kV doc pm an cdv ct), osl⟩) (hcd : codeIn K cdv qual = true) (hroom : A.depth < recursionLimit)
    (hbind : BindsTo s (fnOf name qual params body scope dV kV doc pm an cdv ct) args binds) (hloc : ∀ y ∈ binds, scope.names.lookup y.1 = some .local)
    (h : ∀ L' h₁, Fr s.heap L' h₁ (fun y => binds.reverse.lookup y) → News s.heap L' h₁ [] → Below A base (env :: outer) s.heap → K.In s.heap → Top p loose mean mg mb s.heap →
      wpAny (model prog w) (A.deeper (envOf qual scope L' f cdv)) (execs body (envOf qual scope L' f cdv))
        (fun fl s' => R (.ok (.ret (match fl with | .ret v => v | _ => .none))) s')
        (fun e s' => wpAny (model prog w) (A.deeper (envOf qual scope L' f cdv)) (leaving (envOf qual scope L' f cdv) e) (fun _ s'' => R (.error e) s'') (fun e' s'' => R (.error e') s'') s')
        { s with heap := h₁, toks := s.toks + binds.length })
    (hco : scope.isCoroutine = false) (hgen : scope.isGenerator = false) (hk : scope.kind = .function)
    (hcell : ∀ x ∈ scope.names, x.2 ≠ .cell) : codeAny (model prog w) A (.call (.ref f) args) R s := enterG [] B F X₀ News.nil T hA hf hke ho hcd hroom hbind hloc h hco hgen hk hcell
theorem enterROC (B : Below A₀ base outer h₀) (F : Fr h₀ L s.heap m) (X₀ : K.In h₀) (T : Top p loose mean mg mb h₀) (hA : A.frames = some (env :: outer)) (hf : env.frame = some L) (hke : env.scope.kind = .function)
    (ho : K.lookup f = some ⟨oc, od, .func (fnOf name qual params body scope dV kV doc pm an cdv ct), osl⟩) (hcd : codeIn K cdv qual = true) (hroom : A.depth < recursionLimit)
    (hbind : BindsTo s (fnOf name qual params body scope dV kV doc pm an cdv ct) args binds) (hkind : (binds.all fun y => scope.names.lookup y.1 == some .local || scope.names.lookup y.1 == some .cell) = true)
    (hnd : ((cellsFrom 0 scope.names []).map (·.1)).Nodup)
    (h : ∀ L' h₁ tk cells, Fr s.heap L' h₁ (bindL (envOfC qual scope L' f cdv).kindOf binds fun _ => none) → News s.heap L' h₁ (cells ++ []) →
      CellsAre (bindC (envOfC qual scope L' f cdv).kindOf binds fun _ => none) (cellsFrom (L' + 1) scope.names []) cells → Below A base (env :: outer) s.heap → K.In s.heap → Top p loose mean mg mb s.heap → (∀ p ∈ ([] : Led), p.1 < L') →
      wpAny (model prog w) (A.deeper (envOfC qual scope L' f cdv)) (execs body (envOfC qual scope L' f cdv))
        (fun fl s' => R (.ok (.ret (match fl with | .ret v => v | _ => .none))) s')
        (fun e s' => wpAny (model prog w) (A.deeper (envOfC qual scope L' f cdv)) (leaving (envOfC qual scope L' f cdv) e) (fun _ s'' => R (.error e) s'') (fun e' s'' => R (.error e') s'') s')
        { s with heap := h₁, toks := tk })
    (hco : scope.isCoroutine = false) (hgen : scope.isGenerator = false) (hk : scope.kind = .function) : codeAny (model prog w) A (.call (.ref f) args) R s := enterGC [] B F X₀ News.nil T hA hf hke ho hcd hroom hbind hkind hnd h hco hgen hk
theorem fr_keeps {h h' : Heap} (F : Fr h₀ L h m) (k : ∀ b o, h.get? b = some o → h'.get? b = some o) : Fr h₀ L h' m :=
  ⟨F.ns.at' fun o e => k _ o e, fun b o e => k b o (F.keep b o e), F.above⟩
theorem news_keeps {h h' : Heap} {news : Led} (N : News h₀ L h news) (k : ∀ b o, h.get? b = some o → h'.get? b = some o) : News h₀ L h' news := fun p hp => ⟨k _ _ (N p hp).1, (N p hp).2⟩
theorem news_new {h h' : Heap} {a : Addr} {o : Obj} (F : Fr h₀ L h m) (ha : h.get? a = none) (hs : a ≠ L) (e : h'.get? a = some o) (news : Led) (N : News h₀ L h' news) : News h₀ L h' ((a, o) :: news) := fun q hq => by
  rcases List.mem_cons.mp hq with rfl | hq
  · refine ⟨e, hs, ?_⟩
    cases q : h₀.get? a with
    | none => rfl
    | some o' => exact absurd (F.keep _ _ q) (by rw [ha]; exact fun x => nomatch x)
  · exact N q hq
theorem tup_base {h : Heap} {a : Addr} {vs : Array Value} {n : Nat} (F : Fr h₀ L h m) (ha : h₀.get? a = some { cls := .type "tuple", data := .seq vs n }) : IsTup h a vs := ⟨_, F.keep _ _ ha, rfl, n, rfl⟩
theorem with_map {h : Heap} {P : Prop} (_ : Fr h₀ L h m) (k : ∀ m', m' = m → P) : P := k m rfl
theorem with_upd1 (a : Str) (m : Str → Option Value) : m = fun y => if y = a then m a else m y := by
  funext y
  by_cases h : y = a
  · rw [if_pos h, h]
  · rw [if_neg h]
theorem with_upd2 (a b : Str) (m : Str → Option Value) : m = fun y => if y = a then m a else if y = b then m b else m y := by
  funext y
  by_cases h : y = a
  · rw [if_pos h, h]
  · rw [if_neg h]
    exact congrFun (with_upd1 b m) y
theorem with_col2 {a b : Str} {v u uv uk : Option Value} {m : Str → Option Value} : (fun (y : Str) => if y = a then v else if y = b then u else if y = a then uv else if y = b then uk else m y) = fun (y : Str) => if y = a then v else if y = b then u else m y := by
  funext y
  by_cases h : y = a
  · rw [if_pos h, if_pos h]
  · rw [if_neg h, if_neg h, if_neg h]
    by_cases h' : y = b
    · rw [if_pos h', if_pos h']
    · rw [if_neg h', if_neg h', if_neg h']
theorem inst_base {h : Heap} {x C dx : Addr} {od : Obj} {sl : Array (Option Value)} (F : Fr h₀ L h m) (h1 : h₀.get? x = some ⟨.ref C, some dx, .plain, sl⟩) (h2 : h₀.get? dx = some od) : InstAt h x ⟨.ref C, some dx, .plain, sl⟩ C (some od) :=
  ⟨F.keep _ _ h1, rfl, rfl, F.keep _ _ h2⟩
end
abbrev RO (w : World) (d : Nat) (f : Addr) (vs : List Value) (kw : List (Str × Value)) (s : Shared) (R : Value → Heap → Prop) : Prop :=
  ∀ {p : Program} {loose : List Str} {mean : ExcName → Option Value} {mg mb : Str → Option Value} {dp un : Nat} {gd : Option (List Code)} {cn : Str} {cs : Scope} {a : Addr} {ccd : Value} {cl : List (Str × Addr)} {outer : List Env} {A₀ : Around} {base h₀ : Heap} {L : Addr} {m : Str → Option Value} {Q E : Value → Shared → Prop},
    Below A₀ base outer h₀ → Fr h₀ L s.heap m → (hd.heap_39 w.params).In h₀ → Top p loose mean mg mb h₀ → cs.kind = .function → dp + d < recursionLimit → un + 20 * d < cLine →
    (∀ v h' tk', (∀ b o, s.heap.get? b = some o → h'.get? b = some o) → R v h' → Q v { s with heap := h', toks := tk' }) →
    wpAny (model PySem.Challenge.pw_rt0090_01 w) (ktrTop dp un gd cn cs L a ccd cl outer) (call (.ref f) vs kw) Q E s
end Mine
namespace Mine
open PySem PySem.W PySem.Calls PyProof.Rows
theorem plain_lower {x : Str} (h : Plain x) : Plain (Txt.lower x) := by
  have hA : ∀ c ∈ x.cps.toList, c < 128 := fun c hc => by have := (h c hc).2; lia
  rw [lower_ascii hA]
  intro c hc
  simp only [Array.toList_map, List.mem_map] at hc
  (refine (let Gk : Prop := _; (?_ : Gk)))
  obtain ⟨b, hb, rfl⟩ := hc
  have := h b hb
  ((show Gk); k_unfold; clear Gk)
  unfold lo1
  split <;> lia
theorem len_lower_plain {x : Str} (h : Plain x) : (Txt.lower x).length = x.length := by
  have hA : ∀ c ∈ x.cps.toList, c < 128 := fun c hc => by have := (h c hc).2; lia
  rw [lower_ascii hA]
  show (x.cps.map lo1).size = x.cps.size
  simp
end Mine
namespace Mine
open PySem PySem.W PySem.Calls PyProof.Rows PySem.Spec
section
variable {prog : Program} {w : World} {A : Around} {s : Shared} {h₀ : Heap} {L : Addr} {m : Str → Option Value} {env : Env} {ct elt : Expr} {x : Str} {scope : Scope} {cl : List (Str × Addr)}
theorem ik_lt {i k n : Nat} (e : i + (k + 1) = n) : i < n := e ▸ Nat.lt_add_of_pos_right (Nat.succ_pos k)
theorem ik_s {i k n : Nat} (e : i + (k + 1) = n) : i + 1 + k = n := (Nat.succ_add i k).trans e
theorem compEnd_mono {s₁ s₂ : Shared} {I C D : Addr} {oI oC oD : Obj} {S : Led → Prop} {r r' : Value → Led → Prop} {y : Value} (k : ∀ y news, r y news → r' y news) (h : LCg.CompEnd h₀ L m s₁ I oI C oC D oD S r y s₂) : LCg.CompEnd h₀ L m s₁ I oI C oC D oD S r' y s₂ := by
  (refine (let Gk : Prop := _; (?_ : Gk)))
  obtain ⟨h', tk, news', e, F, N, o, hS, hr⟩ := h
  ((show Gk); k_unfold; clear Gk)
  exact ⟨h', tk, news', e, F, N, o, hS, k _ _ hr⟩
theorem compRest_of {S : Led → Prop} {P : Nat → Value → Prop} {Fin : List Value → Led → Prop} (n : Nat) (J : Nat → List Value → Led → Prop)
    (step : ∀ i ys news, i < n → J i ys news → ∀ v I oI C oC D m₂ h tk (E' : Value → Shared → Prop), P i v → LCg.NsObj oC m₂ → m₂ x = some v → Fr h₀ L h m → News h₀ L h ((I, oI) :: (C, oC) :: (D, LCg.lst ys) :: news) → LCg.Off3 I C D news → ((@Ne Nat I C) ∧ (@Ne Nat I D) ∧ (@Ne Nat C D)) →
      wpAny (model prog w) A (eval elt (compEnvC scope cl C env)) (LCg.CompEnd h₀ L m { s with heap := h, toks := tk } I oI C oC D (LCg.lst ys) S (fun y news' => J (i + 1) (ys ++ [y]) news')) E' { s with heap := h, toks := tk })
    (fin : ∀ ys news, J n ys news → Fin ys news) : ∀ (k i : Nat) (ys : List Value) (news : Led), i + k = n → J i ys news → LCg.CompRest prog w A h₀ L m env elt x scope cl s S P Fin k i ys news := by
  intro k
  induction k with
  | zero => exact fun i ys news e hJ => LCg.CompRest.zero (fin ys news (e ▸ hJ))
  | succ k ih =>
    exact fun i ys news e hJ => LCg.CompRest.succ fun v I oI C oC D m₂ h tk E' hP hC hx F N o3 ne =>
      wpAny_mono (step i ys news (ik_lt e) hJ v I oI C oC D m₂ h tk E' hP hC hx F N o3 ne) (fun _ _ he => compEnd_mono (fun _ _ hj => ih (i + 1) _ _ (ik_s e) hj) he) fun _ _ e => e
theorem compRestT_of {S : Led → Prop} {P : Nat → Value → Prop} {Fin : List Value → Led → Prop} (n : Nat) (J : Nat → List Value → Led → Prop)
    (step : ∀ i ys news, i < n → J i ys news → ∀ v I oI C oC D m₂ h tk (E' : Value → Shared → Prop), P i v → LCg.NsObj oC m₂ → m₂ x = some v → Fr h₀ L h m → News h₀ L h ((I, oI) :: (C, oC) :: (D, LCg.lst ys) :: news) → LCg.Off3 I C D news → ((@Ne Nat I C) ∧ (@Ne Nat I D) ∧ (@Ne Nat C D)) →
      wpAny (model prog w) A (isTrue ct (compEnvC scope cl C env) (eval ct (compEnvC scope cl C env))) (fun ok s' => if ok = true then
        wpAny (model prog w) A (eval elt (compEnvC scope cl C env)) (LCg.CompEnd h₀ L m { s with heap := h, toks := tk } I oI C oC D (LCg.lst ys) S (fun y news' => J (i + 1) (ys ++ [y]) news')) E' s'
        else LCg.CompEnd h₀ L m { s with heap := h, toks := tk } I oI C oC D (LCg.lst ys) S (fun _ news' => J (i + 1) ys news') Value.none s') E' { s with heap := h, toks := tk })
    (fin : ∀ ys news, J n ys news → Fin ys news) : ∀ (k i : Nat) (ys : List Value) (news : Led), i + k = n → J i ys news → LCt.CompRestT prog w A h₀ L m env ct elt x scope cl s S P Fin k i ys news := by
  intro k
  induction k with
  | zero => exact fun i ys news e hJ => LCt.CompRestT.zero (fin ys news (e ▸ hJ))
  | succ k ih =>
    exact fun i ys news e hJ => LCt.CompRestT.succ fun v I oI C oC D m₂ h tk E' hP hC hx F N o3 ne =>
      wpAny_mono (step i ys news (ik_lt e) hJ v I oI C oC D m₂ h tk E' hP hC hx F N o3 ne) (fun ok _ he => by
        cases ok with
        | true => exact wpAny_mono he (fun _ _ he => compEnd_mono (fun _ _ hj => ih (i + 1) _ _ (ik_s e) hj) he) fun _ _ e => e
        | false =>
          rw [if_neg Bool.false_ne_true] at he ⊢
          exact compEnd_mono (fun _ _ hj => ih (i + 1) _ _ (ik_s e) hj) he) fun _ _ e => e
theorem isList_led {l : Addr} {ys : List Value} {n : Nat} {dd : Option Addr} {sl : Array (Option Value)} {news : Led} {h : Heap} (N : News h₀ L h news) (hm : (l, (⟨.type "list", dd, .seq ys.toArray n, sl⟩ : Obj)) ∈ news) : h.IsList l ys.toArray := ⟨_, (N _ hm).1, rfl, n, rfl⟩
theorem len_led {E : Value → Shared → Prop} {l : Addr} {ys : List Value} {n : Nat} {dd : Option Addr} {sl : Array (Option Value)} {news : Led} {Q : Value → Shared → Prop} (N : News h₀ L s.heap news) (hm : (l, (⟨.type "list", dd, .seq ys.toArray n, sl⟩ : Obj)) ∈ news) (hsz : (ys.length : Int) < 2 ^ 63)
    (h : Q (.int ys.length (s.toks + 1)) { s with toks := s.toks + 1 + 1 }) : wpAny (model prog w) A (call (.builtin "len") [.ref l]) Q E s :=
  len_list (isList_led N hm) (by simpa using hsz) (by simpa using h)
end
end Mine
local macro_rules | `(tactic| k_room) => `(tactic| ((try dsimp (zetaDelta := true) only); ktr_room))
local macro_rules | `(tactic| k_units) => `(tactic| ((try dsimp (zetaDelta := true) only); ktr_units))
local macro_rules | `(tactic| k_inst) => `(tactic| exact Mine.inst_base (by k_asm) (by assumption) (by assumption))
local macro_rules | `(tactic| kun_tup) => `(tactic| exact Mine.tup_base (by k_asm) (by assumption))
local macro_rules | `(tactic| walk_at "call builtin:len") => `(tactic| (k_here; (with_reducible show wpAny _ _ (call (Value.builtin "len") [Value.ref _]) _ _ _); k_dflt (refine' Mine.len_led (by k_asm) (by k_mem) (by first | omega | (simp; omega)) ?_; k_whole)))
theorem Mine.off1 : True := by w_top off; trivial
namespace Mine
open PySem PySem.W PySem.Calls PyProof.Rows
inductive TabItems (h : Heap) : List Value → List (Str × Str) → Prop
  | nil : TabItems h [] []
  | cons {a : Addr} {k v : Str} {t u : Tok} {n : Nat} {vs : List Value} {items : List (Str × Str)} : h.get? a = some { cls := .type "tuple", data := .seq #[.str k t, .str v u] n } → TabItems h vs items → TabItems h (.ref a :: vs) ((k, v) :: items)
theorem TabItems.at {h : Heap} {vs : List Value} {items : List (Str × Str)} (H : TabItems h vs items) : ∀ {i : Nat} {x : Value}, vs[i]? = some x → ∃ a k v t u n, x = .ref a ∧ items[i]? = some (k, v) ∧ h.get? a = some { cls := .type "tuple", data := .seq #[.str k t, .str v u] n } := by
  induction H with
  | nil => exact fun e => nomatch e
  | cons ha _ ih =>
    intro i x e
    cases i with
    | zero => exact ⟨_, _, _, _, _, _, (Option.some.inj e).symm, rfl, ha⟩
    | succ i => exact ih e
theorem TabItems.len {h : Heap} {vs : List Value} {items : List (Str × Str)} (H : TabItems h vs items) : vs.length = items.length := by
  induction H with
  | nil => rfl
  | cons _ _ ih => exact congrArg (· + 1) ih
noncomputable def lookF (items : List (Str × Str)) (nm : Str) : Option Str := (items.find? fun kv => Txt.lower kv.1 == Txt.lower nm).map (·.2)
theorem look_found {items : List (Str × Str)} {nm k v : Str} {i : Nat} (hkv : items[i]? = some (k, v)) (he : (Txt.lower k == Txt.lower nm) = true) (hno : ∀ j, j < i → ∀ kv, items[j]? = some kv → (Txt.lower kv.1 == Txt.lower nm) = false) : lookF items nm = some v := by
  induction items generalizing i with
  | nil => cases hkv
  | cons p r ih =>
    unfold lookF
    rw [List.find?_cons]
    cases i with
    | zero =>
      cases hkv
      rw [he]; rfl
    | succ i =>
      rw [hno 0 (Nat.succ_pos _) p rfl]
      exact ih hkv fun j hj kv e => hno (j + 1) (Nat.succ_lt_succ hj) kv e
theorem look_none {items : List (Str × Str)} {nm : Str} (hno : ∀ j, j < items.length → ∀ kv, items[j]? = some kv → (Txt.lower kv.1 == Txt.lower nm) = false) : lookF items nm = none := by
  unfold lookF
  rw [List.find?_eq_none.mpr]
  · rfl
  · intro kv hm
    (refine (let Gk : Prop := _; (?_ : Gk)))
    obtain ⟨j, hj, e⟩ := List.getElem_of_mem hm
    ((show Gk); k_unfold; clear Gk)
    rw [hno j hj kv (by rw [List.getElem?_eq_getElem hj, e])]
    exact Bool.false_ne_true
theorem c_get (w : World) (s : Shared) (x d l : Addr) (tk : Tok) (n : Nat) (vs : List Value) (items : List (Str × Str)) (hx : s.heap.get? x = some (instObj 171 d))
    (hd : s.heap.get? d = some (dictOf [{ hash := PyData.keyHash w.params "_headers", key := .str "_headers" tk, val := .ref l }] 1)) (hl : s.heap.get? l = some { cls := .type "list", data := .seq vs.toArray n }) (hT : TabItems s.heap vs items)
    (nm : Str) (t : Tok) (hp : Plain nm) (hn : nm.length ≤ 40) (hi : ∀ kv ∈ items, kv.1.length ≤ 40) :
    RO w 8 118 [.ref x, .str nm t] [] s (fun v _ => match lookF items nm with | some y => ∃ t, v = .str y t | none => v = .none) := by
  revert hx hd hl hT hp hn hi
  revert w s x d l tk n vs items nm t
  iterate 1 refine no_implicit_lambda% (Mine.pad1 ?_)
  refine' no_implicit_lambda% (Mine.hk12 ?ne ?_)
  case ne => (repeat' (first | (refine Mine.nePair ?_ ?_) | exact Mine.neWorld | exact Mine.neAround | exact Mine.neShared | infer_instance))
  generalize Mine.A2 _ = w; generalize Mine.A3 _ = s; generalize Mine.A4 _ = x; generalize Mine.A5 _ = d; generalize Mine.A6 _ = l; generalize Mine.A7 _ = tk; generalize Mine.A8 _ = n; generalize Mine.A9 _ = vs; generalize Mine.A10 _ = items; generalize Mine.A11 _ = nm; generalize Mine.A12 _ = t
  intro uHk
  clear uHk
  intro hx hd hl hT hp hn hi
  refine' no_implicit_lambda% (Mine.hk21 ?ne ?_)
  case ne => (repeat' (first | (refine Mine.nePair ?_ ?_) | exact Mine.neWorld | exact Mine.neAround | exact Mine.neShared | infer_instance))
  generalize Mine.A1 _ = p; generalize Mine.A2 _ = loose; generalize Mine.A3 _ = mean; generalize Mine.A4 _ = mg; generalize Mine.A5 _ = mb; generalize Mine.A6 _ = dp; generalize Mine.A7 _ = un; generalize Mine.A8 _ = gd; generalize Mine.A9 _ = cn; generalize Mine.A10 _ = cs; generalize Mine.A11 _ = a; generalize Mine.A12 _ = ccd; generalize Mine.A13 _ = cl; generalize Mine.A14 _ = outer; generalize Mine.A15 _ = A₀; generalize Mine.A16 _ = base; generalize Mine.A17 _ = h₀; generalize Mine.A18 _ = L; generalize Mine.A19 _ = m; generalize Mine.A20 _ = Q; generalize Mine.A21 _ = E
  intro uHk
  clear uHk
  intro B F X T hk hdp hun hret
  refine wpAny_call ?_
  (k_dflt (refine' Mine.enterRO ?k1ₘ ?k2ₘ ?k3ₘ ?k5ₘ ?kAₘ ?kFₘ ?kKₘ ?k6ₘ ?k7ₘ ?k8ₘ ?k9ₘ ?kBₘ ?_ ?c2ₘ ?c3ₘ ?c4ₘ ?c5ₘ; (case kAₘ => exact rfl); (case kFₘ => exact rfl); (case kKₘ => assumption); (case k1ₘ => k_asm); (case k2ₘ => k_asm); (case k3ₘ => k_asm); (case k5ₘ => k_asm); (case k6ₘ => k_is); (case k7ₘ => k_is); (case k8ₘ => ktr_room); (case k9ₘ => first | exact BindsTo.of_eq rfl | exact binds_K (by k_in) rfl (by k_is) rfl rfl rfl); (case c5ₘ => decide); (case kBₘ => exact locs rfl); (case c2ₘ => exact rfl); (case c3ₘ => exact rfl); (case c4ₘ => exact rfl); k_whole); intro L'ₘ h'ₘ F'ₘ N'ₘ B'ₘ X'ₘ T'ₘ; (try dsimp only); (try k_fold))
  (refine (let Akₘ : PySem.Around := _; (?_ : wpAny _ Akₘ _ _ _ _)))
  (repeat' (first | (k_unfold; (try dsimp only)) | ((fail_if_success (with_reducible (refine Mine.stp 0 ?_ ?_; (focus ((repeat' constructor); done))))); (first | (k_end; wrow_close) | (first | ((with_reducible show wpAny _ _ (call (Value.builtin "re.Pattern.search") _ _) _ _ _); (k_here; k_dflt (refine' Mine.pat_search (by k_asm) (by k_asm) (by k_is) (by exact rfl) (by exact rfl) (by k_is) (by first | exact Or.inl rfl | exact Or.inr rfl) (by first | assumption | (apply Mine.plain_lower; assumption)) (by size_fits) ?_; k_whole))) | (k_here; (with_reducible show wpAny _ _ (getMethod (Value.ref _) (PySem.Str.ofString "search") _) _ _ _); k_dflt (refine' Mine.pat_method (by k_asm) (by k_asm) (by k_is) ?_; k_whole)) | walk1) | (dsimp only; (first | walk1 | skip)))) | ((fail_if_success (with_reducible show wpAny _ _ _ _ _ _)); dsimp only [Mine.MyPost]) | (leave1; try dsimp only) | fail "no step"))
  (refine PySem.wpAny_For ?_ (by first | (intro _; rfl) | (intro xₘ; rfl)))
  (repeat' (first | (k_unfold; (try dsimp only)) | ((fail_if_success (with_reducible (refine Mine.stp 0 ?_ ?_; (focus ((repeat' constructor); done))))); (first | (k_end; wrow_close) | (first | ((with_reducible show wpAny _ _ (call (Value.builtin "re.Pattern.search") _ _) _ _ _); (k_here; k_dflt (refine' Mine.pat_search (by k_asm) (by k_asm) (by k_is) (by exact rfl) (by exact rfl) (by k_is) (by first | exact Or.inl rfl | exact Or.inr rfl) (by first | assumption | (apply Mine.plain_lower; assumption)) (by size_fits) ?_; k_whole))) | (k_here; (with_reducible show wpAny _ _ (getMethod (Value.ref _) (PySem.Str.ofString "search") _) _ _ _); k_dflt (refine' Mine.pat_method (by k_asm) (by k_asm) (by k_is) ?_; k_whole)) | walk1) | (dsimp only; (first | walk1 | skip)))) | ((fail_if_success (with_reducible show wpAny _ _ _ _ _ _)); dsimp only [Mine.MyPost]) | (leave1; try dsimp only) | fail "no step"))
  (with_reducible rename Fr _ _ _ _ => F1)
  refine (let m1 : PySem.Str → Option Value := _; (fun (F1 : Fr _ _ _ m1) => (?_ : _)) F1)
  have em : m1 = m1 := rfl
  refine iter_list (fun i m news => (∃ uk uv, m = fun (y : Str) => if y = "v" then uv else if y = "k" then uk else m1 y) ∧ news = [] ∧ ∀ j, j < i → ∀ kv, items[j]? = some kv → (Txt.lower kv.1 == Txt.lower nm) = false) rfl ⟨_, hl, rfl, n, rfl⟩ F1 (by assumption) ?_ ?_ ?_
  · clear em
    refine ⟨⟨_, _, with_upd2 "v" "k" _⟩, rfl, fun j hj => absurd hj (Nat.not_lt_zero _)⟩
  · intro i v m₁ news₁ h tk I o hv hJ6 hI F2 N2
    (refine (let Gk : Prop := _; (?_ : Gk)))
    obtain ⟨⟨uk, uv, rfl⟩, rfl, hno⟩ := hJ6
    obtain ⟨a, k, v, t, u, n, rfl, hkv, ha⟩ := hT.at hv
    clear em
    try dsimp only [envOf] at F2 N2
    ((show Gk); k_unfold; clear Gk)
    k_fold
    have hk1 : k.length ≤ 40 := hi _ (List.mem_of_getElem? hkv)
    (repeat' (first | (k_unfold; (try dsimp only)) | ((fail_if_success (with_reducible (refine Mine.stp 0 ?_ ?_; (focus ((repeat' constructor); done))))); (first | (k_end; wrow_close) | (first | ((with_reducible show wpAny _ _ (call (Value.builtin "re.Pattern.search") _ _) _ _ _); (k_here; k_dflt (refine' Mine.pat_search (by k_asm) (by k_asm) (by k_is) (by exact rfl) (by exact rfl) (by k_is) (by first | exact Or.inl rfl | exact Or.inr rfl) (by first | assumption | (apply Mine.plain_lower; assumption)) (by size_fits) ?_; k_whole))) | (k_here; (with_reducible show wpAny _ _ (getMethod (Value.ref _) (PySem.Str.ofString "search") _) _ _ _); k_dflt (refine' Mine.pat_method (by k_asm) (by k_asm) (by k_is) ?_; k_whole)) | walk1) | (dsimp only; (first | walk1 | skip)))) | ((fail_if_success (with_reducible show wpAny _ _ _ _ _ _)); dsimp only [Mine.MyPost]) | (leave1; try dsimp only) | fail "no step"))
    · rename (Txt.lower k == Txt.lower nm) = true => he
      have hf : lookF items nm = some v := look_found hkv he hno
      refine hret _ _ _ (fun b ob e => (by assumption : Fr s.heap _ _ _).keep b ob e) ?_
      show match lookF items nm with | some y => ∃ t, _ = Value.str y t | none => _
      rw [hf]
      exact ⟨_, rfl⟩
    · rename (Txt.lower k == Txt.lower nm) = false => he
      refine MyEnd.intro (news' := []) (by assumption) (by assumption) ?_ (fun p hp => hp) (fun p hp => nomatch hp) (fun p hp => nomatch hp)
      refine ⟨⟨some (.str k t), some (.str v u), with_col2⟩, rfl, fun j hj kv e => ?_⟩
      · rcases Nat.lt_succ_iff_lt_or_eq.mp hj with q | rfl
        · exact hno j q kv e
        · rw [hkv] at e; cases e; exact he
  · intro m₁ news₁ h tk hJ7 F2 N2
    (refine (let Gk : Prop := _; (?_ : Gk)))
    obtain ⟨⟨uk, uv, rfl⟩, rfl, hno⟩ := hJ7
    clear em
    try dsimp only [envOf] at F2 N2
    ((show Gk); k_unfold; clear Gk)
    (repeat' (first | (k_unfold; (try dsimp only)) | ((fail_if_success (with_reducible (refine Mine.stp 0 ?_ ?_; (focus ((repeat' constructor); done))))); (first | (k_end; wrow_close) | (first | ((with_reducible show wpAny _ _ (call (Value.builtin "re.Pattern.search") _ _) _ _ _); (k_here; k_dflt (refine' Mine.pat_search (by k_asm) (by k_asm) (by k_is) (by exact rfl) (by exact rfl) (by k_is) (by first | exact Or.inl rfl | exact Or.inr rfl) (by first | assumption | (apply Mine.plain_lower; assumption)) (by size_fits) ?_; k_whole))) | (k_here; (with_reducible show wpAny _ _ (getMethod (Value.ref _) (PySem.Str.ofString "search") _) _ _ _); k_dflt (refine' Mine.pat_method (by k_asm) (by k_asm) (by k_is) ?_; k_whole)) | walk1) | (dsimp only; (first | walk1 | skip)))) | ((fail_if_success (with_reducible show wpAny _ _ _ _ _ _)); dsimp only [Mine.MyPost]) | (leave1; try dsimp only) | fail "no step"))
    have hf : lookF items nm = none := look_none (hT.len ▸ hno)
    refine hret _ _ _ (fun b ob e => (by assumption : Fr s.heap _ _ _).keep b ob e) ?_
    show match lookF items nm with | some y => ∃ t, _ = Value.str y t | none => _
    rw [hf]
end Mine
namespace Mine
open PySem PySem.W PySem.Calls PyProof.Rows
structure GetOk (w : World) (g : Heap) (l : Addr) (lo : Obj) (x : Addr) (nm : Str) (R : Value → Prop) : Prop where
  ok : ∀ s', (∀ b o, g.get? b = some o → s'.heap.get? b = some o) → s'.heap.get? l = some lo → ∀ t, RO w 8 118 [.ref x, .str nm t] [] s' (fun v _ => R v)
theorem TabItems.mono {h h' : Heap} {vs : List Value} {items : List (Str × Str)} (H : TabItems h vs items) (k : ∀ a k v n, h.get? a = some { cls := .type "tuple", data := .seq #[k, v] n } → h'.get? a = some { cls := .type "tuple", data := .seq #[k, v] n }) : TabItems h' vs items := by
  induction H with
  | nil => exact .nil
  | cons ha _ ih => exact .cons (k _ _ _ _ ha) ih
theorem getOk_of (w : World) (g : Heap) (x d l : Addr) (tk : Tok) (n : Nat) (vs : List Value) (items : List (Str × Str)) (hx : g.get? x = some (instObj 171 d))
    (hd : g.get? d = some (dictOf [{ hash := PyData.keyHash w.params "_headers", key := .str "_headers" tk, val := .ref l }] 1)) (hT : TabItems g vs items)
    (nm : Str) (hp : Plain nm) (hn : nm.length ≤ 40) (hi : ∀ kv ∈ items, kv.1.length ≤ 40) (R : Value → Prop) (hR : ∀ v, (match lookF items nm with | some y => ∃ t, v = .str y t | none => v = .none) → R v) :
    GetOk w g l { cls := .type "list", data := .seq vs.toArray n } x nm R :=
  ⟨fun s' k hl t {p loose mean mg mb dp un gd cn cs a ccd cl outer A₀ base h₀ L m Q E} B F X T hk hdp hun hret =>
    c_get w s' x d l tk n vs items (k _ _ hx) (k _ _ hd) hl (hT.mono fun a _ _ _ e => k _ _ e) nm t hp hn hi B F X T hk hdp hun fun v h' tk' k' r => hret v h' tk' k' (hR v r)⟩
end Mine
theorem Mine.off2 : True := by w_top off; trivial
namespace Mine
open PySem PySem.W PySem.Calls PyProof.Rows
theorem cls_ne {h : Heap} {a b : Addr} {o o' : Obj} (e : h.get? a = some o) (e' : h.get? b = some o') (hc : o.cls ≠ o'.cls) : a ≠ b := fun q => by
  rw [q, e'] at e
  exact hc (congrArg Obj.cls (Option.some.inj e)).symm
theorem keep_but {h h' : Heap} {l L : Addr} {lo : Obj} {m : Str → Option Value} {news : Led} (hl : h.get? l = some lo) (F : Fr (hideAll h [l]) L h' m) (N : News (hideAll h [l]) L h' news) (hm : (l, lo) ∈ news) : ∀ b o, h.get? b = some o → h'.get? b = some o := fun b o e => by
  by_cases q : b = l
  · subst q
    rw [hl] at e
    cases e
    exact (N _ hm).1
  · exact F.keep _ _ (hideAll_get [l] e (by simpa using q))
theorem c_setdefault (w : World) (s : Shared) (x d l : Addr) (tk : Tok) (n : Nat) (vs : List Value) (items : List (Str × Str)) (hx : s.heap.get? x = some (instObj 171 d))
    (hd : s.heap.get? d = some (dictOf [{ hash := PyData.keyHash w.params "_headers", key := .str "_headers" tk, val := .ref l }] 1)) (hl : s.heap.get? l = some { cls := .type "list", data := .seq vs.toArray n }) (hT : TabItems s.heap vs items)
    (nm : Str) (t : Tok) (hp : Plain nm) (hn : nm.length ≤ 40) (hi : ∀ kv ∈ items, kv.1.length ≤ 40) (hlen : vs.length ≤ 20) (y : Str) (u : Tok) (hpy : Plain y) (hny : y.length ≤ 40)
    {p : Program} {loose : List Str} {mean : ExcName → Option Value} {mg mb : Str → Option Value} {dp un : Nat} {gd : Option (List Code)} {cn : Str} {cs : Scope} {a : Addr} {ccd : Value} {cl : List (Str × Addr)} {outer : List Env} {A₀ : Around} {base h₀ : Heap} {L : Addr} {m : Str → Option Value} {Q E : Value → Shared → Prop}
    (B : Below A₀ base outer h₀) (F : Fr h₀ L s.heap m) (X : (Mine.pre.hd.heap_39 w.params).In h₀) (T : Top p loose mean mg mb h₀) (hk : cs.kind = .function) (hdp : dp + 12 < recursionLimit) (hun : un + 240 < cLine)
    (hl0 : h₀.get? l = none) (hlL : l ≠ L)
    (hfound : ∀ z, lookF items nm = some z → ∀ t' h' tk', (∀ b o, s.heap.get? b = some o → h'.get? b = some o) → Q (.str z t') { s with heap := h', toks := tk' })
    (hnew : lookF items nm = none → ∀ h' tk' a t1 t2 n', (∀ b o, b ≠ l → s.heap.get? b = some o → h'.get? b = some o) → s.heap.get? a = none → h'.get? a = some { cls := .type "tuple", data := .seq #[.str nm t1, .str y t2] } → h'.get? l = some { cls := .type "list", data := .seq (vs ++ [Value.ref a]).toArray n' } → Q (.str y u) { s with heap := h', toks := tk' }) :
    wpAny (model PySem.Challenge.pw_rt0090_01 w) (ktrTop dp un gd cn cs L a ccd cl outer) (call (.ref 161) [.ref x, .str nm t, .str y u]) Q E s := by
  revert hx hd hl hT hp hn hi hlen hpy hny B F X T hk hdp hun hl0 hlL hfound hnew
  revert w s x d l tk n vs items nm t y u p loose mean mg mb dp un gd cn cs a ccd cl outer A₀ base h₀ L m Q E
  refine' no_implicit_lambda% (Mine.hk34 ?ne ?_)
  case ne => (repeat' (first | (refine Mine.nePair ?_ ?_) | exact Mine.neWorld | exact Mine.neAround | exact Mine.neShared | infer_instance))
  generalize Mine.A1 _ = w; generalize Mine.A2 _ = s; generalize Mine.A3 _ = x; generalize Mine.A4 _ = d; generalize Mine.A5 _ = l; generalize Mine.A6 _ = tk; generalize Mine.A7 _ = n; generalize Mine.A8 _ = vs; generalize Mine.A9 _ = items; generalize Mine.A10 _ = nm; generalize Mine.A11 _ = t; generalize Mine.A12 _ = y; generalize Mine.A13 _ = u; generalize Mine.A14 _ = p; generalize Mine.A15 _ = loose; generalize Mine.A16 _ = mean; generalize Mine.A17 _ = mg; generalize Mine.A18 _ = mb; generalize Mine.A19 _ = dp; generalize Mine.A20 _ = un; generalize Mine.A21 _ = gd; generalize Mine.A22 _ = cn; generalize Mine.A23 _ = cs; generalize Mine.A24 _ = a; generalize Mine.A25 _ = ccd; generalize Mine.A26 _ = cl; generalize Mine.A27 _ = outer; generalize Mine.A28 _ = A₀; generalize Mine.A29 _ = base; generalize Mine.A30 _ = h₀; generalize Mine.A31 _ = L; generalize Mine.A32 _ = m; generalize Mine.A33 _ = Q; generalize Mine.A34 _ = E
  intro uHk
  clear uHk
  intro hx hd hl hT hp hn hi hlen hpy hny B F X T hk hdp hun hl0 hlL hfound hnew
  have xl : x ≠ l := cls_ne hx hl (fun q => nomatch q)
  have dl : d ≠ l := cls_ne hd hl (by show Value.type "dict" ≠ Value.type "list"; decide)
  have N : News h₀ L s.heap [(l, { cls := .type "list", data := .seq vs.toArray n })] := fun q hq => by rw [List.mem_singleton.mp hq]; exact ⟨hl, hlL, hl0⟩
  have up : ∀ b o, b ≠ l → s.heap.get? b = some o → (hideAll s.heap [l]).get? b = some o := fun b o hb e => hideAll_get [l] e (by simpa using hb)
  have hx' := up _ _ xl hx
  have hd' := up _ _ dl hd
  have hT' : TabItems (hideAll s.heap [l]) vs items := hT.mono fun a _ _ _ e => up _ _ (cls_ne e hl (by show Value.type "tuple" ≠ Value.type "list"; decide)) e
  refine wpAny_call ?_
  cases hlk : lookF items nm with
  | some z =>
    have hg : GetOk w (hideAll s.heap [l]) l { cls := .type "list", data := .seq vs.toArray n } x nm (fun v => ∃ t, v = .str z t) := getOk_of w _ x d l tk n vs items hx' hd' hT' nm hp hn hi _ fun v hv => by rw [hlk] at hv; exact hv
    (k_dflt (refine' Mine.enterG _ ?k1ₘ ?k2ₘ ?k3ₘ ?k4ₘ ?k5ₘ ?kAₘ ?kFₘ ?kKₘ ?k6ₘ ?k7ₘ ?k8ₘ ?k9ₘ ?kBₘ ?_ ?c2ₘ ?c3ₘ ?c4ₘ ?c5ₘ; (case kAₘ => exact rfl); (case kFₘ => exact rfl); (case kKₘ => assumption); (case k1ₘ => k_asm); (case k2ₘ => k_asm); (case k3ₘ => k_asm); (case k4ₘ => assumption); (case k5ₘ => k_asm); (case k6ₘ => k_is); (case k7ₘ => k_is); (case k8ₘ => ktr_room); (case k9ₘ => first | exact BindsTo.of_eq rfl | exact binds_K (by k_in) rfl (by k_is) rfl rfl rfl); (case c5ₘ => decide); (case kBₘ => exact locs rfl); (case c2ₘ => exact rfl); (case c3ₘ => exact rfl); (case c4ₘ => exact rfl); k_whole); intro L'ₘ h'ₘ F'ₘ N'ₘ B'ₘ X'ₘ T'ₘ; (try dsimp only); (try k_fold))
    (repeat' (first | (k_unfold; (try dsimp only)) | ((fail_if_success (with_reducible (refine Mine.stp 1 ?_ ?_; (focus ((repeat' constructor); done))))); (first | (k_end; wrow_close) | (first | (k_here; (with_reducible show wpAny _ _ (call (Value.ref 118) [Value.ref _, Value.str _ _]) _ _ _); k_dflt (refine' Mine.GetOk.ok (by assumption) _ (Fr.keep (by k_asm)) (News.get (by k_asm) (by k_mem)) _ (by k_asm) (by k_asm) (by k_asm) (by k_asm) (by first | exact rfl | assumption) (by ktr_room) (by ktr_units) ?_); intro v'ₘ h'ₘ tk'ₘ k'ₘ e'ₘ; (with_reducible rename Fr _ _ _ _ => kFₘ); (with_reducible rename News _ _ _ _ => kNₘ); (replace kFₘ := Mine.fr_keeps kFₘ k'ₘ); (replace kNₘ := Mine.news_keeps kNₘ k'ₘ); clear k'ₘ; (first | subst e'ₘ | (obtain ⟨t'ₘ, e1'ₘ⟩ := e'ₘ; subst e1'ₘ)); (try dsimp only)) | ((with_reducible show wpAny _ _ (call (Value.builtin "re.Pattern.search") _ _) _ _ _); (k_here; k_dflt (refine' Mine.pat_search (by k_asm) (by k_asm) (by k_is) (by exact rfl) (by exact rfl) (by k_is) (by first | exact Or.inl rfl | exact Or.inr rfl) (by first | assumption | (apply Mine.plain_lower; assumption)) (by size_fits) ?_; k_whole))) | (k_here; (with_reducible show wpAny _ _ (getMethod (Value.ref _) (PySem.Str.ofString "search") _) _ _ _); k_dflt (refine' Mine.pat_method (by k_asm) (by k_asm) (by k_is) ?_; k_whole)) | walk1) | (dsimp only; (first | walk1 | skip)))) | ((fail_if_success (with_reducible show wpAny _ _ _ _ _ _)); dsimp only [Mine.MyPost]) | (leave1; try dsimp only) | fail "no step"))
    exact hfound z hlk _ _ _ (fun b ob e => keep_but hl (by assumption) (by assumption) (by k_mem) b ob e)
  | none =>
    have hg : GetOk w (hideAll s.heap [l]) l { cls := .type "list", data := .seq vs.toArray n } x nm (fun v => v = .none) := getOk_of w _ x d l tk n vs items hx' hd' hT' nm hp hn hi _ fun v hv => by rw [hlk] at hv; exact hv
    (k_dflt (refine' Mine.enterG _ ?k1ₘ ?k2ₘ ?k3ₘ ?k4ₘ ?k5ₘ ?kAₘ ?kFₘ ?kKₘ ?k6ₘ ?k7ₘ ?k8ₘ ?k9ₘ ?kBₘ ?_ ?c2ₘ ?c3ₘ ?c4ₘ ?c5ₘ; (case kAₘ => exact rfl); (case kFₘ => exact rfl); (case kKₘ => assumption); (case k1ₘ => k_asm); (case k2ₘ => k_asm); (case k3ₘ => k_asm); (case k4ₘ => assumption); (case k5ₘ => k_asm); (case k6ₘ => k_is); (case k7ₘ => k_is); (case k8ₘ => ktr_room); (case k9ₘ => first | exact BindsTo.of_eq rfl | exact binds_K (by k_in) rfl (by k_is) rfl rfl rfl); (case c5ₘ => decide); (case kBₘ => exact locs rfl); (case c2ₘ => exact rfl); (case c3ₘ => exact rfl); (case c4ₘ => exact rfl); k_whole); intro L'ₘ h'ₘ F'ₘ N'ₘ B'ₘ X'ₘ T'ₘ; (try dsimp only); (try k_fold))
    (repeat' (first | (k_unfold; (try dsimp only)) | ((fail_if_success (with_reducible (refine Mine.stp 1 ?_ ?_; (focus ((repeat' constructor); done))))); (first | (k_end; wrow_close) | (first | (k_here; (with_reducible show wpAny _ _ (call (Value.ref 118) [Value.ref _, Value.str _ _]) _ _ _); k_dflt (refine' Mine.GetOk.ok (by assumption) _ (Fr.keep (by k_asm)) (News.get (by k_asm) (by k_mem)) _ (by k_asm) (by k_asm) (by k_asm) (by k_asm) (by first | exact rfl | assumption) (by ktr_room) (by ktr_units) ?_); intro v'ₘ h'ₘ tk'ₘ k'ₘ e'ₘ; (with_reducible rename Fr _ _ _ _ => kFₘ); (with_reducible rename News _ _ _ _ => kNₘ); (replace kFₘ := Mine.fr_keeps kFₘ k'ₘ); (replace kNₘ := Mine.news_keeps kNₘ k'ₘ); clear k'ₘ; (first | subst e'ₘ | (obtain ⟨t'ₘ, e1'ₘ⟩ := e'ₘ; subst e1'ₘ)); (try dsimp only)) | ((with_reducible show wpAny _ _ (call (Value.builtin "re.Pattern.search") _ _) _ _ _); (k_here; k_dflt (refine' Mine.pat_search (by k_asm) (by k_asm) (by k_is) (by exact rfl) (by exact rfl) (by k_is) (by first | exact Or.inl rfl | exact Or.inr rfl) (by first | assumption | (apply Mine.plain_lower; assumption)) (by size_fits) ?_; k_whole))) | (k_here; (with_reducible show wpAny _ _ (getMethod (Value.ref _) (PySem.Str.ofString "search") _) _ _ _); k_dflt (refine' Mine.pat_method (by k_asm) (by k_asm) (by k_is) ?_; k_whole)) | walk1) | (dsimp only; (first | walk1 | skip)))) | ((fail_if_success (with_reducible show wpAny _ _ _ _ _ _)); dsimp only [Mine.MyPost]) | (leave1; try dsimp only) | fail "no step"))
    (with_reducible rename News _ _ _ _ => N9)
    (with_reducible rename Fr _ _ _ _ => F9)
    rename @LT.lt Nat _ l _ => l9
    refine hnew hlk _ _ _ _ _ (n + 1) (fun b o hb e => F9.keep _ _ (up b o hb e)) ?_ (N9 _ (.head _)).1 ?_
    · have q := (N9 _ (.head _)).2.2
      cases e : s.heap.get? _ with
      | none => rfl
      | some o => exact absurd ((hideAll_get [l] e (by simpa using Nat.ne_of_gt l9)).symm.trans q) (fun z => nomatch z)
    · refine (N9 _ (.tail _ (.head _))).1.trans ?_
      simp
end Mine
theorem Mine.off3 : True := by w_top off; trivial
namespace Mine
open PySem PySem.W PySem.Calls PyProof.Rows
noncomputable def alikeF (x y : Str) (k : Nat) : Bool := Txt.slice x none (some (2 * (k : Int))) == Txt.slice y none (some (2 * (k : Int)))
noncomputable def besideF (x y : Str) : Str := Txt.slice y none (some (2 * (((List.range 4).filter (alikeF x y)).length : Int)))
theorem c_beside (w : World) (s : Shared) (x y : Str) (t u : Tok) (hx : x.length ≤ 40) (hy : y.length ≤ 40) : RO w 4 316 [.str x t, .str y u] [] s (fun v _ => ∃ t, v = .str (besideF x y) t) := by
  revert hx hy
  revert w s x y t u
  iterate 2 refine no_implicit_lambda% (Mine.pad1 ?_)
  refine' no_implicit_lambda% (Mine.hk8 ?ne ?_)
  case ne => (repeat' (first | (refine Mine.nePair ?_ ?_) | exact Mine.neWorld | exact Mine.neAround | exact Mine.neShared | infer_instance))
  generalize Mine.A3 _ = w; generalize Mine.A4 _ = s; generalize Mine.A5 _ = x; generalize Mine.A6 _ = y; generalize Mine.A7 _ = t; generalize Mine.A8 _ = u
  intro uHk
  clear uHk
  intro hx hy
  refine' no_implicit_lambda% (Mine.hk21 ?ne ?_)
  case ne => (repeat' (first | (refine Mine.nePair ?_ ?_) | exact Mine.neWorld | exact Mine.neAround | exact Mine.neShared | infer_instance))
  generalize Mine.A1 _ = p; generalize Mine.A2 _ = loose; generalize Mine.A3 _ = mean; generalize Mine.A4 _ = mg; generalize Mine.A5 _ = mb; generalize Mine.A6 _ = dp; generalize Mine.A7 _ = un; generalize Mine.A8 _ = gd; generalize Mine.A9 _ = cn; generalize Mine.A10 _ = cs; generalize Mine.A11 _ = a; generalize Mine.A12 _ = ccd; generalize Mine.A13 _ = cl; generalize Mine.A14 _ = outer; generalize Mine.A15 _ = A₀; generalize Mine.A16 _ = base; generalize Mine.A17 _ = h₀; generalize Mine.A18 _ = L; generalize Mine.A19 _ = m; generalize Mine.A20 _ = Q; generalize Mine.A21 _ = E
  intro uHk
  clear uHk
  intro B F X T hk hdp hun hret
  refine wpAny_call ?_
  (k_dflt (refine' Mine.enterROC ?k1ₘ ?k2ₘ ?k3ₘ ?k5ₘ ?kAₘ ?kFₘ ?kKₘ ?k6ₘ ?k7ₘ ?k8ₘ ?k9ₘ ?kBₘ ?kDₘ ?_ ?c2ₘ ?c3ₘ ?c4ₘ; (case kAₘ => exact rfl); (case kFₘ => exact rfl); (case kKₘ => assumption); (case k1ₘ => k_asm); (case k2ₘ => k_asm); (case k3ₘ => k_asm); (case k5ₘ => k_asm); (case k6ₘ => k_is); (case k7ₘ => k_is); (case k8ₘ => ktr_room); (case k9ₘ => first | exact BindsTo.of_eq rfl | exact binds_K (by k_in) rfl (by k_is) rfl rfl rfl); (case kBₘ => exact rfl); (case kDₘ => decide +kernel); (case c2ₘ => exact rfl); (case c3ₘ => exact rfl); (case c4ₘ => exact rfl); k_whole); intro L'ₘ h'ₘ tk'ₘ cells'ₘ F'ₘ N'ₘ Y'ₘ B'ₘ X'ₘ T'ₘ l1ₘ; clear l1ₘ; k_cells Y'ₘ; (try simp only [List.cons_append, List.nil_append] at N'ₘ); (try dsimp only); (try k_fold))
  (refine (let Akₘ : PySem.Around := _; (?_ : wpAny _ Akₘ _ _ _ _)))
  (repeat' (first | (k_unfold; (try dsimp only)) | ((fail_if_success (with_reducible (refine Mine.stp 1 ?_ ?_; (focus ((repeat' constructor); done))))); (first | (k_end; wrow_close) | walk1 | (dsimp only; walk1))) | ((fail_if_success (with_reducible show wpAny _ _ _ _ _ _)); dsimp only [Mine.MyPost]) | (leave1; try dsimp only) | fail "no step"))
  (k_dflt (refine LCt.Assign_ListComp_T (F₀ := by k_asm) (by rfl) (by with_unfolding_all rfl) (by with_unfolding_all rfl) (by decide) (by rfl) (by decide) (by rfl) (by rfl) (by rfl) ?_))
  (repeat' (first | (k_unfold; (try dsimp only)) | ((fail_if_success (with_reducible (refine Mine.stp 1 ?_ ?_; (focus ((repeat' constructor); done))))); (first | (k_end; wrow_close) | walk1 | (dsimp only; walk1))) | ((fail_if_success (with_reducible show wpAny _ _ _ _ _ _)); dsimp only [Mine.MyPost]) | (leave1; try dsimp only) | fail "no step"))
  (k_dflt (refine LCt.CompSrcT.range (by rfl) (by k_asm) (by k_asm) (by assumption) (by first | decide | rfl) (by first | rfl | decide) (by first | size_fits | exact Nat.le_of_ble_eq_true rfl) ?_))
  intro g
  refine compRestT_of 4 (fun i ys news => news = _ ∧ ys.length = ((List.range i).filter (alikeF x y)).length) ?_ ?_ 4 0 [] _ rfl ⟨rfl, rfl⟩
  · intro i ys news hi hJ8 v I oI C oC D m₂ h tk E' hJ9 hC hx2 F2 N2 off ne
    (refine (let Gk : Prop := _; (?_ : Gk)))
    obtain ⟨rfl, hys⟩ := hJ8
    obtain ⟨tv, rfl⟩ := hJ9
    (try simp only [LCg.Off3, and_true] at off)
    ((show Gk); k_unfold; clear Gk)
    (repeat' (first | (k_unfold; (try dsimp only)) | ((fail_if_success (with_reducible (refine Mine.stp 1 ?_ ?_; (focus ((repeat' constructor); done))))); (first | (k_end; wrow_close) | walk1 | (dsimp only; walk1))) | ((fail_if_success (with_reducible show wpAny _ _ _ _ _ _)); dsimp only [Mine.MyPost]) | (leave1; try dsimp only) | fail "no step"))
    · rename (Txt.slice x none _ == _) = true => he
      rw [Int.zero_add] at he
      rw [List.range_succ, List.filter_append, List.length_append, List.length_append, hys]
      have : alikeF x y i = true := he
      simp [this]
    · rename (Txt.slice x none _ == _) = false => he
      rw [Int.zero_add] at he
      rw [List.range_succ, List.filter_append, List.length_append, hys]
      have : alikeF x y i = false := he
      simp [this]
  · intro ys news hJ10
    (refine (let Gk : Prop := _; (?_ : Gk)))
    obtain ⟨rfl, hys⟩ := hJ10
    have hb : ys.length ≤ 4 := by rw [hys]; exact Nat.le_trans (List.length_filter_le ..) (by simp)
    ((show Gk); k_unfold; clear Gk)
    (repeat' (first | (k_unfold; (try dsimp only)) | ((fail_if_success (with_reducible (refine Mine.stp 1 ?_ ?_; (focus ((repeat' constructor); done))))); (first | (k_end; wrow_close) | walk1 | (dsimp only; walk1))) | ((fail_if_success (with_reducible show wpAny _ _ _ _ _ _)); dsimp only [Mine.MyPost]) | (leave1; try dsimp only) | fail "no step"))
    rw [hys]
    exact hret _ _ _ (fun b ob e => (by assumption : Fr s.heap _ _ _).keep b ob e) ⟨_, rfl⟩
end Mine
theorem Mine.off4 : True := by w_top off; trivial
namespace Mine
open PySem PySem.W PySem.Calls PyProof.Rows
noncomputable def dirF (x : Str) : Str :=
  let h := Txt.slice x none (some (Txt.rfind x "/" + 1))
  if h.length ≠ 0 ∧ h ≠ Txt.mul "/" h.length then Txt.rstripChars h "/" else h
theorem c_dirname (w : World) (s : Shared) (x : Str) (t : Tok) (hx : x.length ≤ 40) : RO w 5 299 [.str x t] [] s (fun v _ => ∃ t, v = .str (dirF x) t) := by
  revert hx
  revert w s x t
  refine' no_implicit_lambda% (Mine.hk4 ?ne ?_)
  case ne => (repeat' (first | (refine Mine.nePair ?_ ?_) | exact Mine.neWorld | exact Mine.neAround | exact Mine.neShared | infer_instance))
  generalize Mine.A1 _ = w; generalize Mine.A2 _ = s; generalize Mine.A3 _ = x; generalize Mine.A4 _ = t
  intro uHk
  clear uHk
  intro hx
  refine' no_implicit_lambda% (Mine.hk21 ?ne ?_)
  case ne => (repeat' (first | (refine Mine.nePair ?_ ?_) | exact Mine.neWorld | exact Mine.neAround | exact Mine.neShared | infer_instance))
  generalize Mine.A1 _ = p; generalize Mine.A2 _ = loose; generalize Mine.A3 _ = mean; generalize Mine.A4 _ = mg; generalize Mine.A5 _ = mb; generalize Mine.A6 _ = dp; generalize Mine.A7 _ = un; generalize Mine.A8 _ = gd; generalize Mine.A9 _ = cn; generalize Mine.A10 _ = cs; generalize Mine.A11 _ = a; generalize Mine.A12 _ = ccd; generalize Mine.A13 _ = cl; generalize Mine.A14 _ = outer; generalize Mine.A15 _ = A₀; generalize Mine.A16 _ = base; generalize Mine.A17 _ = h₀; generalize Mine.A18 _ = L; generalize Mine.A19 _ = m; generalize Mine.A20 _ = Q; generalize Mine.A21 _ = E
  intro uHk
  clear uHk
  intro B F X T hk hdp hun hret
  refine wpAny_call ?_
  (k_dflt (refine' Mine.enterRO ?k1ₘ ?k2ₘ ?k3ₘ ?k5ₘ ?kAₘ ?kFₘ ?kKₘ ?k6ₘ ?k7ₘ ?k8ₘ ?k9ₘ ?kBₘ ?_ ?c2ₘ ?c3ₘ ?c4ₘ ?c5ₘ; (case kAₘ => exact rfl); (case kFₘ => exact rfl); (case kKₘ => assumption); (case k1ₘ => k_asm); (case k2ₘ => k_asm); (case k3ₘ => k_asm); (case k5ₘ => k_asm); (case k6ₘ => k_is); (case k7ₘ => k_is); (case k8ₘ => ktr_room); (case k9ₘ => first | exact BindsTo.of_eq rfl | exact binds_K (by k_in) rfl (by k_is) rfl rfl rfl); (case c5ₘ => decide); (case kBₘ => exact locs rfl); (case c2ₘ => exact rfl); (case c3ₘ => exact rfl); (case c4ₘ => exact rfl); k_whole); intro L'ₘ h'ₘ F'ₘ N'ₘ B'ₘ X'ₘ T'ₘ; (try dsimp only); (try k_fold))
  (refine (let Akₘ : PySem.Around := _; (?_ : wpAny _ Akₘ _ _ _ _)))
  (repeat' (first | (k_unfold; (try dsimp only)) | ((fail_if_success (with_reducible (refine Mine.stp 1 ?_ ?_; (focus ((repeat' constructor); done))))); (first | (k_end; wrow_close) | (first | (k_here; (with_reducible show wpAny _ _ (call (Value.ref 285) [Value.str _ _]) _ _ _); k_dflt (refine' Mine.c_getsep _ _ _ _ (by k_asm) (by k_asm) (by k_asm) (by k_asm) (by k_asm) (by first | exact rfl | assumption) (by ktr_room) (by ktr_units) ?_); intro v'ₘ n'ₘ h'ₘ tk'ₘ F'ₘ N'ₘ e'ₘ; obtain ⟨t'ₘ, e1ₘ, e2ₘ⟩ := e'ₘ; subst e1ₘ; subst e2ₘ; (try k_sweep)) | (k_here; (with_reducible show wpAny _ _ (call (Value.ref 271) [Value.str _ _]) _ _ _); k_dflt (refine' Mine.c_fspath _ _ _ _ (by k_asm) (by k_asm) (by k_asm) (by k_asm) (by k_asm) (by first | exact rfl | assumption) (by ktr_room) (by ktr_units) ?_); intro v'ₘ n'ₘ h'ₘ tk'ₘ F'ₘ N'ₘ e'ₘ; obtain ⟨e1ₘ, e2ₘ⟩ := e'ₘ; subst e1ₘ; subst e2ₘ; (try k_sweep)) | walk1) | (dsimp only; (first | walk1 | skip)))) | ((fail_if_success (with_reducible show wpAny _ _ _ _ _ _)); dsimp only [Mine.MyPost]) | (leave1; try dsimp only) | fail "no step"))
  all_goals refine hret _ _ _ (fun b ob e => (by assumption : Fr s.heap _ _ _).keep b ob e) ?_
  · rename ((_ : Int) ≠ 0) => h0
    rename (Txt.slice x none _ != _) = true => h1
    refine ⟨_, congrArg (Value.str · _) ?_⟩
    unfold dirF
    rw [if_pos ⟨fun q => h0 (by rw [q]; rfl), by simpa using h1⟩]
  · rename ((_ : Int) ≠ 0) => h0
    rename (Txt.slice x none _ != _) = false => h1
    refine ⟨_, congrArg (Value.str · _) ?_⟩
    unfold dirF
    rw [if_neg fun q => q.2 (by simpa using h1)]
  · rename ((_ : Int) = 0) => h0
    refine ⟨_, congrArg (Value.str · _) ?_⟩
    unfold dirF
    rw [if_neg fun q => q.1 (by exact_mod_cast h0)]
end Mine
namespace Mine
open PySem PySem.W PySem.Calls PyProof.Rows PySem.Spec
section
variable {prog : Program} {w : World} {A A₀ : Around} {s : Shared} {K : Frag} {L : Addr} {h₀ base : Heap} {m mg mb : Str → Option Value} {p : Program} {loose : List Str} {mean : ExcName → Option Value}
  {env : Env} {outer : List Env} {R : Result → Shared → Prop} {name qual : Str} {params : Arguments} {body : List Stmt} {scope : Scope} {dV kV doc pm cdv ct oc : Value} {an od : Option Addr} {osl : Array (Option Value)} {f : Addr} {args : Args}
theorem wp_peek1X {α : Type} {M : Model} {A : Around} {E : Value → Shared → Prop} {Q : α → Shared → Prop} {o : Obj} {r : Addr → α} (X : K.In s.heap)
    (q : Q (r s.heap.objs.size) { s with heap := s.heap.push o }) :
    ∀ (t : Sem α) (g : Addr → Option α), peek1 K ⟨M.prog, M.w.params⟩ t = some (o, g) → (∀ D, g D = some (r D)) → wpAny M A t Q E s := by
  revert K α M Q r X q
  revert s A E o
  refine' no_implicit_lambda% (Mine.hk4 ?ne ?_)
  case ne => (repeat' (first | (refine Mine.nePair ?_ ?_) | exact Mine.neWorld | exact Mine.neAround | exact Mine.neShared | infer_instance))
  generalize Mine.A1 _ = s; generalize Mine.A2 _ = A; generalize Mine.A3 _ = E; generalize Mine.A4 _ = o
  intro uHk
  clear uHk
  intro K α M Q r X q
  intro t
  induction t with
  | rule _ k ih => intro g e hg Γ p hΓ; exact ih () g e hg Γ p hΓ
  | point _ k ih => intro g e hg Γ p hΓ; exact ih () g e hg Γ p hΓ
  | ask k ih => intro g e hg Γ p hΓ; exact ih _ g e hg Γ p hΓ
  | load a _ k ih =>
    intro g e hg Γ p hΓ
    simp only [peek1] at e
    split at e
    · rename_i ob ho; exact ⟨ob, X _ _ ho, ih ob g e hg Γ p hΓ⟩
    · cases e
  | alloc ob k _ =>
    intro g e hg
    have e : some (ob, fun D => peek K ⟨M.prog, M.w.params⟩ (k D)) = some (o, g) := e
    obtain ⟨e1, e2⟩ := Prod.mk.inj (Option.some.inj e)
    subst e1
    subst e2
    have X' : K.In (s.heap.push ob) := X.keeps fun b x hb => Heap.get?_push_of_some _ hb
    show wpAny M A (alloc ob >>= k) Q E s
    refine wpAny_bind (wpAny_alloc ?_)
    exact (Looks.of_peek (M := M) (h := s.heap.push ob) X' (hg s.heap.objs.size)).here (s := { s with heap := s.heap.push ob }) q
  | _ => intro g e; cases e
theorem enterRest {vs : List Value} {g₁ : Addr → Option (List (Str × Value))} {binds : Addr → List (Str × Value)}
    (B : Below A₀ base outer h₀) (F : Fr h₀ L s.heap m) (X₀ : K.In h₀) (T : Top p loose mean mg mb h₀) (hA : A.frames = some (env :: outer)) (hf : env.frame = some L) (hke : env.scope.kind = .function)
    (ho : K.lookup f = some ⟨oc, od, .func (fnOf name qual params body scope dV kV doc pm an cdv ct), osl⟩) (hcd : codeIn K cdv qual = true) (hroom : A.depth < recursionLimit)
    (hv : args.pos.drop (params.posonlyargs.length + params.args.length) = vs)
    (hp : peek1 K ⟨prog, w.params⟩ (bindArgs (fnOf name qual params body scope dV kV doc pm an cdv ct) args) = some (({ cls := .type "tuple", data := .seq vs.toArray } : Obj), g₁))
    (hg : ∀ D, g₁ D = some (binds D)) (hloc : ∀ D, ∀ y ∈ binds D, scope.names.lookup y.1 = some .local)
    (h : ∀ D g L' h₁, (∀ b o, s.heap.get? b = some o → g.get? b = some o) → g.get? D = some ({ cls := .type "tuple", data := .seq vs.toArray } : Obj) → Fr g L' h₁ (fun y => (binds D).reverse.lookup y) → News g L' h₁ [] → Below A base (env :: outer) g → K.In g → Top p loose mean mg mb g →
      wpAny (model prog w) (A.deeper (envOf qual scope L' f cdv)) (execs body (envOf qual scope L' f cdv))
        (fun fl s' => R (.ok (.ret (match fl with | .ret v => v | _ => .none))) s')
        (fun e s' => wpAny (model prog w) (A.deeper (envOf qual scope L' f cdv)) (leaving (envOf qual scope L' f cdv) e) (fun _ s'' => R (.error e) s'') (fun e' s'' => R (.error e') s'') s')
        { s with heap := h₁, toks := s.toks + (binds D).length })
    (hco : scope.isCoroutine = false) (hgen : scope.isGenerator = false) (hk : scope.kind = .function)
    (hcell : ∀ x ∈ scope.names, x.2 ≠ .cell) : codeAny (model prog w) A (.call (.ref f) args) R s := by
  have _ := hv
  have F' : Fr h₀ L (s.heap.push ({ cls := .type "tuple", data := .seq vs.toArray } : Obj)) m := F.push _
  refine codeAny_call_function (fd := fnOf name qual params body scope dV kV doc pm an cdv ct) (body := body) hroom ((X₀.keeps F.keep) _ _ ho) rfl hco hgen rfl (codeRec_of (X₀.keeps F.keep) hcd) ?_
  refine wp_peek1X (o := ({ cls := .type "tuple", data := .seq vs.toArray } : Obj)) (X₀.keeps F.keep) (r := binds) ?_ _ g₁ hp hg
  (refine (let Gk : Prop := _; (?_ : Gk)))
  obtain ⟨FG, BG, st, lv⟩ := groundX (s := { s with heap := s.heap.push _ }) (news := []) (R := R) B F' News.nil hA hf hke
  ((show Gk); k_unfold; clear Gk)
  refine wpAny_newFunctionEnv hcell (hloc _) (fun h₁ hns hsb => ⟨(T.nolimit.keeps F'.keep).fresh _ hsb, codeAny_func ?_⟩) hk
  have hk₁ : ∀ b o, (s.heap.push ({ cls := .type "tuple", data := .seq vs.toArray } : Obj)).get? b = some o → h₁.get? b = some o := fun b o e => hsb.extBut b o (Nat.ne_of_lt (Heap.lt_size e)) (Heap.get?_push_of_some _ e)
  exact h _ (hideAll (s.heap.push _) []) _ h₁ (fun b o e => hideAll_get [] (Heap.get?_push_of_some _ e) (fun q => nomatch q)) (hideAll_get [] (Heap.get?_push_size _ rfl) (fun q => nomatch q)) ⟨hns, fun b o e => hk₁ b o (of_hideAll _ e), Nat.le_of_eq (hideAll_size _ _)⟩ News.nil BG (X₀.keeps st) (T.keeps st)
theorem iter_tuple {E : Value → Shared → Prop} {target : Expr} {Q : Flow → Shared → Prop} {l : Addr} {vs : List Value} {m₀ : Str → Option Value} {news : Led} (J : Nat → (Str → Option Value) → Led → Prop)
    (hh : A.handled = none) (hl : h₀.IsTuple l vs.toArray) (F : Fr h₀ env.locals s.heap m₀) (N : News h₀ env.locals s.heap news) (hj : J 0 m₀ news)
    (turn : ∀ i v m₁ news₁ h tk I o, vs[i]? = some v → J i m₁ news₁ → (∀ p ∈ news₁, p.1 ≠ I) → Fr h₀ env.locals h m₁ → News h₀ env.locals h ((I, o) :: news₁) →
      wpAny (model prog w) A (assign target env v) (fun _ s₂ => wpAny (model prog w) A (execs body env) (MyPost h₀ env.locals [(I, o)] (J (i + 1)) s Q) E s₂) E { s with heap := h, toks := tk })
    (done : ∀ m₁ news₁ h tk, J vs.length m₁ news₁ → Fr h₀ env.locals h m₁ → News h₀ env.locals h news₁ → Q .next { s with heap := h, toks := tk })
    (hE : PassesOwn (model prog w) A env E := by passes_own) :
    wpAny (model prog w) A (pyIter (.ref l)) (fun it s₂ => MyLoop prog w A env target body Q E it s₂) E s := by
  have hls : s.heap.IsTuple l vs.toArray := hl.at fun o e => F.keep l o e
  (refine (let Gk : Prop := _; (?_ : Gk)))
  obtain ⟨ol, hol, _⟩ := id hl
  have hlt : l < h₀.objs.size := Heap.lt_size hol
  have hne : l ≠ s.heap.objs.size := Nat.ne_of_lt (Nat.lt_trans (Nat.lt_of_lt_of_le hlt F.above) F.ns.lt)
  have hI : h₀.get? s.heap.objs.size = none := next_is_new F
  ((show Gk); k_unfold; clear Gk)
  refine wpAny_pyIter_tuple hls ?_
  have W := Itr.ofWalks (target := target) (Walks.tuple (prog := prog) (w := w) hh s.heap.objs.size l hne vs.toArray) fun i s' v Q' E st hQ' => letGo_tupleiter st.1 hQ'
  have gI : ∀ i (h : Heap), (h.IsTupleIter s.heap.objs.size l i ∧ h.IsTuple l vs.toArray) → ∃ o, h.get? s.heap.objs.size = some o := fun i h st => let ⟨o, ho, _⟩ := st.1; ⟨o, ho⟩
  refine forLoop_my (s := { s with heap := s.heap.push { cls := .type "tuple_iterator", data := .fields #[.ref l, .int 0 0] } }) (news := news) W ?_ ?_ ?_
    ⟨⟨_, Heap.get?_push_size _ rfl, rfl, rfl⟩, hls.at fun o e => Heap.get?_push_of_some _ e⟩ (F.push _) (fun p hp => ⟨Heap.get?_push_of_some _ (N p hp).1, (N p hp).2⟩)
    (fun h => match h.get? s.heap.objs.size with | some o => [(s.heap.objs.size, o)] | none => []) ?_ ?_ J hj ?_ ?_ ?_ hE
  · intro hm
    rcases List.mem_cons.mp hm with e | hm
    · exact absurd F.ns.lt (e ▸ Nat.lt_irrefl _)
    · exact absurd (Nat.lt_of_lt_of_le hlt F.above) ((List.mem_singleton.mp hm) ▸ Nat.lt_irrefl _)
  · intro b hb
    rw [List.mem_singleton.mp hb]; exact hI
  · intro p hp hw
    exact absurd (Heap.lt_size (N p hp).1) ((List.mem_singleton.mp hw) ▸ Nat.lt_irrefl _)
  · intro i h st
    obtain ⟨o, ho⟩ := gI i h st
    rw [ho]
    exact ⟨fun p hp => by rw [List.mem_singleton.mp hp]; exact ⟨ho, hI, by simp⟩, fun b hb => ⟨o, by rw [List.mem_singleton.mp hb]; simp⟩⟩
  · intro i h h' st k k' hp
    obtain ⟨o, ho⟩ := gI i h st
    rw [ho] at hp
    refine ⟨st.1.at fun o' e => ?_, hl.at fun o' e => k' _ _ e⟩
    rw [ho] at e; cases e
    exact hp (s.heap.objs.size, o) (by simp)
  · intro i v fr m₁ news₁ h₁ tk₁ hin hJ11 st hJ hoff F₁ N₁
    (refine (let Gk : Prop := _; (?_ : Gk)))
    obtain ⟨hP, rfl⟩ := hJ11
    obtain ⟨o, hg⟩ := gI _ _ st
    ((show Gk); k_unfold; clear Gk)
    simp only [hg] at hoff N₁ ⊢
    exact turn i v m₁ news₁ h₁ tk₁ s.heap.objs.size o (by simpa using hP) hJ (fun p hp => hoff p hp (s.heap.objs.size, o) (by simp)) F₁ (by simpa using N₁)
  · intro i h st p hp
    obtain ⟨o, ho⟩ := gI i h st
    rw [ho] at hp
    rw [List.mem_singleton.mp hp]; simp
  · intro h' tk m' news' hJ F' N'
    exact done m' news' h' tk (by simpa using hJ) F' N'
end
end Mine
namespace Mine
open PySem PySem.W
theorem with_m1 {m : Str → Option Value} {a : Str} {va : Option Value} (ha : m a = va) : m = fun y => if y = a then va else m y := by
  funext y
  by_cases h : y = a
  · rw [if_pos h, h, ha]
  · rw [if_neg h]
theorem with_m2 {m : Str → Option Value} {a b : Str} {va vb : Option Value} (ha : m a = va) (hb : m b = vb) : m = fun y => if y = a then va else if y = b then vb else m y := by
  funext y
  by_cases h : y = a
  · rw [if_pos h, h, ha]
  · rw [if_neg h]; exact congrFun (with_m1 hb) y
theorem with_m3 {m : Str → Option Value} {a b c : Str} {va vb vc : Option Value} (ha : m a = va) (hb : m b = vb) (hc : m c = vc) : m = fun y => if y = a then va else if y = b then vb else if y = c then vc else m y := by
  funext y
  by_cases h : y = a
  · rw [if_pos h, h, ha]
  · rw [if_neg h]; exact congrFun (with_m2 hb hc) y
theorem with_m4 {m : Str → Option Value} {a b c d : Str} {va vb vc vd : Option Value} (ha : m a = va) (hb : m b = vb) (hc : m c = vc) (hd : m d = vd) : m = fun y => if y = a then va else if y = b then vb else if y = c then vc else if y = d then vd else m y := by
  funext y
  by_cases h : y = a
  · rw [if_pos h, h, ha]
  · rw [if_neg h]; exact congrFun (with_m3 hb hc hd) y
theorem with_m5 {m : Str → Option Value} {a b c d e : Str} {va vb vc vd ve : Option Value} (ha : m a = va) (hb : m b = vb) (hc : m c = vc) (hd : m d = vd) (he : m e = ve) : m = fun y => if y = a then va else if y = b then vb else if y = c then vc else if y = d then vd else if y = e then ve else m y := by
  funext y
  by_cases h : y = a
  · rw [if_pos h, h, ha]
  · rw [if_neg h]; exact congrFun (with_m4 hb hc hd he) y
theorem with_m6 {m : Str → Option Value} {a b c d e f : Str} {va vb vc vd ve vf : Option Value} (ha : m a = va) (hb : m b = vb) (hc : m c = vc) (hd : m d = vd) (he : m e = ve) (hf : m f = vf) : m = fun y => if y = a then va else if y = b then vb else if y = c then vc else if y = d then vd else if y = e then ve else if y = f then vf else m y := by
  funext y
  by_cases h : y = a
  · rw [if_pos h, h, ha]
  · rw [if_neg h]; exact congrFun (with_m5 hb hc hd he hf) y
end Mine
theorem Mine.off5 : True := by w_top off; trivial
namespace Mine
open PySem PySem.W PySem.Calls PyProof.Rows
noncomputable def joinStep (z b : Str) : Str := if Txt.startswith b "/" = true ∨ z.length = 0 then b else if Txt.endswith z "/" = true then z ++ b else z ++ ("/" ++ b)
noncomputable def joinF (x : Str) (bs : List Str) : Str := bs.foldl joinStep x
theorem c_join (w : World) (s : Shared) (x : Str) (t : Tok) (b1 b2 b3 b4 : Str) (t1 t2 t3 t4 : Tok) (hx : x.length ≤ 40) (h1 : b1.length ≤ 40) (h2 : b2.length ≤ 40) (h3 : b3.length ≤ 40) (h4 : b4.length ≤ 40) : RO w 8 292 [.str x t, .str b1 t1, .str b2 t2, .str b3 t3, .str b4 t4] [] s (fun v _ => ∃ t, v = .str (joinF x [b1, b2, b3, b4]) t) := by
  revert hx h1 h2 h3 h4
  revert w s x t b1 b2 b3 b4 t1 t2 t3 t4
  refine' no_implicit_lambda% (Mine.hk12 ?ne ?_)
  case ne => (repeat' (first | (refine Mine.nePair ?_ ?_) | exact Mine.neWorld | exact Mine.neAround | exact Mine.neShared | infer_instance))
  generalize Mine.A1 _ = w; generalize Mine.A2 _ = s; generalize Mine.A3 _ = x; generalize Mine.A4 _ = t; generalize Mine.A5 _ = b1; generalize Mine.A6 _ = b2; generalize Mine.A7 _ = b3; generalize Mine.A8 _ = b4; generalize Mine.A9 _ = t1; generalize Mine.A10 _ = t2; generalize Mine.A11 _ = t3; generalize Mine.A12 _ = t4
  intro uHk
  clear uHk
  intro hx h1 h2 h3 h4
  refine' no_implicit_lambda% (Mine.hk21 ?ne ?_)
  case ne => (repeat' (first | (refine Mine.nePair ?_ ?_) | exact Mine.neWorld | exact Mine.neAround | exact Mine.neShared | infer_instance))
  generalize Mine.A1 _ = p; generalize Mine.A2 _ = loose; generalize Mine.A3 _ = mean; generalize Mine.A4 _ = mg; generalize Mine.A5 _ = mb; generalize Mine.A6 _ = dp; generalize Mine.A7 _ = un; generalize Mine.A8 _ = gd; generalize Mine.A9 _ = cn; generalize Mine.A10 _ = cs; generalize Mine.A11 _ = a; generalize Mine.A12 _ = ccd; generalize Mine.A13 _ = cl; generalize Mine.A14 _ = outer; generalize Mine.A15 _ = A₀; generalize Mine.A16 _ = base; generalize Mine.A17 _ = h₀; generalize Mine.A18 _ = L; generalize Mine.A19 _ = m; generalize Mine.A20 _ = Q; generalize Mine.A21 _ = E
  intro uHk
  clear uHk
  intro B F X T hk hdp hun hret
  refine wpAny_call ?_
  (k_dflt (refine' Mine.enterRest ?k1 ?k2 ?k3 ?k5 ?kA ?kF ?kK ?k6 ?k7 ?k8 ?kV ?kP ?kG ?kB ?_ ?c2 ?c3 ?c4 ?c5; (case kA => exact rfl); (case kF => exact rfl); (case kK => assumption); (case k1 => k_asm); (case k2 => k_asm); (case k3 => k_asm); (case k5 => k_asm); (case k6 => k_is); (case k7 => k_is); (case k8 => ktr_room); (case kV => kl_lit); (case kP => exact rfl); (case kG => exact fun _ => rfl); (case kB => exact fun _ => locs rfl); (case c5 => decide); (case c2 => exact rfl); (case c3 => exact rfl); (case c4 => exact rfl); k_whole); intro Dr gr Lr hr hkeepR hDr Fr' Nr' Br' Xr' Tr'; (try dsimp only); (try k_fold))
  (refine (let Akₘ : PySem.Around := _; (?_ : wpAny _ Akₘ _ _ _ _)))
  (repeat' (first | (k_unfold; (try dsimp only)) | ((fail_if_success (with_reducible (refine Mine.stp 0 ?_ ?_; (focus ((repeat' constructor); done))))); (first | (k_end; wrow_close) | (first | (k_here; (with_reducible show wpAny _ _ (call (Value.ref 285) [Value.str _ _]) _ _ _); k_dflt (refine' Mine.c_getsep _ _ _ _ (by k_asm) (by k_asm) (by k_asm) (by k_asm) (by k_asm) (by first | exact rfl | assumption) (by ktr_room) (by ktr_units) ?_); intro v'ₘ n'ₘ h'ₘ tk'ₘ F'ₘ N'ₘ e'ₘ; obtain ⟨t'ₘ, e1ₘ, e2ₘ⟩ := e'ₘ; subst e1ₘ; subst e2ₘ; (try k_sweep)) | (k_here; (with_reducible show wpAny _ _ (call (Value.ref 271) [Value.str _ _]) _ _ _); k_dflt (refine' Mine.c_fspath _ _ _ _ (by k_asm) (by k_asm) (by k_asm) (by k_asm) (by k_asm) (by first | exact rfl | assumption) (by ktr_room) (by ktr_units) ?_); intro v'ₘ n'ₘ h'ₘ tk'ₘ F'ₘ N'ₘ e'ₘ; obtain ⟨e1ₘ, e2ₘ⟩ := e'ₘ; subst e1ₘ; subst e2ₘ; (try k_sweep)) | walk1) | (dsimp only; (first | walk1 | skip)))) | ((fail_if_success (with_reducible show wpAny _ _ _ _ _ _)); dsimp only [Mine.MyPost]) | (leave1; try dsimp only) | fail "no step"))
  (refine PySem.wpAny_For ?_ (by first | (intro _; rfl) | (intro xₘ; rfl)))
  (repeat' (first | (k_unfold; (try dsimp only)) | ((fail_if_success (with_reducible (refine Mine.stp 0 ?_ ?_; (focus ((repeat' constructor); done))))); (first | (k_end; wrow_close) | (first | (k_here; (with_reducible show wpAny _ _ (call (Value.ref 285) [Value.str _ _]) _ _ _); k_dflt (refine' Mine.c_getsep _ _ _ _ (by k_asm) (by k_asm) (by k_asm) (by k_asm) (by k_asm) (by first | exact rfl | assumption) (by ktr_room) (by ktr_units) ?_); intro v'ₘ n'ₘ h'ₘ tk'ₘ F'ₘ N'ₘ e'ₘ; obtain ⟨t'ₘ, e1ₘ, e2ₘ⟩ := e'ₘ; subst e1ₘ; subst e2ₘ; (try k_sweep)) | (k_here; (with_reducible show wpAny _ _ (call (Value.ref 271) [Value.str _ _]) _ _ _); k_dflt (refine' Mine.c_fspath _ _ _ _ (by k_asm) (by k_asm) (by k_asm) (by k_asm) (by k_asm) (by first | exact rfl | assumption) (by ktr_room) (by ktr_units) ?_); intro v'ₘ n'ₘ h'ₘ tk'ₘ F'ₘ N'ₘ e'ₘ; obtain ⟨e1ₘ, e2ₘ⟩ := e'ₘ; subst e1ₘ; subst e2ₘ; (try k_sweep)) | walk1) | (dsimp only; (first | walk1 | skip)))) | ((fail_if_success (with_reducible show wpAny _ _ _ _ _ _)); dsimp only [Mine.MyPost]) | (leave1; try dsimp only) | fail "no step"))
  (with_reducible rename Fr _ _ _ _ => F1)
  refine (let m1 : PySem.Str → Option Value := _; (fun (F1 : Fr _ _ _ m1) => (?_ : _)) F1)
  have em : m1 = m1 := rfl
  have e0 : m1 "path" = some (.str x t) := (congrFun em _).trans (if_pos rfl)
  refine iter_tuple (vs := [Value.str b1 t1, Value.str b2 t2, Value.str b3 t3, Value.str b4 t4]) (fun i m news => (∃ uk z tz, m = (fun (y : Str) => if y = "b" then uk else if y = "path" then some (.str z tz) else m1 y) ∧ z = joinF x ([b1, b2, b3, b4].take i) ∧ z.length ≤ 40 + 41 * i) ∧ news = []) rfl ⟨_, (by assumption), rfl, _, rfl⟩ F1 (by assumption) ?_ ?_ ?_
  · refine ⟨⟨m1 "b", x, t, em.symm.trans (with_m2 (a := "b") (b := "path") rfl e0), rfl, by lia⟩, rfl⟩
  · intro i v m₂ news₂ h tk' I o hv hJ12 hnI F2 N2
    (refine (let Gk : Prop := _; (?_ : Gk)))
    obtain ⟨⟨uk, z, tz, rfl, hz, hzl⟩, rfl⟩ := hJ12
    obtain ⟨b, tb, rfl, hb, hbl⟩ : ∃ b tb, v = .str b tb ∧ [b1, b2, b3, b4].take (i + 1) = [b1, b2, b3, b4].take i ++ [b] ∧ b.length ≤ 40 := by
      have hi : i < 4 := by
        rcases Nat.lt_or_ge i 4 with q | q
        · exact q
        · rw [List.getElem?_eq_none (by simpa using q)] at hv; cases hv
      rcases i with _ | _ | _ | _ | i
      · exact ⟨b1, t1, (Option.some.inj hv).symm, rfl, h1⟩
      · exact ⟨b2, t2, (Option.some.inj hv).symm, rfl, h2⟩
      · exact ⟨b3, t3, (Option.some.inj hv).symm, rfl, h3⟩
      · exact ⟨b4, t4, (Option.some.inj hv).symm, rfl, h4⟩
      · lia
    have hi : i < 4 := by
        rcases Nat.lt_or_ge i 4 with q | q
        · exact q
        · rw [List.getElem?_eq_none (by simpa using q)] at hv; cases hv
    have hst : joinF x ([b1, b2, b3, b4].take (i + 1)) = joinStep z b := by rw [hb, hz]; simp [joinF]
    clear e0
    clear em
    try dsimp only [envOf] at F2 N2
    ((show Gk); k_unfold; clear Gk)
    show wpAny _ _ _ _ _ _
    k_fold
    (repeat' (first | (k_unfold; (try dsimp only)) | ((fail_if_success (with_reducible (refine Mine.stp 0 ?_ ?_; (focus ((repeat' constructor); done))))); (first | (k_end; wrow_close) | (first | (k_here; (with_reducible show wpAny _ _ (call (Value.ref 285) [Value.str _ _]) _ _ _); k_dflt (refine' Mine.c_getsep _ _ _ _ (by k_asm) (by k_asm) (by k_asm) (by k_asm) (by k_asm) (by first | exact rfl | assumption) (by ktr_room) (by ktr_units) ?_); intro v'ₘ n'ₘ h'ₘ tk'ₘ F'ₘ N'ₘ e'ₘ; obtain ⟨t'ₘ, e1ₘ, e2ₘ⟩ := e'ₘ; subst e1ₘ; subst e2ₘ; (try k_sweep)) | (k_here; (with_reducible show wpAny _ _ (call (Value.ref 271) [Value.str _ _]) _ _ _); k_dflt (refine' Mine.c_fspath _ _ _ _ (by k_asm) (by k_asm) (by k_asm) (by k_asm) (by k_asm) (by first | exact rfl | assumption) (by ktr_room) (by ktr_units) ?_); intro v'ₘ n'ₘ h'ₘ tk'ₘ F'ₘ N'ₘ e'ₘ; obtain ⟨e1ₘ, e2ₘ⟩ := e'ₘ; subst e1ₘ; subst e2ₘ; (try k_sweep)) | walk1) | (dsimp only; (first | walk1 | skip)))) | ((fail_if_success (with_reducible show wpAny _ _ _ _ _ _)); dsimp only [Mine.MyPost]) | (leave1; try dsimp only) | fail "no step"))
    all_goals refine MyEnd.intro (news' := []) (by assumption) (by assumption) ?_ (fun p hp => hp) (fun p hp => nomatch hp) (fun p hp => nomatch hp)
    all_goals refine ⟨⟨_, _, _, by exact Mine.map2 (a := "b") (b := "path") (by (repeat (first | exact Mine.Off.refl | (refine Mine.Off.upd (by first | exact .head _ | exact .tail _ (.head _) | exact .tail _ (.tail _ (.head _)) | exact .tail _ (.tail _ (.tail _ (.head _))) | exact .tail _ (.tail _ (.tail _ (.tail _ (.head _)))) | exact .tail _ (.tail _ (.tail _ (.tail _ (.tail _ (.head _)))))) ?_)))), ?_, ?_⟩, rfl⟩
    all_goals try rw [hst]; unfold joinStep
    · rename Txt.startswith b "/" = true => e1
      rw [if_pos (.inl e1)]
    · lia
    · rename Txt.startswith b "/" = false => e1
      rename Txt.endswith z "/" = true => e2
      rename (z.length : Int) ≠ 0 => e3
      rw [if_neg (by rw [e1]; rintro (q | q); exact Bool.false_ne_true q; lia), if_pos e2]
    · lia
    · rename Txt.startswith b "/" = false => e1
      rename Txt.endswith z "/" = false => e2
      rename (z.length : Int) ≠ 0 => e3
      rw [if_neg (by rw [e1]; rintro (q | q); exact Bool.false_ne_true q; lia), if_neg (by rw [e2]; exact Bool.false_ne_true)]
    · have : ("/" : Str).length = 1 := rfl
      lia
    · rename (z.length : Int) = 0 => e3
      rw [if_pos (.inr (by lia))]
    · lia
  · intro m₂ news₂ h tk' hJ13 F2 N2
    (refine (let Gk : Prop := _; (?_ : Gk)))
    obtain ⟨⟨uk, z, tz, rfl, hz, hzl⟩, rfl⟩ := hJ13
    clear e0
    clear em
    try dsimp only [envOf] at F2 N2
    ((show Gk); k_unfold; clear Gk)
    (repeat' (first | (k_unfold; (try dsimp only)) | ((fail_if_success (with_reducible (refine Mine.stp 0 ?_ ?_; (focus ((repeat' constructor); done))))); (first | (k_end; wrow_close) | (first | (k_here; (with_reducible show wpAny _ _ (call (Value.ref 285) [Value.str _ _]) _ _ _); k_dflt (refine' Mine.c_getsep _ _ _ _ (by k_asm) (by k_asm) (by k_asm) (by k_asm) (by k_asm) (by first | exact rfl | assumption) (by ktr_room) (by ktr_units) ?_); intro v'ₘ n'ₘ h'ₘ tk'ₘ F'ₘ N'ₘ e'ₘ; obtain ⟨t'ₘ, e1ₘ, e2ₘ⟩ := e'ₘ; subst e1ₘ; subst e2ₘ; (try k_sweep)) | (k_here; (with_reducible show wpAny _ _ (call (Value.ref 271) [Value.str _ _]) _ _ _); k_dflt (refine' Mine.c_fspath _ _ _ _ (by k_asm) (by k_asm) (by k_asm) (by k_asm) (by k_asm) (by first | exact rfl | assumption) (by ktr_room) (by ktr_units) ?_); intro v'ₘ n'ₘ h'ₘ tk'ₘ F'ₘ N'ₘ e'ₘ; obtain ⟨e1ₘ, e2ₘ⟩ := e'ₘ; subst e1ₘ; subst e2ₘ; (try k_sweep)) | walk1) | (dsimp only; (first | walk1 | skip)))) | ((fail_if_success (with_reducible show wpAny _ _ _ _ _ _)); dsimp only [Mine.MyPost]) | (leave1; try dsimp only) | fail "no step"))
    refine hret _ _ _ (fun b ob e => (by assumption : Fr _ _ _ _).keep b ob (hkeepR b ob e)) ⟨_, by rw [hz]; rfl⟩
end Mine
namespace Mine
open PySem PySem.W PySem.Calls PyProof.Rows Builtin
section
variable {prog : Program} {w : World} {A : Around} {E : Value → Shared → Prop} {s : Shared}
noncomputable def hexD (n : Nat) : Nat := Bytes.hexDigit n
theorem hexD_lt {n : Nat} (h : n < 16) : hexD n < 128 := by unfold hexD Bytes.hexDigit; split <;> lia
noncomputable def hexS (x y : UInt8) : Str := ⟨#[hexD (x.toNat / 16), hexD (x.toNat % 16), hexD (y.toNat / 16), hexD (y.toNat % 16)]⟩
theorem hex_tree (x y : UInt8) (t : Tok) : «bytes.hex» ⟨[.bytes #[x, y] t], []⟩ = retStr (hexS x y) := by rfl
theorem gives_hex (x y : UInt8) (t : Tok) : Gives («bytes.hex» ⟨[.bytes #[x, y] t], []⟩) (.str (hexS x y)) := .of_eq (hex_tree x y t)
end
theorem sizeLine_ge {n : Nat} (h : n < 1000) : (n > sizeLine) = False := by
  rw [sizeLine_eq]; simp; lia
theorem enc_ascii (id : String) (self : Value) (a b c d : Nat) (ha : a < 128) (hb : b < 128) (hc : c < 128) (hd : d < 128) :
    _codecs.encodeNarrow id _codecs.asciiCodec none self ⟨#[a, b, c, d]⟩ = pure #[a.toUInt8, b.toUInt8, c.toUInt8, d.toUInt8] := by
  revert id ha hb hc hd
  revert self a b c d
  iterate 3 refine no_implicit_lambda% (Mine.pad1 ?_)
  refine' no_implicit_lambda% (Mine.hk8 ?ne ?_)
  case ne => (repeat' (first | (refine Mine.nePair ?_ ?_) | exact Mine.neWorld | exact Mine.neAround | exact Mine.neShared | infer_instance))
  generalize Mine.A4 _ = self; generalize Mine.A5 _ = a; generalize Mine.A6 _ = b; generalize Mine.A7 _ = c; generalize Mine.A8 _ = d
  intro uHk
  clear uHk
  intro id ha hb hc hd
  have e : ∀ x, x < 128 → _codecs.asciiCodec.bad x = false := fun x h => by show decide (x ≥ 128) = false; simpa using h
  have ext : (#[a, b, c, d] : Array Nat).extract 0 (#[a, b, c, d] : Array Nat).size = #[a, b, c, d] := rfl
  have ext2 : (#[a, b, c, d] : Array Nat).extract 0 4 = #[a, b, c, d] := rfl
  have fi : (#[a, b, c, d] : Array Nat).findIdx? _codecs.asciiCodec.bad = none := by
    simp [e _ ha, e _ hb, e _ hc, e _ hd]
  have s0 : ((#[] : Array UInt8).size > sizeLine) = False := sizeLine_ge (by decide)
  have s4 : ((#[a.toUInt8, b.toUInt8, c.toUInt8, d.toUInt8] : Array UInt8).size > sizeLine) = False := sizeLine_ge (by show 4 < 1000; decide)
  have fo4 : Array.foldl (fun acc y => acc ++ (_codecs.asciiCodec.bytesOf y).toArray) #[] (#[a, b, c, d] : Array Nat) 0 4 = #[a.toUInt8, b.toUInt8, c.toUInt8, d.toUInt8] := rfl
  have fo : Array.foldl (fun acc y => acc ++ (_codecs.asciiCodec.bytesOf y).toArray) #[] (#[a, b, c, d] : Array Nat) = #[a.toUInt8, b.toUInt8, c.toUInt8, d.toUInt8] := rfl
  have g0 : (#[a, b, c, d] : Array Nat)[0]? = some a := rfl
  have g4 : (#[a, b, c, d] : Array Nat)[0 + 4]? = none := rfl
  unfold _codecs.encodeNarrow
  simp only [Std.Legacy.Range.forIn_eq_forIn_range', Std.Legacy.Range.size, show (Str.length ⟨#[a, b, c, d]⟩) = 4 from rfl, List.range', List.forIn_cons, List.forIn_nil, show ((4 - 0 + 1 - 1) / 1 : Nat) = 4 from rfl, s0, if_false, g0, e _ ha, Bool.not_false, if_true, ext, fi, Option.getD_none, show (#[a, b, c, d] : Array Nat).size = 4 from rfl, ext2, fo, fo4, pure_bind, bind_pure, s4, g4]
theorem dec_ascii (id : String) (a b c d : UInt8) (ha : a.toNat < 128) (hb : b.toNat < 128) (hc : c.toNat < 128) (hd : d.toNat < 128) :
    _codecs.runDecoder id _codecs.asciiDecoder none true #[a, b, c, d] 0 [] = pure (#[a.toNat, b.toNat, c.toNat, d.toNat], 4) := by
  have e0 : _codecs.asciiDecoder.find true #[a, b, c, d] 0 = .char a.toNat 1 := if_pos ha
  have e1 : _codecs.asciiDecoder.find true #[a, b, c, d] 1 = .char b.toNat 2 := if_pos hb
  have e2 : _codecs.asciiDecoder.find true #[a, b, c, d] 2 = .char c.toNat 3 := if_pos hc
  have e3 : _codecs.asciiDecoder.find true #[a, b, c, d] 3 = .char d.toNat 4 := if_pos hd
  have s0 : ((#[] : Array Nat).size > sizeLine) = False := sizeLine_ge (by decide)
  have s1 : (((#[] : Array Nat) ++ [a.toNat].toArray).size > sizeLine) = False := sizeLine_ge (by show 1 < 1000; decide)
  have s2 : (((#[] : Array Nat) ++ [a.toNat].toArray ++ [b.toNat].toArray).size > sizeLine) = False := sizeLine_ge (by show 2 < 1000; decide)
  have s3 : (((#[] : Array Nat) ++ [a.toNat].toArray ++ [b.toNat].toArray ++ [c.toNat].toArray).size > sizeLine) = False := sizeLine_ge (by show 3 < 1000; decide)
  unfold _codecs.runDecoder
  simp only [Std.Legacy.Range.forIn_eq_forIn_range', Std.Legacy.Range.size, show (#[a, b, c, d] : Array UInt8).size = 4 from rfl, List.range', List.forIn_cons, List.forIn_nil, show ((4 - 0 + 1 - 1) / 1 : Nat) = 4 from rfl, s0, s1, s2, s3, if_false, e0, e1, e2, e3, pure_bind, bind_pure, ge_iff_le, Nat.reduceLeDiff, _codecs.Found.char]
  rfl
open Builtin._codecs in
theorem road_ascii (id : String) (self : Value) (x : Str) : encodeRoad id self x (Str.ofString "ascii") none = (do mkBytes (← encodeNarrow id asciiCodec none self x)) := by kernel_rfl
theorem enc_tree (x : Str) (t u : Tok) : «str.encode» ⟨[.str x t, .str "ascii" u], []⟩ = (_codecs.encodeRoad "str.encode" (.str x t) x (Str.ofString "ascii") none >>= fun v => ret v) := by kernel_rfl
theorem upper_tree (a b c d : UInt8) (t : Tok) : «bytes.upper» ⟨[.bytes #[a, b, c, d] t], []⟩ = (do ret (← mkBytes #[Bytes.toUpper a, Bytes.toUpper b, Bytes.toUpper c, Bytes.toUpper d])) := by first | rfl | kernel_rfl
open Builtin._codecs in
theorem droad_ascii (id : String) (b : Array UInt8) : decodeRoad id b (Str.ofString "ascii") none [] = (runDecoder id asciiDecoder none true b 0 [] >>= fun r => mkStr ⟨r.1⟩) := by kernel_rfl
theorem meets_dtext {b : Array UInt8} {x : Str} {n : Nat} {t t1 t2 : Tok} {d : Str} (hd : ∀ id, _codecs.runDecoder id _codecs.asciiDecoder none true b 0 [] = pure (x.cps, n)) :
    Meets («_codecs.decode.text» ⟨[.bytes b t, .str (Str.ofString "ascii") t1, .none, .str d t2], []⟩) (fun _ R s => x.length ≤ sizeLine ∧ R (.ok (.ret (.str x s.toks))) { s with toks := s.toks + 1 }) := by
  refine .of_wp fun prog w A R s hS => ?_
  obtain ⟨hsz, h⟩ := hS
  show wpAny _ _ (Bytes.bytesLike _ (.bytes b t) >>= fun r => _) _ _ s
  refine wpAny_bind (wpAny_of_eq KBd.like_eq ?_)
  refine wpAny_bind (wpAny_of_eq KBd.held_eq ?_)
  show wpAny _ _ (_codecs.decodeRoad _ b (Str.ofString "ascii") none [] >>= fun v => _) _ _ s
  rw [droad_ascii, hd]
  refine wpAny_bind (wpAny_bind (wpAny_pure ?_))
  exact wpAny_mkStr (wpAny_pure ⟨_, rfl, h⟩) hsz
theorem dec_tree (a b c d : UInt8) (t u : Tok) : «bytes.decode» ⟨[.bytes #[a, b, c, d] t], [("encoding", .str "ascii" u)]⟩ = (mkStr (Str.ofString "utf-8") >>= fun _ => mkStr (Str.ofString "ascii") >>= fun e => mkStr (Str.ofString "bytes.decode") >>= fun dd =>
    call (.builtin "_codecs.decode.text") [.bytes #[a, b, c, d] t, e, .none, dd] >>= fun v => ret v) := by kernel_rfl
theorem args_decode_kw (v x : Value) : argsOk "bytes.decode" ⟨[v], [("encoding", x)]⟩ := by
  unfold argsOk; rw [signature?_of (id := "bytes.decode") (n := ['e', 'd', 'o', 'c', 'e', 'd']) (o := ['s', 'e', 't', 'y', 'b']) (by kernel_rfl) FB.owner_bytes]; kernel_rfl
theorem typeCall_str_2 (a b : Value) : checkTypeCall "str" ⟨[a, b], []⟩ = pure () := by kernel_rfl
theorem newCall_str_2 (a b : Value) : checkBuiltinCall "str.__new__" ⟨[.type "str", a, b], []⟩ = pure () := by kernel_rfl
section
variable {prog : Program} {w : World} {A : Around} {E : Value → Shared → Prop} {s : Shared}
theorem call_decode {a b c d : UInt8} {t u : Tok} {Q : Value → Shared → Prop} (ha : a.toNat < 128) (hb : b.toNat < 128) (hc : c.toNat < 128) (hd : d.toNat < 128)
    (h : ∀ t' k, Q (.str ⟨#[a.toNat, b.toNat, c.toNat, d.toNat]⟩ t') { s with toks := k }) : wpAny (model prog w) A (call (.builtin "bytes.decode") [.bytes #[a, b, c, d] t] [("encoding", .str "ascii" u)]) Q E s := by
  refine wpAny_call_entry_kw FB.slot_bytes_decode (typeIs_bytes _ _ _) FB.entry_bytes_decode ?_ (args_decode_kw _ _)
  rw [dec_tree]
  refine wpAny_bind (wpAny_mkStr ?_ (by decide))
  refine wpAny_bind (wpAny_mkStr ?_ (by decide))
  refine wpAny_bind (wpAny_mkStr ?_ (by decide))
  exact wpAny_bind (call_function_meets KBd.kind_text KBd.plain_text KBd.entry_text (KBd.args_text _ _ _ _) (meets_dtext (x := ⟨#[a.toNat, b.toNat, c.toNat, d.toNat]⟩) fun id => dec_ascii id a b c d ha hb hc hd) ⟨by rw [sizeLine_eq]; show 4 ≤ _; decide, wpAny_pure ⟨_, rfl, h _ _⟩⟩)
theorem str_new_2 {a b c d : UInt8} {t u : Tok} {Q : Fin → Shared → Prop} (ha : a.toNat < 128) (hb : b.toNat < 128) (hc : c.toNat < 128) (hd : d.toNat < 128)
    (h : ∀ t' k, Q (.done (.ret (.str ⟨#[a.toNat, b.toNat, c.toNat, d.toNat]⟩ t'))) { s with toks := k }) : wpAny (model prog w) A («str.__new__» ⟨[.type "str", .bytes #[a, b, c, d] t, .str "ascii" u], []⟩) Q E s := by
  revert a b c d Q ha hb hc hd h
  revert prog w A E s t u
  iterate 1 refine no_implicit_lambda% (Mine.pad1 ?_)
  refine' no_implicit_lambda% (Mine.hk8 ?ne ?_)
  case ne => (repeat' (first | (refine Mine.nePair ?_ ?_) | exact Mine.neWorld | exact Mine.neAround | exact Mine.neShared | infer_instance))
  generalize Mine.A2 _ = prog; generalize Mine.A3 _ = w; generalize Mine.A4 _ = A; generalize Mine.A5 _ = E; generalize Mine.A6 _ = s; generalize Mine.A7 _ = t; generalize Mine.A8 _ = u
  intro uHk
  clear uHk
  intro a b c d Q ha hb hc hd h
  unfold Builtin.«str.__new__»
  repeat (any_goals (first | assumption | wp_step))
  refine wpAny_of_eq isSubtype_str_str ?_
  repeat (any_goals (first | assumption | wp_step))
  rw [if_neg (by decide +kernel)]
  try dsimp only
  rw [if_neg (by decide +kernel)]
  refine wpAny_pure ?_
  repeat (any_goals (first | assumption | wp_step))
  refine wpAny_of_eq (show isSubtype (.type "bytes") (.type "bytes") = pure true from by rw [isSubtype_type]; kernel_rfl) ?_
  rw [if_pos rfl]
  refine wpAny_bind (wpAny_rule ?_)
  refine call_decode ha hb hc hd fun t' k => ?_
  rw [if_pos (by decide +kernel)]
  exact wpAny_pure (h _ _)
theorem call_str2 {a b c d : UInt8} {t u : Tok} {Q : Value → Shared → Prop} (ha : a.toNat < 128) (hb : b.toNat < 128) (hc : c.toNat < 128) (hd : d.toNat < 128)
    (h : ∀ t' k, Q (.str ⟨#[a.toNat, b.toNat, c.toNat, d.toNat]⟩ t') { s with toks := k }) : wpAny (model prog w) A (call (.type "str") [.bytes #[a, b, c, d] t, .str "ascii" u]) Q E s :=
  callType_new F.called_str (by decide) (typeCall_str_2 _ _) (newCall_str_2 _ _) (fun obj => by unfold argsOk; kernel_rfl) F.entry_str_new
    (Meets.of_wp (S := fun _ R s => ∀ t' k, R (.ok (.ret (.str ⟨#[a.toNat, b.toNat, c.toNat, d.toNat]⟩ t'))) { s with toks := k }) fun prog w A R s hS => str_new_2 ha hb hc hd fun t' k => ⟨_, rfl, hS t' k⟩)
    (fun t' k => ⟨typeIs_str _ _ _, h t' k⟩)
theorem call_hex2 {x y : UInt8} {t : Tok} {Q : Value → Shared → Prop} (h : Q (.str (hexS x y) s.toks) { s with toks := s.toks + 1 }) : wpAny (model prog w) A (call (.builtin "bytes.hex") [.bytes #[x, y] t]) Q E s :=
  call_gives FB.slot_bytes_hex (typeIs_bytes _ _ _) FB.entry_bytes_hex (FB.args_bytes_hex_1 _) (gives_hex x y t) ⟨by rw [sizeLine_eq]; show 4 ≤ _; decide, h⟩
noncomputable def hexB (x y : UInt8) : Array UInt8 := #[(hexD (x.toNat / 16)).toUInt8, (hexD (x.toNat % 16)).toUInt8, (hexD (y.toNat / 16)).toUInt8, (hexD (y.toNat % 16)).toUInt8]
noncomputable def hexU (x y : UInt8) : Array UInt8 := #[Bytes.toUpper (hexD (x.toNat / 16)).toUInt8, Bytes.toUpper (hexD (x.toNat % 16)).toUInt8, Bytes.toUpper (hexD (y.toNat / 16)).toUInt8, Bytes.toUpper (hexD (y.toNat % 16)).toUInt8]
theorem nib (x : UInt8) : x.toNat / 16 < 16 ∧ x.toNat % 16 < 16 := by
  have := x.toNat_lt
  lia
theorem call_enc {x y : UInt8} {t u : Tok} {Q : Value → Shared → Prop} (h : Q (.bytes (hexB x y) s.toks) { s with toks := s.toks + 1 }) : wpAny (model prog w) A (call (.builtin "str.encode") [.str (hexS x y) t, .str "ascii" u]) Q E s := by
  refine call_gives F.slot_str_encode (typeIs_str _ _ _) F.entry_str_encode (F.args_str_encode_2 _ _) (m := .bytes (hexB x y)) (.of_eq ?_) ⟨by rw [sizeLine_eq]; show 4 ≤ _; decide, h⟩
  rw [enc_tree, road_ascii]
  rw [show hexS x y = ⟨#[hexD (x.toNat / 16), hexD (x.toNat % 16), hexD (y.toNat / 16), hexD (y.toNat % 16)]⟩ from rfl, enc_ascii _ _ _ _ _ _ (hexD_lt (nib x).1) (hexD_lt (nib x).2) (hexD_lt (nib y).1) (hexD_lt (nib y).2)]
  rfl
theorem slot_bytes_upper : Slot "bytes" "upper" "bytes.upper" :=
  .of (owner := "bytes") (n := "upper") (by rw [typeLookup_type, builtinLookup_eq_fast]; kernel_rfl) (by decide +kernel) (by decide +kernel) (by decide +kernel)
    (by first | exact .inl (by decide +kernel) | exact .inr (by decide +kernel)) (by rw [isSubtype_type]; kernel_rfl)
theorem type_bytes_upper : typeOf (.builtin "bytes.upper") = pure (.type "method_descriptor") := by show builtinType _ = _; rw [builtinType_eq_fast]; kernel_rfl
theorem entry_bytes_upper : entryFor table "bytes.upper" = some Builtin.«bytes.upper» := entryFor_of_tree (by kernel_rfl)
theorem args_bytes_upper_1 (a : Value) : argsOk "bytes.upper" ⟨[a], []⟩ := by
  unfold argsOk; rw [signature?_of (id := "bytes.upper") (n := ['r', 'e', 'p', 'p', 'u']) (o := ['s', 'e', 't', 'y', 'b']) (by kernel_rfl) FB.owner_bytes]; kernel_rfl
theorem call_upper {x y : UInt8} {t : Tok} {Q : Value → Shared → Prop} (h : Q (.bytes (hexU x y) s.toks) { s with toks := s.toks + 1 }) : wpAny (model prog w) A (call (.builtin "bytes.upper") [.bytes (hexB x y) t]) Q E s :=
  call_gives slot_bytes_upper (typeIs_bytes _ _ _) entry_bytes_upper (args_bytes_upper_1 _) (m := .bytes (hexU x y)) (.of_eq (upper_tree _ _ _ _ _)) ⟨by rw [sizeLine_eq]; show 4 ≤ _; decide, h⟩
theorem m_hex {M : Model} {b : Array UInt8} {t : Tok} {pl : Sem Bool} {Q : Value × List Value → Shared → Prop} (h : Q (.builtin "bytes.hex", [.bytes b t]) s) : wpAny M A (getMethod (.bytes b t) "hex" pl) Q E s := by
  with_reducible exact KBd.method_of (.bytes b t) (typeIs_bytes _ _ _) FB.slot_bytes_hex FB.type_bytes_hex KBd.noRef h
theorem m_upper {M : Model} {b : Array UInt8} {t : Tok} {pl : Sem Bool} {Q : Value × List Value → Shared → Prop} (h : Q (.builtin "bytes.upper", [.bytes b t]) s) : wpAny M A (getMethod (.bytes b t) "upper" pl) Q E s := by
  with_reducible exact KBd.method_of (.bytes b t) (typeIs_bytes _ _ _) slot_bytes_upper type_bytes_upper KBd.noRef h
theorem m_encode {M : Model} {b : Str} {t : Tok} {pl : Sem Bool} {Q : Value × List Value → Shared → Prop} (h : Q (.builtin "str.encode", [.str b t]) s) : wpAny M A (getMethod (.str b t) "encode" pl) Q E s :=
  getMethod_builtin (typeIs_str _ _ _) F.plainAttrs_str F.slot_str_encode F.type_str_encode (fun _ e => nomatch e) h
end
end Mine
theorem Mine.off6 : True := by w_top off; trivial
namespace Mine
open PySem PySem.W PySem.Calls PyProof.Rows
theorem c_b16 (w : World) (s : Shared) (x y : UInt8) (t : Tok) : RO w 8 198 [.bytes #[x, y] t] [] s (fun v _ => ∃ t, v = .bytes (hexU x y) t) := by
  intro p loose mean mg mb dp un gd cn cs a ccd cl outer A₀ base h₀ L m Q E
  intro B F X T hk hdp hun hret
  refine wpAny_call ?_
  (k_dflt (refine' Mine.enterRO ?k1ₘ ?k2ₘ ?k3ₘ ?k5ₘ ?kAₘ ?kFₘ ?kKₘ ?k6ₘ ?k7ₘ ?k8ₘ ?k9ₘ ?kBₘ ?_ ?c2ₘ ?c3ₘ ?c4ₘ ?c5ₘ; (case kAₘ => exact rfl); (case kFₘ => exact rfl); (case kKₘ => assumption); (case k1ₘ => k_asm); (case k2ₘ => k_asm); (case k3ₘ => k_asm); (case k5ₘ => k_asm); (case k6ₘ => k_is); (case k7ₘ => k_is); (case k8ₘ => ktr_room); (case k9ₘ => first | exact BindsTo.of_eq rfl | exact binds_K (by k_in) rfl (by k_is) rfl rfl rfl); (case c5ₘ => decide); (case kBₘ => exact locs rfl); (case c2ₘ => exact rfl); (case c3ₘ => exact rfl); (case c4ₘ => exact rfl); k_whole); intro L'ₘ h'ₘ F'ₘ N'ₘ B'ₘ X'ₘ T'ₘ; (try dsimp only); (try k_fold))
  (refine (let Akₘ : PySem.Around := _; (?_ : wpAny _ Akₘ _ _ _ _)))
  (repeat' (first | (k_unfold; (try dsimp only)) | ((fail_if_success (with_reducible (refine Mine.stp 0 ?_ ?_; (focus ((repeat' constructor); done))))); (first | (k_end; wrow_close) | (first | (k_here; (with_reducible show wpAny _ _ (call _ [Value.bytes _ _, Value.str _ _]) _ _ _); refine Mine.call_str2 ?_ ?_ ?_ ?_ ?_) | ((with_reducible show wpAny _ _ (call (Value.builtin "str.encode") _ _) _ _ _); (k_here; refine Mine.call_enc ?_; dsimp only)) | ((with_reducible show wpAny _ _ (call (Value.builtin "bytes.upper") _ _) _ _ _); (k_here; refine Mine.call_upper ?_; dsimp only)) | ((with_reducible show wpAny _ _ (call (Value.builtin "bytes.hex") _ _) _ _ _); (k_here; refine Mine.call_hex2 ?_; dsimp only)) | (k_here; (with_reducible show wpAny _ _ (getMethod (Value.str _ _) (PySem.Str.ofString "encode") _) _ _ _); refine Mine.m_encode ?_) | (k_here; first | (with_reducible refine Mine.m_hex ?_) | (with_reducible refine Mine.m_upper ?_)) | (k_here; (with_reducible show wpAny _ _ (call _ [Value.bytes _ _]) _ _ _); refine call_type_of (Tx := "bytes") rfl (by decide +kernel) ?_) | walk1) | (dsimp only; (first | walk1 | skip)))) | ((fail_if_success (with_reducible show wpAny _ _ _ _ _ _)); dsimp only [Mine.MyPost]) | (leave1; try dsimp only) | fail "no step"))
  exact hret _ _ _ (fun b ob e => (by assumption : Fr s.heap _ _ _).keep b ob e) ⟨_, rfl⟩
end Mine
namespace Mine
open PySem PySem.W PySem.Calls PyProof.Rows
inductive Strs : List Value → List Str → Prop
  | nil : Strs [] []
  | cons {x : Str} {t : Tok} {vs : List Value} {xs : List Str} : Strs vs xs → Strs (.str x t :: vs) (x :: xs)
theorem Strs.len {vs : List Value} {xs : List Str} (H : Strs vs xs) : vs.length = xs.length := by
  induction H with
  | nil => rfl
  | cons _ ih => exact congrArg (· + 1) ih
theorem Strs.append {vs us : List Value} {xs ys : List Str} (H : Strs vs xs) (h' : Strs us ys) : Strs (vs ++ us) (xs ++ ys) := by
  induction H with
  | nil => exact h'
  | cons _ ih => exact .cons ih
theorem Strs.snoc {x : Str} {t : Tok} {vs : List Value} {xs : List Str} (H : Strs vs xs) : Strs (vs ++ [.str x t]) (xs ++ [x]) := H.append (.cons .nil)
theorem Strs.at {vs : List Value} {xs : List Str} (H : Strs vs xs) : ∀ {i : Nat} {v : Value}, vs[i]? = some v → ∃ x t, v = .str x t ∧ xs[i]? = some x := by
  induction H with
  | nil => exact fun e => nomatch e
  | cons _ ih =>
    intro i v e
    cases i with
    | zero => exact ⟨_, _, (Option.some.inj e).symm, rfl⟩
    | succ i => exact ih e
theorem Strs.at' {vs : List Value} {xs : List Str} (H : Strs vs xs) : ∀ {i : Nat} {x : Str}, xs[i]? = some x → ∃ t, vs[i]? = some (.str x t) := by
  induction H with
  | nil => exact fun e => nomatch e
  | cons _ ih =>
    intro i x e
    cases i with
    | zero => exact ⟨_, congrArg (fun z => some (Value.str z _)) (Option.some.inj e)⟩
    | succ i => exact ih e
noncomputable def tupLed (h : Heap) (vs : List Value) : Led := vs.filterMap fun v => match v with | .ref a => (h.get? a).map (a, ·) | _ => none
theorem tupLed_get {h : Heap} {vs : List Value} {p : Addr × Obj} (hp : p ∈ tupLed h vs) : h.get? p.1 = some p.2 := by
  (refine (let Gk : Prop := _; (?_ : Gk)))
  obtain ⟨v, _, e⟩ := List.mem_filterMap.mp hp
  ((show Gk); k_unfold; clear Gk)
  cases v with
  | ref a =>
    (refine (let Gk : Prop := _; (?_ : Gk)))
    obtain ⟨o, ho, e⟩ := Option.map_eq_some_iff.mp e
    ((show Gk); k_unfold; clear Gk)
    rw [← e]; exact ho
  | _ => cases e
theorem tupLed_cls {h : Heap} {vs : List Value} {items : List (Str × Str)} (H : TabItems h vs items) : ∀ p ∈ tupLed h vs, p.2.cls = .type "tuple" := by
  induction H with
  | nil => exact fun _ hp => nomatch hp
  | cons ha hr ih =>
    intro p hp
    unfold tupLed at hp
    simp only [List.filterMap_cons, ha, Option.map_some] at hp
    rcases List.mem_cons.mp hp with rfl | hp
    · rfl
    · exact ih p hp
theorem tupLed_mem {h : Heap} {vs : List Value} {a : Addr} {o : Obj} (hv : Value.ref a ∈ vs) (ho : h.get? a = some o) : (a, o) ∈ tupLed h vs :=
  List.mem_filterMap.mpr ⟨_, hv, by simp [ho]⟩
theorem fr_hidden {h₀ h : Heap} {L : Addr} {m : Str → Option Value} (l : List Addr) (F : Fr h₀ L h m) : Fr (hideAll h₀ l) L h m :=
  ⟨F.ns, fun b o e => F.keep b o (of_hideAll _ e), by rw [hideAll_size]; exact F.above⟩
theorem news_hidden {h₀ h : Heap} {L : Addr} {m : Str → Option Value} {led : Led} (F : Fr h₀ L h m) (hg : ∀ p ∈ led, h₀.get? p.1 = some p.2) : News (hideAll h₀ (led.map (·.1))) L h led := fun p hp =>
  ⟨F.keep _ _ (hg p hp), Nat.ne_of_lt (Nat.lt_of_lt_of_le (Heap.lt_size (hg p hp)) F.above), hideAll_none _ (List.mem_map_of_mem hp)⟩
theorem fr_shown {h₀ h : Heap} {L : Addr} {m : Str → Option Value} {led news : Led} (hg : ∀ p ∈ led, h₀.get? p.1 = some p.2) (F : Fr (hideAll h₀ (led.map (·.1))) L h m) (N : News (hideAll h₀ (led.map (·.1))) L h news) (hs : ∀ p ∈ led, p ∈ news) : Fr h₀ L h m := by
  refine ⟨F.ns, fun b o e => ?_, by have := F.above; rwa [hideAll_size] at this⟩
  by_cases hb : b ∈ led.map (·.1)
  · (refine (let Gk : Prop := _; (?_ : Gk)))
    obtain ⟨p, hp, rfl⟩ := List.mem_map.mp hb
    have := hg p hp
    rw [e] at this
    ((show Gk); k_unfold; clear Gk)
    cases this
    exact (N p (hs p hp)).1
  · exact F.keep b o (hideAll_get _ e hb)
section
variable {prog : Program} {w : World} {A : Around} {s : Shared} {h₀ : Heap} {L : Addr} {m : Str → Option Value} {env : Env} {elt : Expr} {x x₂ : Str} {scope : Scope} {cl : List (Str × Addr)}
theorem compRestP_of {S : Led → Prop} {P : Nat → Value → Prop} {Fin : List Value → Led → Prop} (n : Nat) (J : Nat → List Value → Led → Prop)
    (step : ∀ i ys news, i < n → J i ys news → ∀ v, P i v → ∃ (t : Addr) (ot : Obj) (v₁ v₂ : Value) (nt : Nat), v = .ref t ∧ (t, ot) ∈ news ∧ ot.cls = .type "tuple" ∧ ot.data = .seq #[v₁, v₂] nt ∧
      ∀ I oI C oC D m₂ h tk (E' : Value → Shared → Prop), LCg.NsObj oC m₂ → m₂ x = some v₁ → m₂ x₂ = some v₂ → Fr h₀ L h m → News h₀ L h ((I, oI) :: (C, oC) :: (D, LCg.lst ys) :: news) → LCg.Off3 I C D news → ((@Ne Nat I C) ∧ (@Ne Nat I D) ∧ (@Ne Nat C D)) →
      wpAny (model prog w) A (eval elt (compEnvC scope cl C env)) (LCg.CompEnd h₀ L m { s with heap := h, toks := tk } I oI C oC D (LCg.lst ys) S (fun y news' => J (i + 1) (ys ++ [y]) news')) E' { s with heap := h, toks := tk })
    (fin : ∀ ys news, J n ys news → Fin ys news) : ∀ (k i : Nat) (ys : List Value) (news : Led), i + k = n → J i ys news → LCp.CompRestP prog w A h₀ L m env elt x x₂ scope cl s S P Fin k i ys news := by
  intro k
  induction k with
  | zero => exact fun i ys news e hJ => LCp.CompRestP.zero (fin ys news (e ▸ hJ))
  | succ k ih =>
    refine fun i ys news e hJ => LCp.CompRestP.succ fun v hP => ?_
    (refine (let Gk : Prop := _; (?_ : Gk)))
    obtain ⟨t, ot, v₁, v₂, nt, hv, hm, hc, hd, hw⟩ := step i ys news (ik_lt e) hJ v hP
    ((show Gk); k_unfold; clear Gk)
    exact ⟨t, ot, v₁, v₂, nt, hv, hm, hc, hd, fun I oI C oC D m₂ h tk E' hC hx hx2 F N o3 ne =>
        wpAny_mono (hw I oI C oC D m₂ h tk E' hC hx hx2 F N o3 ne) (fun _ _ he => compEnd_mono (fun _ _ hj => ih (i + 1) _ _ (ik_s e) hj) he) fun _ _ e => e⟩
end
theorem pick_all (vs : List Value) : kms_pick vs none none = vs := by
  unfold kms_pick kms_lo kms_hi
  simp
theorem list_base {h₀ h : Heap} {L l : Addr} {m : Str → Option Value} {vs : List Value} {n : Nat} (F : Fr h₀ L h m) (hl : h₀.get? l = some { cls := .type "list", data := .seq vs.toArray n }) : h.IsList l vs.toArray := ⟨_, F.keep _ _ hl, rfl, n, rfl⟩
end Mine
theorem Mine.off7 : True := by w_top off; trivial
namespace Mine
open PySem PySem.W PySem.Calls PyProof.Rows
theorem c_items (w : World) (s : Shared) (x d l : Addr) (tk : Tok) (n : Nat) (vs : List Value) (hx : s.heap.get? x = some (instObj 171 d))
    (hd : s.heap.get? d = some (dictOf [{ hash := PyData.keyHash w.params "_headers", key := .str "_headers" tk, val := .ref l }] 1)) (hl : s.heap.get? l = some { cls := .type "list", data := .seq vs.toArray n }) (hlen : vs.length ≤ 20) :
    RO w 8 135 [.ref x] [] s (fun v h' => ∃ D, v = .ref D ∧ s.heap.get? D = none ∧ h'.get? D = some { cls := .type "list", data := .seq vs.toArray 0 }) := by
  revert hx hd hl hlen
  revert w s x d l tk n vs
  refine' no_implicit_lambda% (Mine.hk8 ?ne ?_)
  case ne => (repeat' (first | (refine Mine.nePair ?_ ?_) | exact Mine.neWorld | exact Mine.neAround | exact Mine.neShared | infer_instance))
  generalize Mine.A1 _ = w; generalize Mine.A2 _ = s; generalize Mine.A3 _ = x; generalize Mine.A4 _ = d; generalize Mine.A5 _ = l; generalize Mine.A6 _ = tk; generalize Mine.A7 _ = n; generalize Mine.A8 _ = vs
  intro uHk
  clear uHk
  intro hx hd hl hlen
  refine' no_implicit_lambda% (Mine.hk21 ?ne ?_)
  case ne => (repeat' (first | (refine Mine.nePair ?_ ?_) | exact Mine.neWorld | exact Mine.neAround | exact Mine.neShared | infer_instance))
  generalize Mine.A1 _ = p; generalize Mine.A2 _ = loose; generalize Mine.A3 _ = mean; generalize Mine.A4 _ = mg; generalize Mine.A5 _ = mb; generalize Mine.A6 _ = dp; generalize Mine.A7 _ = un; generalize Mine.A8 _ = gd; generalize Mine.A9 _ = cn; generalize Mine.A10 _ = cs; generalize Mine.A11 _ = a; generalize Mine.A12 _ = ccd; generalize Mine.A13 _ = cl; generalize Mine.A14 _ = outer; generalize Mine.A15 _ = A₀; generalize Mine.A16 _ = base; generalize Mine.A17 _ = h₀; generalize Mine.A18 _ = L; generalize Mine.A19 _ = m; generalize Mine.A20 _ = Q; generalize Mine.A21 _ = E
  intro uHk
  clear uHk
  intro B F X T hk hdp hun hret
  refine wpAny_call ?_
  (k_dflt (refine' Mine.enterRO ?k1ₘ ?k2ₘ ?k3ₘ ?k5ₘ ?kAₘ ?kFₘ ?kKₘ ?k6ₘ ?k7ₘ ?k8ₘ ?k9ₘ ?kBₘ ?_ ?c2ₘ ?c3ₘ ?c4ₘ ?c5ₘ; (case kAₘ => exact rfl); (case kFₘ => exact rfl); (case kKₘ => assumption); (case k1ₘ => k_asm); (case k2ₘ => k_asm); (case k3ₘ => k_asm); (case k5ₘ => k_asm); (case k6ₘ => k_is); (case k7ₘ => k_is); (case k8ₘ => ktr_room); (case k9ₘ => first | exact BindsTo.of_eq rfl | exact binds_K (by k_in) rfl (by k_is) rfl rfl rfl); (case c5ₘ => decide); (case kBₘ => exact locs rfl); (case c2ₘ => exact rfl); (case c3ₘ => exact rfl); (case c4ₘ => exact rfl); k_whole); intro L'ₘ h'ₘ F'ₘ N'ₘ B'ₘ X'ₘ T'ₘ; (try dsimp only); (try k_fold))
  (refine (let Akₘ : PySem.Around := _; (?_ : wpAny _ Akₘ _ _ _ _)))
  (repeat' (first | (k_unfold; (try dsimp only)) | ((fail_if_success (with_reducible (refine Mine.stp 2 ?_ ?_; (focus ((repeat' constructor); done))))); (first | (k_end; wrow_close) | (first | (k_here; (with_reducible show wpAny _ _ (subscriptTail _ (PySem.Expr.Slice none none none _) (Value.ref _) (Value.ref _)) _ _ _); k_dflt (refine' kms_slice_lit (by k_asm) (by k_asm) (by exact Mine.list_base (by k_asm) (by assumption)) (by kmk_part) (by kmk_part) (by exact Mine.pick_all _) ?_ (by with_unfolding_all rfl) (by kmk_pure) ?zₘ; (case zₘ => rw [sizeLine_eq]; simp; lia)); intro D'ₘ h'ₘ F'ₘ N'ₘ l1ₘ; (try k_lt l1ₘ); (try k_sweep)) | walk1) | (dsimp only; (first | walk1 | skip)))) | ((fail_if_success (with_reducible show wpAny _ _ _ _ _ _)); dsimp only [Mine.MyPost]) | (leave1; try dsimp only) | fail "no step"))
  (with_reducible rename News _ _ _ _ => N9)
  (with_reducible rename Fr _ _ _ _ => F9)
  refine hret _ _ _ (fun b ob e => F9.keep b ob e) ⟨_, rfl, (N9 _ (.head _)).2.2, (N9 _ (.head _)).1⟩
theorem c_values (w : World) (s : Shared) (x d l : Addr) (tk : Tok) (n : Nat) (vs : List Value) (items : List (Str × Str)) (hx : s.heap.get? x = some (instObj 171 d))
    (hd : s.heap.get? d = some (dictOf [{ hash := PyData.keyHash w.params "_headers", key := .str "_headers" tk, val := .ref l }] 1)) (hl : s.heap.get? l = some { cls := .type "list", data := .seq vs.toArray n }) (hT : TabItems s.heap vs items) (hlen : vs.length ≤ 20) :
    RO w 8 128 [.ref x] [] s (fun v h' => ∃ D us, v = .ref D ∧ Strs us (items.map (·.2)) ∧ s.heap.get? D = none ∧ h'.get? D = some { cls := .type "list", data := .seq us.toArray us.length }) := by
  revert hx hd hl hT hlen
  revert w s x d l tk n vs items
  iterate 3 refine no_implicit_lambda% (Mine.pad1 ?_)
  refine' no_implicit_lambda% (Mine.hk12 ?ne ?_)
  case ne => (repeat' (first | (refine Mine.nePair ?_ ?_) | exact Mine.neWorld | exact Mine.neAround | exact Mine.neShared | infer_instance))
  generalize Mine.A4 _ = w; generalize Mine.A5 _ = s; generalize Mine.A6 _ = x; generalize Mine.A7 _ = d; generalize Mine.A8 _ = l; generalize Mine.A9 _ = tk; generalize Mine.A10 _ = n; generalize Mine.A11 _ = vs; generalize Mine.A12 _ = items
  intro uHk
  clear uHk
  intro hx hd hl hT hlen
  refine' no_implicit_lambda% (Mine.hk21 ?ne ?_)
  case ne => (repeat' (first | (refine Mine.nePair ?_ ?_) | exact Mine.neWorld | exact Mine.neAround | exact Mine.neShared | infer_instance))
  generalize Mine.A1 _ = p; generalize Mine.A2 _ = loose; generalize Mine.A3 _ = mean; generalize Mine.A4 _ = mg; generalize Mine.A5 _ = mb; generalize Mine.A6 _ = dp; generalize Mine.A7 _ = un; generalize Mine.A8 _ = gd; generalize Mine.A9 _ = cn; generalize Mine.A10 _ = cs; generalize Mine.A11 _ = a; generalize Mine.A12 _ = ccd; generalize Mine.A13 _ = cl; generalize Mine.A14 _ = outer; generalize Mine.A15 _ = A₀; generalize Mine.A16 _ = base; generalize Mine.A17 _ = h₀; generalize Mine.A18 _ = L; generalize Mine.A19 _ = m; generalize Mine.A20 _ = Q; generalize Mine.A21 _ = E
  intro uHk
  clear uHk
  intro B F X T hk hdp hun hret
  refine wpAny_call ?_
  (k_dflt (refine' Mine.enterRO ?k1ₘ ?k2ₘ ?k3ₘ ?k5ₘ ?kAₘ ?kFₘ ?kKₘ ?k6ₘ ?k7ₘ ?k8ₘ ?k9ₘ ?kBₘ ?_ ?c2ₘ ?c3ₘ ?c4ₘ ?c5ₘ; (case kAₘ => exact rfl); (case kFₘ => exact rfl); (case kKₘ => assumption); (case k1ₘ => k_asm); (case k2ₘ => k_asm); (case k3ₘ => k_asm); (case k5ₘ => k_asm); (case k6ₘ => k_is); (case k7ₘ => k_is); (case k8ₘ => ktr_room); (case k9ₘ => first | exact BindsTo.of_eq rfl | exact binds_K (by k_in) rfl (by k_is) rfl rfl rfl); (case c5ₘ => decide); (case kBₘ => exact locs rfl); (case c2ₘ => exact rfl); (case c3ₘ => exact rfl); (case c4ₘ => exact rfl); k_whole); intro L'ₘ h'ₘ F'ₘ N'ₘ B'ₘ X'ₘ T'ₘ; (try dsimp only); (try k_fold))
  (refine (let Akₘ : PySem.Around := _; (?_ : wpAny _ Akₘ _ _ _ _)))
  (repeat' (first | (k_unfold; (try dsimp only)) | ((fail_if_success (with_reducible (refine Mine.stp 2 ?_ ?_; (focus ((repeat' constructor); done))))); (first | (k_end; wrow_close) | (first | (k_here; (with_reducible show wpAny _ _ (subscriptTail _ (PySem.Expr.Slice none none none _) (Value.ref _) (Value.ref _)) _ _ _); k_dflt (refine' kms_slice_lit (by k_asm) (by k_asm) (by exact Mine.list_base (by k_asm) (by assumption)) (by kmk_part) (by kmk_part) (by exact Mine.pick_all _) ?_ (by with_unfolding_all rfl) (by kmk_pure) ?zₘ; (case zₘ => rw [sizeLine_eq]; simp; lia)); intro D'ₘ h'ₘ F'ₘ N'ₘ l1ₘ; (try k_lt l1ₘ); (try k_sweep)) | walk1) | (dsimp only; (first | walk1 | skip)))) | ((fail_if_success (with_reducible show wpAny _ _ _ _ _ _)); dsimp only [Mine.MyPost]) | (leave1; try dsimp only) | fail "no step"))
  (with_reducible rename Fr _ _ _ _ => F9)
  have hg := fun p (hp : p ∈ tupLed s.heap vs) => tupLed_get hp
  have FN := And.intro (fr_hidden ((tupLed s.heap vs).map (·.1)) F9) (news_hidden F9 hg)
  have hlH : (hideAll s.heap ((tupLed s.heap vs).map (·.1))).IsList l vs.toArray := ⟨_, hideAll_get _ hl (fun q => by
    (refine (let Gk : Prop := _; (?_ : Gk)))
    obtain ⟨p, hp, e⟩ := List.mem_map.mp q
    have h1 := hg p hp
    have h2 := tupLed_cls hT p hp
    rw [e, hl] at h1
    rw [← Option.some.inj h1] at h2
    ((show Gk); k_unfold; clear Gk)
    exact absurd h2 (by show Value.type "list" ≠ Value.type "tuple"; decide)), rfl, n, rfl⟩
  k_dflt (refine LCp.ListComp_P (F₀ := FN.1) (by with_unfolding_all rfl) (by decide) (by rfl) (by decide) (by rfl) (by rfl) (by decide) ?_)
  (repeat' (first | (k_unfold; (try dsimp only)) | ((fail_if_success (with_reducible (refine Mine.stp 2 ?_ ?_; (focus ((repeat' constructor); done))))); (first | (k_end; wrow_close) | (first | (k_here; (with_reducible show wpAny _ _ (subscriptTail _ (PySem.Expr.Slice none none none _) (Value.ref _) (Value.ref _)) _ _ _); k_dflt (refine' kms_slice_lit (by k_asm) (by k_asm) (by exact Mine.list_base (by k_asm) (by assumption)) (by kmk_part) (by kmk_part) (by exact Mine.pick_all _) ?_ (by with_unfolding_all rfl) (by kmk_pure) ?zₘ; (case zₘ => rw [sizeLine_eq]; simp; lia)); intro D'ₘ h'ₘ F'ₘ N'ₘ l1ₘ; (try k_lt l1ₘ); (try k_sweep)) | walk1) | (dsimp only; (first | walk1 | skip)))) | ((fail_if_success (with_reducible show wpAny _ _ _ _ _ _)); dsimp only [Mine.MyPost]) | (leave1; try dsimp only) | fail "no step"))
  refine LCp.SrcLP.base rfl FN.1 FN.2 hlH (by rw [sizeLine_eq]; simp; lia) fun g => compRestP_of vs.length (fun i ys news => news = tupLed s.heap vs ∧ Strs ys ((items.take i).map (·.2))) ?_ ?_ vs.length 0 [] _ (by simp) ⟨rfl, .nil⟩
  · intro i ys news hi hJ14 v hv
    (refine (let Gk : Prop := _; (?_ : Gk)))
    obtain ⟨rfl, hys⟩ := hJ14
    obtain ⟨a, k, z, t, u, nt, rfl, hkv, ha⟩ := hT.at (by simpa using hv)
    ((show Gk); k_unfold; clear Gk)
    refine ⟨a, _, _, _, nt, rfl, tupLed_mem (List.mem_of_getElem? (by simpa using hv)) ha, rfl, rfl, ?_⟩
    intro I oI C oC D m₂ h tk2 E' hC hx1 hx2 F2 N2 off ne
    clear FN F9
    (repeat' (first | (k_unfold; (try dsimp only)) | ((fail_if_success (with_reducible (refine Mine.stp 2 ?_ ?_; (focus ((repeat' constructor); done))))); (first | (k_end; wrow_close) | (first | (k_here; (with_reducible show wpAny _ _ (subscriptTail _ (PySem.Expr.Slice none none none _) (Value.ref _) (Value.ref _)) _ _ _); k_dflt (refine' kms_slice_lit (by k_asm) (by k_asm) (by exact Mine.list_base (by k_asm) (by assumption)) (by kmk_part) (by kmk_part) (by exact Mine.pick_all _) ?_ (by with_unfolding_all rfl) (by kmk_pure) ?zₘ; (case zₘ => rw [sizeLine_eq]; simp; lia)); intro D'ₘ h'ₘ F'ₘ N'ₘ l1ₘ; (try k_lt l1ₘ); (try k_sweep)) | walk1) | (dsimp only; (first | walk1 | skip)))) | ((fail_if_success (with_reducible show wpAny _ _ _ _ _ _)); dsimp only [Mine.MyPost]) | (leave1; try dsimp only) | fail "no step"))
    refine ⟨_, _, _, rfl, F2, N2, off, .inl hlH, rfl, ?_⟩
    rw [List.take_add_one, hkv]
    simpa using hys.snoc
  · intro ys news hJ15
    (refine (let Gk : Prop := _; (?_ : Gk)))
    obtain ⟨rfl, hys⟩ := hJ15
    ((show Gk); k_unfold; clear Gk)
    intro D h tk2 F2 N2 o1
    have F3 := fr_shown hg F2 N2 fun p hp => List.mem_cons_of_mem _ hp
    have hD := N2 _ (.head _)
    refine hret _ _ _ (fun b ob e => F3.keep b ob e) ⟨D, ys, rfl, ?_, ?_, hD.1⟩
    · rwa [hT.len, List.take_length] at hys
    · cases e : s.heap.get? D with
      | none => rfl
      | some o =>
        have e2 := (F3.keep _ _ e).symm.trans hD.1
        have e3 : (hideAll s.heap ((tupLed s.heap vs).map (·.1))).get? D = some o := hideAll_get _ e fun q => by
          (refine (let Gk : Prop := _; (?_ : Gk)))
          obtain ⟨p, hp, e4⟩ := List.mem_map.mp q
          have h1 := hg p hp
          have h2 := tupLed_cls hT p hp
          rw [e4, e, e2] at h1
          rw [← Option.some.inj h1] at h2
          ((show Gk); k_unfold; clear Gk)
          exact absurd h2 (by show Value.type "list" ≠ Value.type "tuple"; decide)
        exact absurd (hD.2.2.symm.trans e3) (fun z => nomatch z)
end Mine
namespace Mine
open PySem PySem.W PySem.Calls PyProof.Rows
theorem RO_use {w : World} {d : Nat} {f : Addr} {vs : List Value} {kw : List (Str × Value)} {s : Shared} {R : Value → Heap → Prop} (hc : RO w d f vs kw s R)
    {p : Program} {loose : List Str} {mean : ExcName → Option Value} {mg mb : Str → Option Value} {dp un : Nat} {gd : Option (List Code)} {cn : Str} {cs : Scope} {a : Addr} {ccd : Value} {cl : List (Str × Addr)} {outer : List Env} {A₀ : Around} {base h₀ : Heap} {L : Addr} {m : Str → Option Value} {Q E : Value → Shared → Prop} {news : Led}
    (B : Below A₀ base outer h₀) (F : Fr h₀ L s.heap m) (X : (hd.heap_39 w.params).In h₀) (T : Top p loose mean mg mb h₀) (hk : cs.kind = .function) (hdp : dp + d < recursionLimit) (hun : un + 20 * d < cLine) (N : News h₀ L s.heap news)
    (k : ∀ v h' tk', Fr h₀ L h' m → News h₀ L h' news → (∀ b o, s.heap.get? b = some o → h'.get? b = some o) → R v h' → Q v { s with heap := h', toks := tk' }) :
    wpAny (model PySem.Challenge.pw_rt0090_01 w) (ktrTop dp un gd cn cs L a ccd cl outer) (call (.ref f) vs kw) Q E s :=
  hc B F X T hk hdp hun fun v h' tk' kp r => k v h' tk' (fr_keeps F kp) (news_keeps N kp) kp r
inductive TabLed (tups : Led) : List Value → List (Str × Str) → Prop
  | nil : TabLed tups [] []
  | cons {a : Addr} {k v : Str} {t u : Tok} {n : Nat} {vs : List Value} {items : List (Str × Str)} : (a, ({ cls := .type "tuple", data := .seq #[.str k t, .str v u] n } : Obj)) ∈ tups → TabLed tups vs items → TabLed tups (.ref a :: vs) ((k, v) :: items)
theorem TabLed.len {tups : Led} {vs : List Value} {items : List (Str × Str)} (H : TabLed tups vs items) : vs.length = items.length := by
  induction H with
  | nil => rfl
  | cons _ _ ih => exact congrArg (· + 1) ih
theorem TabLed.mono {tups tups' : Led} (k : ∀ p ∈ tups, p ∈ tups') {vs : List Value} {items : List (Str × Str)} (H : TabLed tups vs items) : TabLed tups' vs items := by
  induction H with
  | nil => exact .nil
  | cons ha _ ih => exact .cons (k _ ha) ih
theorem TabLed.snoc {tups : Led} {a : Addr} {k v : Str} {t u : Tok} {n : Nat} (ha : (a, ({ cls := .type "tuple", data := .seq #[.str k t, .str v u] n } : Obj)) ∈ tups) {vs : List Value} {items : List (Str × Str)} (H : TabLed tups vs items) : TabLed tups (vs ++ [.ref a]) (items ++ [(k, v)]) := by
  induction H with
  | nil => exact .cons ha .nil
  | cons hb _ ih => exact .cons hb ih
theorem TabLed.items {h₀ h : Heap} {L : Addr} {tups news : Led} (N : News h₀ L h news) (hs : ∀ p ∈ tups, p ∈ news) {vs : List Value} {items : List (Str × Str)} (H : TabLed tups vs items) : TabItems h vs items := by
  induction H with
  | nil => exact .nil
  | cons ha _ ih => exact .cons (N _ (hs _ ha)).1 ih
noncomputable def upF (sh way : Str) : Nat → Str × Str
  | 0 => (way, dirF way)
  | k + 1 => if (upF sh way k).2 ≠ sh then ((upF sh way k).2, dirF (upF sh way k).2) else upF sh way k
noncomputable def tblNm (cp : Str → Str) (turn : Nat) (way : Str) : Str := if turn % 2 = 1 then (upF (cp way) way 3).1 else Txt.lower (upF (cp way) way 3).1
noncomputable def tblStep (cp : Str → Str) (mine : Str) (st : List (Str × Str) × List Str) (turn : Nat) (way : Str) : List (Str × Str) × List Str :=
  if way = mine then st else
  match lookF st.1 (tblNm cp turn way) with
  | some z => (st.1, st.2 ++ [z])
  | none => (st.1 ++ [(tblNm cp turn way, way)], st.2 ++ [way])
noncomputable def tblAt (cp : Str → Str) (mine : Str) (ws : List Str) : Nat → List (Str × Str) × List Str
  | 0 => ([], [])
  | i + 1 => match ws[i]? with
    | some way => tblStep cp mine (tblAt cp mine ws i) i way
    | none => tblAt cp mine ws i
theorem upF_good {G : Str → Prop} (hG : ∀ x, G x → Plain x ∧ x.length ≤ 40 ∧ G (dirF x)) {sh way : Str} (h : G way) : ∀ k, G (upF sh way k).1 ∧ G (upF sh way k).2 := by
  intro k
  induction k with
  | zero => exact ⟨h, (hG _ h).2.2⟩
  | succ k ih =>
    unfold upF
    split
    · exact ⟨ih.2, (hG _ ih.2).2.2⟩
    · exact ih
end Mine
namespace Mine
open PySem PySem.W
theorem with_led5 {h₀ h : Heap} {L a1 a2 a3 a4 a5 : Addr} {o1 o2 o3 o4 o5 : Obj} {P : Prop} (_ : News h₀ L h [(a1, o1), (a2, o2), (a3, o3), (a4, o4), (a5, o5)]) (k : ∀ b1 b2 b3 b4 b5 : Addr, b1 = a1 → b2 = a2 → b3 = a3 → b4 = a4 → b5 = a5 → P) : P := k a1 a2 a3 a4 a5 rfl rfl rfl rfl rfl
theorem with_tok {h₀ h : Heap} {L a1 a2 a3 a4 a5 : Addr} {o1 o2 o3 o4 : Obj} {ha : Int} {x : Str} {v : Value} {tk : Tok} {P : Prop} (_ : News h₀ L h [(a1, o1), (a2, o2), (a3, o3), (a4, o4), (a5, dictOf [{ hash := ha, key := .str x tk, val := v }] 1)]) (k : ∀ tk', tk' = tk → P) : P := k tk rfl
theorem Strs.get_len {vs : List Value} {xs : List Str} (h : Strs vs xs) {i : Nat} {v : Value} (e : vs[i]? = some v) : i < xs.length := by
  rw [← h.len]
  rcases Nat.lt_or_ge i vs.length with q | q
  · exact q
  · rw [List.getElem?_eq_none q] at e; cases e
end Mine
namespace Mine
open PySem PySem.W
theorem news_tail {h₀ h : Heap} {L : Addr} {p : Addr × Obj} {r : Led} (N : News h₀ L h (p :: r)) : News h₀ L h r := fun q hq => N q (.tail _ hq)
end Mine
namespace Mine
open PySem PySem.W PySem.Calls PyProof.Rows
theorem with_news {h₀ h : Heap} {L : Addr} {news : Led} {P : Prop} (_ : News h₀ L h news) (k : ∀ n', n' = news → P) : P := k news rfl
theorem fr_but1 {h₀ h h' : Heap} {L l : Addr} {m : Str → Option Value} (F : Fr h₀ L h m) (hl0 : h₀.get? l = none) (hlL : l ≠ L) (k : ∀ b o, b ≠ l → h.get? b = some o → h'.get? b = some o) : Fr h₀ L h' m :=
  ⟨F.ns.at' fun o e => k _ _ (Ne.symm hlL) e, fun b o e => k b o (fun q => by rw [q, hl0] at e; cases e) (F.keep b o e), F.above⟩
theorem news_but1 {h₀ h h' : Heap} {L l : Addr} {news : Led} (N : News h₀ L h news) (hoff : ∀ p ∈ news, p.1 ≠ l) (k : ∀ b o, b ≠ l → h.get? b = some o → h'.get? b = some o) : News h₀ L h' news := fun p hp => ⟨k _ _ (hoff p hp) (N p hp).1, (N p hp).2⟩
theorem news_put {h₀ h : Heap} {L a : Addr} {o : Obj} {news : Led} (h1 : h.get? a = some o) (h2 : a ≠ L) (h3 : h₀.get? a = none) (N : News h₀ L h news) : News h₀ L h ((a, o) :: news) := fun p hp => by
  rcases List.mem_cons.mp hp with rfl | hp
  · exact ⟨h1, h2, h3⟩
  · exact N p hp
theorem news_sub {h₀ h : Heap} {L : Addr} {news news' : Led} (N : News h₀ L h news) (hs : ∀ p ∈ news', p ∈ news) : News h₀ L h news' := fun p hp => N p (hs p hp)
theorem base_none {h₀ h : Heap} {L a : Addr} {m : Str → Option Value} (F : Fr h₀ L h m) (ha : h.get? a = none) : h₀.get? a = none := by
  cases e : h₀.get? a with
  | none => rfl
  | some o => exact absurd ((F.keep _ _ e).symm.trans ha) (fun z => nomatch z)
end Mine
namespace Mine
theorem fmod2_odd {i : Nat} (h : (i : Int).fmod 2 ≠ 0) : i % 2 = 1 := by
  rw [Int.fmod_eq_emod_of_nonneg _ (by decide)] at h
  lia
theorem fmod2_even {i : Nat} (h : (i : Int).fmod 2 = 0) : i % 2 ≠ 1 := by
  rw [Int.fmod_eq_emod_of_nonneg _ (by decide)] at h
  lia
end Mine
namespace Mine
open PySem PySem.W PySem.Calls PyProof.Rows
theorem off_cls {h₀ h : Heap} {L b : Addr} {o : Obj} {news : Led} {p : Addr × Obj} (N : News h₀ L h news) (hp : p ∈ news) (hq : (b, o) ∈ news) (hc : p.2.cls ≠ o.cls) : p.1 ≠ b := cls_ne (N _ hp).1 (N _ hq).1 hc
end Mine
namespace Mine
open PySem PySem.W PySem.Calls PyProof.Rows
theorem append_headL {prog : Program} {w : World} {A : Around} {E : Value → Shared → Prop} {s : Shared} {h₀ : Heap} {L D : Addr} {m : Str → Option Value} {ys : List Value} {n : Nat} {x : Value} {rest : Led} {Q : Value → Shared → Prop}
    (F : Fr h₀ L s.heap m) (N : News h₀ L s.heap ((D, { cls := .type "list", data := .seq ys.toArray n }) :: rest)) (hap : ∀ p ∈ rest, p.1 ≠ D) (hsz : ys.length ≤ 100)
    (h : ∀ h', Fr h₀ L h' m → News h₀ L h' ((D, { cls := .type "list", data := .seq (List.toArray (ys ++ [x])) (n + 1) }) :: rest) → Q .none { s with heap := h' }) :
    wpAny (model prog w) A (call (.builtin "list.append") [.ref D, x]) Q E s :=
  append_head F N hap (fun h' F' N' => h h' F' (by rwa [List.push_toArray] at N')) (by rw [sizeLine_eq]; simp; lia)
end Mine
namespace Mine
open PySem PySem.W PySem.Calls PyProof.Rows
theorem fr_ne {h₀ h : Heap} {L a : Addr} {m : Str → Option Value} (F : Fr h₀ L h m) (ha : h.get? a = none) : a ≠ L := fun q => by
  (refine (let Gk : Prop := _; (?_ : Gk)))
  obtain ⟨oL, es, ep, hL, _⟩ := F.ns
  rw [q, hL] at ha
  ((show Gk); k_unfold; clear Gk)
  cases ha
theorem get_ne {h : Heap} {a b : Addr} {o : Obj} (ha : h.get? a = none) (hb : h.get? b = some o) : a ≠ b := fun q => by
  rw [q, hb] at ha
  cases ha
end Mine
theorem Mine.off8 : True := by w_top off; trivial
namespace Mine
open PySem PySem.W PySem.Calls PyProof.Rows
theorem c_table (w : World) (s : Shared) (mine : Str) (t : Tok) (o : Addr) (vs : List Value) (ws : List Str) (n : Nat) (ho : s.heap.get? o = some { cls := .type "list", data := .seq vs.toArray n }) (hws : Strs vs ws) (hlen : ws.length ≤ 20)
    (G : Str → Prop) (hG : ∀ x, G x → Plain x ∧ x.length ≤ 40 ∧ G (dirF x)) (hm : mine.length ≤ 40) (hw : ∀ x ∈ ws, G x) (cp : Str → Str)
    (hcp : ∀ way ∈ ws, way ≠ mine → (cp way).length ≤ 40 ∧ ∀ (s : Shared) (l : Addr) (n : Nat) (t u : Tok), s.heap.get? l = some { cls := .type "list", data := .seq #[.str mine t, .str way u] n } → RO w 20 304 [.ref l] [] s (fun v _ => ∃ t, v = .str (cp way) t)) :
    RO w 24 311 [.str mine t, .ref o] [] s (fun v h' => ∃ D x T l d tk tvs n1 ovs n2, v = .ref D ∧ s.heap.get? D = none ∧ s.heap.get? x = none ∧ s.heap.get? T = none ∧ s.heap.get? l = none ∧ s.heap.get? d = none ∧ T ≠ l ∧
      h'.get? D = some { cls := .type "tuple", data := .seq #[.ref x, .ref T] } ∧ h'.get? x = some (instObj 171 d) ∧ h'.get? d = some (dictOf [{ hash := PyData.keyHash w.params "_headers", key := .str "_headers" tk, val := .ref l }] 1) ∧
      h'.get? l = some { cls := .type "list", data := .seq (List.toArray tvs) n1 } ∧ (∃ tups : Led, TabLed tups tvs (tblAt cp mine ws ws.length).1 ∧ ∀ p ∈ tups, h'.get? p.1 = some p.2 ∧ s.heap.get? p.1 = none ∧ p.2.cls = .type "tuple") ∧ h'.get? T = some { cls := .type "list", data := .seq (List.toArray ovs) n2 } ∧ Strs ovs (tblAt cp mine ws ws.length).2) := by
  revert ho hws hlen hG hm hw hcp
  revert w s mine t o vs ws n G cp
  iterate 2 refine no_implicit_lambda% (Mine.pad1 ?_)
  refine' no_implicit_lambda% (Mine.hk12 ?ne ?_)
  case ne => (repeat' (first | (refine Mine.nePair ?_ ?_) | exact Mine.neWorld | exact Mine.neAround | exact Mine.neShared | infer_instance))
  generalize Mine.A3 _ = w; generalize Mine.A4 _ = s; generalize Mine.A5 _ = mine; generalize Mine.A6 _ = t; generalize Mine.A7 _ = o; generalize Mine.A8 _ = vs; generalize Mine.A9 _ = ws; generalize Mine.A10 _ = n; generalize Mine.A11 _ = G; generalize Mine.A12 _ = cp
  intro uHk
  clear uHk
  intro ho hws hlen hG hm hw hcp
  refine' no_implicit_lambda% (Mine.hk21 ?ne ?_)
  case ne => (repeat' (first | (refine Mine.nePair ?_ ?_) | exact Mine.neWorld | exact Mine.neAround | exact Mine.neShared | infer_instance))
  generalize Mine.A1 _ = p; generalize Mine.A2 _ = loose; generalize Mine.A3 _ = mean; generalize Mine.A4 _ = mg; generalize Mine.A5 _ = mb; generalize Mine.A6 _ = dp; generalize Mine.A7 _ = un; generalize Mine.A8 _ = gd; generalize Mine.A9 _ = cn; generalize Mine.A10 _ = cs; generalize Mine.A11 _ = a; generalize Mine.A12 _ = ccd; generalize Mine.A13 _ = cl; generalize Mine.A14 _ = outer; generalize Mine.A15 _ = A₀; generalize Mine.A16 _ = base; generalize Mine.A17 _ = h₀; generalize Mine.A18 _ = L; generalize Mine.A19 _ = m; generalize Mine.A20 _ = Q; generalize Mine.A21 _ = E
  intro uHk
  clear uHk
  intro B F X T hk hdp hun hret
  refine wpAny_call ?_
  (k_dflt (refine' Mine.enterRO ?k1ₘ ?k2ₘ ?k3ₘ ?k5ₘ ?kAₘ ?kFₘ ?kKₘ ?k6ₘ ?k7ₘ ?k8ₘ ?k9ₘ ?kBₘ ?_ ?c2ₘ ?c3ₘ ?c4ₘ ?c5ₘ; (case kAₘ => exact rfl); (case kFₘ => exact rfl); (case kKₘ => assumption); (case k1ₘ => k_asm); (case k2ₘ => k_asm); (case k3ₘ => k_asm); (case k5ₘ => k_asm); (case k6ₘ => k_is); (case k7ₘ => k_is); (case k8ₘ => ktr_room); (case k9ₘ => first | exact BindsTo.of_eq rfl | exact binds_K (by k_in) rfl (by k_is) rfl rfl rfl); (case c5ₘ => decide); (case kBₘ => exact locs rfl); (case c2ₘ => exact rfl); (case c3ₘ => exact rfl); (case c4ₘ => exact rfl); k_whole); intro L'ₘ h'ₘ F'ₘ N'ₘ B'ₘ X'ₘ T'ₘ; (try dsimp only); (try k_fold))
  (refine (let Akₘ : PySem.Around := _; (?_ : wpAny _ Akₘ _ _ _ _)))
  (repeat' (first | (k_unfold; (try dsimp only)) | ((fail_if_success (with_reducible (refine Mine.stp 1 ?_ ?_; (focus ((repeat' constructor); done))))); (first | (k_end; wrow_close) | walk1 | (dsimp only; walk1))) | ((fail_if_success (with_reducible show wpAny _ _ _ _ _ _)); dsimp only [Mine.MyPost]) | (leave1; try dsimp only) | fail "no step"))
  walk1
  (repeat' (first | (k_unfold; (try dsimp only)) | ((fail_if_success (with_reducible (refine Mine.stp 1 ?_ ?_; (focus ((repeat' constructor); done))))); (first | (k_end; wrow_close) | walk1 | (dsimp only; walk1))) | ((fail_if_success (with_reducible show wpAny _ _ _ _ _ _)); dsimp only [Mine.MyPost]) | (leave1; try dsimp only) | fail "no step"))
  (with_reducible rename News _ _ _ _ => N1)
  (with_reducible rename Fr _ _ _ _ => F1)
  refine with_tok N1 fun tk0 etk => ?_
  refine with_led5 N1 fun D0 T0 l0 x0 d0 e1 e2 e3 e4 e5 => ?_
  (refine (let Gk : Prop := _; (?_ : Gk)))
  subst e1 e2 e3 e4 e5
  rw [← etk] at N1
  clear etk
  have hTl : T0 ≠ l0 := fun q => by
    rename (@LT.lt Nat _ l0 T0 ∧ _) => q1
    exact absurd q1.1 (q ▸ Nat.lt_irrefl _)
  have N2 := news_tail N1
  clear N1
  ((show Gk); k_unfold; clear Gk)
  (refine PySem.wpAny_For ?_ (by first | (intro _; rfl) | (intro xₘ; rfl)))
  (repeat' (first | (k_unfold; (try dsimp only)) | ((fail_if_success (with_reducible (refine Mine.stp 1 ?_ ?_; (focus ((repeat' constructor); done))))); (first | (k_end; wrow_close) | walk1 | (dsimp only; walk1))) | ((fail_if_success (with_reducible show wpAny _ _ _ _ _ _)); dsimp only [Mine.MyPost]) | (leave1; try dsimp only) | fail "no step"))
  refine enum_make F1 N2 ho ?_
  intro h1 e it he hit hei he0 hi0 heL hiL hnew F3 N3
  clear F1 N2
  (repeat' (first | (k_unfold; (try dsimp only)) | ((fail_if_success (with_reducible (refine Mine.stp 1 ?_ ?_; (focus ((repeat' constructor); done))))); (first | (k_end; wrow_close) | walk1 | (dsimp only; walk1))) | ((fail_if_success (with_reducible show wpAny _ _ _ _ _ _)); dsimp only [Mine.MyPost]) | (leave1; try dsimp only) | fail "no step"))
  refine (let m1 : PySem.Str → Option Value := _; (fun (F3 : Fr _ _ _ m1) => (?_ : _)) F3)
  have em : m1 = m1 := rfl
  have et : m1 "table" = some (.ref x0) := (congrFun em _).trans (by rfl)
  have eT : m1 "told" = some (.ref T0) := (congrFun em _).trans (by rfl)
  refine iter_enum (fun i m news => (∃ u1 u2 u3 u4 u5 u6, m = fun (y : Str) => if y = "turn" then u1 else if y = "way" then u2 else if y = "shared" then u3 else if y = "folder" then u4 else if y = "above" then u5 else if y = "step" then u6 else m1 y) ∧
    ∃ ovs n1 tvs n2 tups, news = (T0, { cls := .type "list", data := .seq (List.toArray ovs) n1 }) :: (l0, { cls := .type "list", data := .seq (List.toArray tvs) n2 }) :: (x0, instObj 171 d0) :: (d0, dictOf [{ hash := PyData.keyHash w.params "_headers", key := .str "_headers" tk0, val := .ref l0 }] 1) :: tups ∧
      Strs ovs (tblAt cp mine ws i).2 ∧ TabLed tups tvs (tblAt cp mine ws i).1 ∧ (∀ p ∈ tups, p.2.cls = .type "tuple") ∧ tvs.length ≤ i ∧ ovs.length ≤ i ∧ ∀ kv ∈ (tblAt cp mine ws i).1, kv.1.length ≤ 40)
    rfl ⟨_, ho, rfl, n, rfl⟩ he hit hei he0 hi0 heL hiL hnew F3 N3 ?_ ?_ ?_
  · refine ⟨⟨_, _, _, _, _, _, em.symm.trans (with_m6 rfl rfl rfl rfl rfl rfl)⟩, [], _, [], _, [], rfl, .nil, .nil, (fun _ h => nomatch h), Nat.zero_le _, Nat.zero_le _, (fun _ h => nomatch h)⟩
  · intro i v m₂ news₂ h2 tk2 oe oi T t2 hv hJ16 hnI F2 N2
    (refine (let Gk : Prop := _; (?_ : Gk)))
    obtain ⟨⟨u1, u2, u3, u4, u5, u6, rfl⟩, ovs, n1, tvs, n2, tups, rfl, hO, hTT, hcls, hl1, hl2, hk40⟩ := hJ16
    obtain ⟨way, tw, rfl, hway⟩ := hws.at hv
    have hi : i < ws.length := hws.get_len hv
    have hmem : way ∈ ws := List.mem_of_getElem? hway
    obtain ⟨hwp, hw40, hwd⟩ := hG _ (hw _ hmem)
    have hstep : tblAt cp mine ws (i + 1) = tblStep cp mine (tblAt cp mine ws i) i way := by rw [tblAt, hway]
    clear F3 N3 he hit et eT
    clear em
    try dsimp only [envOf] at F2 N2
    ((show Gk); k_unfold; clear Gk)
    (show wpAny _ _ _ _ _ _)
    k_fold
    (repeat' (first | (k_unfold; (try dsimp only)) | ((fail_if_success (with_reducible (refine Mine.stp 3 ?_ ?_; (focus ((repeat' constructor); done))))); (first | (k_end; wrow_close) | walk1 | (dsimp only; walk1))) | ((fail_if_success (with_reducible show wpAny _ _ _ _ _ _)); dsimp only [Mine.MyPost]) | (leave1; try dsimp only) | fail "no step"))
    · rename (way != mine) = true => hne
      have hne' : way ≠ mine := by simpa using hne
      ((with_reducible rename News _ _ _ _ => Nz); (with_reducible rename Fr _ _ _ _ => Fz); (k_dflt (refine' Mine.RO_use ((hcp way hmem hne').2 _ _ _ _ _ (News.get Nz (by k_mem))) ?k1ₘ ?k2ₘ ?k3ₘ ?k5ₘ ?k6ₘ ?k7ₘ ?k8ₘ ?kNₘ ?_; (case k1ₘ => k_asm); (case k2ₘ => k_asm); (case k3ₘ => k_asm); (case k5ₘ => k_asm); (case k6ₘ => first | exact rfl | assumption); (case k7ₘ => ktr_room); (case k8ₘ => ktr_units); (case kNₘ => k_asm); k_whole)); intro v9 h9 tk9 F9 N9 k9 e9; clear Fz Nz)
      obtain ⟨t5, rfl⟩ := e9
      clear k9
      have hcl := (hcp way hmem hne').1
      (repeat' (first | (k_unfold; (try dsimp only)) | ((fail_if_success (with_reducible (refine Mine.stp 3 ?_ ?_; (focus ((repeat' constructor); done))))); (first | (k_end; wrow_close) | walk1 | (dsimp only; walk1))) | ((fail_if_success (with_reducible show wpAny _ _ _ _ _ _)); dsimp only [Mine.MyPost]) | (leave1; try dsimp only) | fail "no step"))
      ((with_reducible rename News _ _ _ _ => Nz); (with_reducible rename Fr _ _ _ _ => Fz); (k_dflt (refine' Mine.RO_use (c_dirname w _ _ _ hw40) ?k1ₘ ?k2ₘ ?k3ₘ ?k5ₘ ?k6ₘ ?k7ₘ ?k8ₘ ?kNₘ ?_; (case k1ₘ => k_asm); (case k2ₘ => k_asm); (case k3ₘ => k_asm); (case k5ₘ => k_asm); (case k6ₘ => first | exact rfl | assumption); (case k7ₘ => ktr_room); (case k8ₘ => ktr_units); (case kNₘ => k_asm); k_whole)); intro v9 h9 tk9 F9 N9 k9 e9; clear Fz Nz)
      obtain ⟨t6, rfl⟩ := e9
      clear k9
      (repeat' (first | (k_unfold; (try dsimp only)) | ((fail_if_success (with_reducible (refine Mine.stp 3 ?_ ?_; (focus ((repeat' constructor); done))))); (first | (k_end; wrow_close) | walk1 | (dsimp only; walk1))) | ((fail_if_success (with_reducible show wpAny _ _ _ _ _ _)); dsimp only [Mine.MyPost]) | (leave1; try dsimp only) | fail "no step"))
      (refine PySem.wpAny_For ?_ (by first | (intro _; rfl) | (intro xₘ; rfl)))
      (repeat' (first | (k_unfold; (try dsimp only)) | ((fail_if_success (with_reducible (refine Mine.stp 3 ?_ ?_; (focus ((repeat' constructor); done))))); (first | (k_end; wrow_close) | walk1 | (dsimp only; walk1))) | ((fail_if_success (with_reducible show wpAny _ _ _ _ _ _)); dsimp only [Mine.MyPost]) | (leave1; try dsimp only) | fail "no step"))
      (with_reducible rename Fr _ _ _ _ => F6)
      (with_reducible rename News _ _ _ _ => N6)
      refine (let m3 : PySem.Str → Option Value := _; (fun (F6 : Fr _ _ _ m3) => (?_ : _)) F6)
      have em3 : m3 = m3 := rfl
      have N7 := news_tail (news_tail N6)
      refine with_news N7 fun NN eN => ?_
      rw [← eN] at N7
      have hG3 := upF_good hG (sh := cp way) (hw _ hmem)
      refine iter_range (n := 3) (fun k m news => (∃ us fo ab tf ta, m = (fun (y : Str) => if y = "folder" then some (.str fo tf) else if y = "above" then some (.str ab ta) else if y = "step" then us else m3 y) ∧ (fo, ab) = upF (cp way) way k) ∧ news = NN)
        rfl (by assumption) (by decide) (by decide) F6 N7 ?_ ?_ ?_
      · refine ⟨⟨_, _, _, _, _, em3.symm.trans (with_m3 (a := "folder") (b := "above") (c := "step") ((congrFun em3 _).trans (by rfl)) ((congrFun em3 _).trans (by rfl)) rfl), rfl⟩, rfl⟩
      · intro k tt m₄ news₄ h3 tk3 I o4 hk3 hJ17 hoff F8 N8
        (refine (let Gk : Prop := _; (?_ : Gk)))
        obtain ⟨⟨us, fo, ab, tf, ta, rfl, hup⟩, rfl⟩ := hJ17
        have hab : ab.length ≤ 40 := by
          have := (hG _ (hG3 k).2).2.1
          rwa [← hup] at this
        clear F6 N6 N7
        subst eN
        clear em3
        try dsimp only [envOf] at F8 N8
        ((show Gk); k_unfold; clear Gk)
        (show wpAny _ _ _ _ _ _)
        k_fold
        (repeat' (first | (k_unfold; (try dsimp only)) | ((fail_if_success (with_reducible (refine Mine.stp 3 ?_ ?_; (focus ((repeat' constructor); done))))); (first | (k_end; wrow_close) | walk1 | (dsimp only; walk1))) | ((fail_if_success (with_reducible show wpAny _ _ _ _ _ _)); dsimp only [Mine.MyPost]) | (leave1; try dsimp only) | fail "no step"))
        · rename (ab != cp way) = true => hne2
          ((with_reducible rename News _ _ _ _ => Nz); (with_reducible rename Fr _ _ _ _ => Fz); (k_dflt (refine' Mine.RO_use (c_dirname w _ _ _ hab) ?k1ₘ ?k2ₘ ?k3ₘ ?k5ₘ ?k6ₘ ?k7ₘ ?k8ₘ ?kNₘ ?_; (case k1ₘ => k_asm); (case k2ₘ => k_asm); (case k3ₘ => k_asm); (case k5ₘ => k_asm); (case k6ₘ => first | exact rfl | assumption); (case k7ₘ => ktr_room); (case k8ₘ => ktr_units); (case kNₘ => k_asm); k_whole)); intro v9 h9 tk9 F9 N9 k9 e9; clear Fz Nz)
          obtain ⟨t7, rfl⟩ := e9
          clear k9
          (repeat' (first | (k_unfold; (try dsimp only)) | ((fail_if_success (with_reducible (refine Mine.stp 3 ?_ ?_; (focus ((repeat' constructor); done))))); (first | (k_end; wrow_close) | walk1 | (dsimp only; walk1))) | ((fail_if_success (with_reducible show wpAny _ _ _ _ _ _)); dsimp only [Mine.MyPost]) | (leave1; try dsimp only) | fail "no step"))
          refine MyEnd.intro (by assumption) (by assumption) ⟨⟨_, _, _, _, _, by exact Mine.map3 (a := "folder") (b := "above") (c := "step") (by (repeat (first | exact Mine.Off.refl | (refine Mine.Off.upd (by first | exact .head _ | exact .tail _ (.head _) | exact .tail _ (.tail _ (.head _)) | exact .tail _ (.tail _ (.tail _ (.head _))) | exact .tail _ (.tail _ (.tail _ (.tail _ (.head _)))) | exact .tail _ (.tail _ (.tail _ (.tail _ (.tail _ (.head _)))))) ?_)))), ?_⟩, rfl⟩ (by (intro pₘ hpₘ; rw [List.mem_singleton.mp hpₘ]; k_mem)) (by (intro pₘ hpₘ; first | exact hpₘ | exact .tail _ hpₘ | exact .tail _ (.tail _ hpₘ) | exact .tail _ (.tail _ (.tail _ hpₘ)) | exact .tail _ (.tail _ (.tail _ (.tail _ hpₘ))) | exact .tail _ (.tail _ (.tail _ (.tail _ (.tail _ hpₘ)))))) (fun p hp q hq => by rw [List.mem_singleton.mp hq]; exact hoff p hp)
          show _ = if _ then _ else _
          rw [← hup, if_pos (by simpa using hne2)]
        · rename (ab != cp way) = false => hne2
          refine MyEnd.intro (by assumption) (by assumption) ⟨⟨_, _, _, _, _, by exact Mine.map3 (a := "folder") (b := "above") (c := "step") (by (repeat (first | exact Mine.Off.refl | (refine Mine.Off.upd (by first | exact .head _ | exact .tail _ (.head _) | exact .tail _ (.tail _ (.head _)) | exact .tail _ (.tail _ (.tail _ (.head _))) | exact .tail _ (.tail _ (.tail _ (.tail _ (.head _)))) | exact .tail _ (.tail _ (.tail _ (.tail _ (.tail _ (.head _)))))) ?_)))), ?_⟩, rfl⟩ (by (intro pₘ hpₘ; rw [List.mem_singleton.mp hpₘ]; k_mem)) (by (intro pₘ hpₘ; first | exact hpₘ | exact .tail _ hpₘ | exact .tail _ (.tail _ hpₘ) | exact .tail _ (.tail _ (.tail _ hpₘ)) | exact .tail _ (.tail _ (.tail _ (.tail _ hpₘ))) | exact .tail _ (.tail _ (.tail _ (.tail _ (.tail _ hpₘ)))))) (fun p hp q hq => by rw [List.mem_singleton.mp hq]; exact hoff p hp)
          show _ = if _ then _ else _
          rw [← hup, if_neg (by simpa using hne2)]
      · intro m₄ news₄ h3 tk3 hJ18 F8 N8
        (refine (let Gk : Prop := _; (?_ : Gk)))
        obtain ⟨⟨us, fo, ab, tf, ta, rfl, hup⟩, rfl⟩ := hJ18
        clear F6 N6 N7
        subst eN
        clear em3
        try dsimp only [envOf] at F8 N8
        have hfo : Plain fo ∧ fo.length ≤ 40 := by
          have := hG _ (hG3 3).1
          rw [← hup] at this
          exact ⟨this.1, this.2.1⟩
        have hlo : Plain (Txt.lower fo) ∧ (Txt.lower fo).length ≤ 40 := ⟨plain_lower hfo.1, by rw [len_lower_plain hfo.1]; exact hfo.2⟩
        have hupf : (upF (cp way) way 3).1 = fo := by rw [← hup]
        have hE : ∀ p : Addr × Obj, (p.1 = T0 ∨ p.1 = l0 ∨ p.1 = x0 ∨ p.1 = d0 ∨ p ∈ tups) → p.1 ≠ e ∧ p.1 ≠ it := by
          rintro p (q | q | q | q | q)
          · rw [q]; exact hnI _ (.head _)
          · rw [q]; exact hnI _ (.tail _ (.head _))
          · rw [q]; exact hnI _ (.tail _ (.tail _ (.head _)))
          · rw [q]; exact hnI _ (.tail _ (.tail _ (.tail _ (.head _))))
          · exact hnI _ (.tail _ (.tail _ (.tail _ (.tail _ q))))
        have hvl : tvs.length ≤ 20 := by lia
        have hol : ovs.length ≤ 20 := by lia
        have a1 : l0 ≠ T0 := Ne.symm hTl
        have a2 : e ≠ T0 := Ne.symm (hnI _ (.head _)).1
        have a3 : it ≠ T0 := Ne.symm (hnI _ (.head _)).2
        have a4 : x0 ≠ T0 := off_cls (p := (x0, instObj 171 d0)) (o := { cls := .type "list", data := .seq (List.toArray ovs) n1 }) N8 (by k_mem) (by k_mem) (fun q => nomatch q)
        have a5 : d0 ≠ T0 := off_cls (p := (d0, dictOf [{ hash := PyData.keyHash w.params "_headers", key := .str "_headers" tk0, val := .ref l0 }] 1)) N8 (by k_mem) (by k_mem) (by show Value.type "dict" ≠ Value.type "list"; decide)
        have a6 : ∀ p ∈ tups, p.1 ≠ T0 := fun p hp => off_cls N8 (by revert p hp; (intro pₘ hpₘ; repeat (first | exact hpₘ | apply List.mem_cons_of_mem))) (by k_mem) (by rw [hcls p hp]; show Value.type "tuple" ≠ Value.type "list"; decide)
        have b2 : e ≠ l0 := Ne.symm (hnI _ (.tail _ (.head _))).1
        have b3 : it ≠ l0 := Ne.symm (hnI _ (.tail _ (.head _))).2
        have b4 : x0 ≠ l0 := off_cls (p := (x0, instObj 171 d0)) (o := { cls := .type "list", data := .seq (List.toArray tvs) n2 }) N8 (by k_mem) (by k_mem) (fun q => nomatch q)
        have b5 : d0 ≠ l0 := off_cls (p := (d0, dictOf [{ hash := PyData.keyHash w.params "_headers", key := .str "_headers" tk0, val := .ref l0 }] 1)) N8 (by k_mem) (by k_mem) (by show Value.type "dict" ≠ Value.type "list"; decide)
        have b6 : ∀ p ∈ tups, p.1 ≠ l0 := fun p hp => off_cls N8 (by revert p hp; (intro pₘ hpₘ; repeat (first | exact hpₘ | apply List.mem_cons_of_mem))) (by k_mem) (by rw [hcls p hp]; show Value.type "tuple" ≠ Value.type "list"; decide)
        ((show Gk); k_unfold; clear Gk)
        repeat' (first | (k_unfold; (try dsimp only)) | ((fail_if_success (with_reducible show wpAny _ _ (eval (Expr.IfExp _ _ _ _) _) _ _ _)); (first | walk1 | (dsimp only; walk1))))
        refine wpAny_mono (Q := fun v s' => Mine.Hid (∃ nm tk tk', (Plain nm ∧ nm.length ≤ 40 ∧ tblNm cp i way = nm) ∧ v = .str nm tk ∧ s' = { heap := h3, gens := s.gens, drawn := s.drawn, toks := tk', os := s.os })) ?_ ?_ (fun _ _ h => h)
        · (repeat' (first | (k_unfold; (try dsimp only)) | ((fail_if_success (with_reducible (refine Mine.stp 3 ?_ ?_; (focus ((repeat' constructor); done))))); (first | (k_end; wrow_close) | walk1 | (dsimp only; walk1))) | ((fail_if_success (with_reducible show wpAny _ _ _ _ _ _)); dsimp only [Mine.MyPost]) | (leave1; try dsimp only) | fail "no step"))
          · exact .mk ⟨_, _, _, ⟨hfo.1, hfo.2, by unfold tblNm; rw [if_pos (fmod2_odd (by assumption)), hupf]⟩, rfl, rfl⟩
          · exact .mk ⟨_, _, _, ⟨hlo.1, hlo.2, by unfold tblNm; rw [if_neg (fmod2_even (by assumption)), hupf]⟩, rfl, rfl⟩
        · intro v s' hJ19
          (refine (let Gk : Prop := _; (?_ : Gk)))
          obtain ⟨fz, tkz, tky, hfz, rfl, rfl⟩ := hJ19
          have hnm := hfz.2.2
          clear hfo hlo hupf
          ((show Gk); k_unfold; clear Gk)
          (repeat' (first | (k_unfold; (try dsimp only)) | ((fail_if_success (with_reducible (refine Mine.stp 3 ?_ ?_; (focus ((repeat' constructor); done))))); (first | (k_end; wrow_close) | walk1 | (dsimp only; walk1))) | ((fail_if_success (with_reducible show wpAny _ _ _ _ _ _)); dsimp only [Mine.MyPost]) | (leave1; try dsimp only) | fail "no step"))
          ((with_reducible rename News _ _ _ _ => Nz); (with_reducible rename Fr _ _ _ _ => Fz))
          have hq0 := Nz (l0, { cls := .type "list", data := .seq (List.toArray tvs) n2 }) (by k_mem)
          (k_dflt (refine' (Mine.c_setdefault w _ x0 d0 l0 tk0 n2 tvs (tblAt cp mine ws i).1 (News.get Nz (by k_mem)) (News.get Nz (by k_mem)) (News.get Nz (by k_mem)) (hTT.items Nz (by (intro pₘ hpₘ; repeat (first | exact hpₘ | apply List.mem_cons_of_mem)))) _ _ hfz.1 hfz.2.1 hk40 hvl _ _ hwp hw40) ?k1ₘ ?k2ₘ ?k3ₘ ?k5ₘ ?k6ₘ ?k7ₘ ?k8ₘ (And.right (And.right hq0)) (And.left (And.right hq0)) ?_ ?_; (case k1ₘ => k_asm); (case k2ₘ => k_asm); (case k3ₘ => k_asm); (case k5ₘ => k_asm); (case k6ₘ => first | exact rfl | assumption); (case k7ₘ => ktr_room); (case k8ₘ => ktr_units); k_whole))
          · intro z hz t9 h9 tk9 k9
            have F10 := fr_keeps Fz k9
            have N10 := news_keeps Nz k9
            clear k9 Fz Nz hq0
            try dsimp only
            (repeat' (first | (k_unfold; (try dsimp only)) | ((fail_if_success (with_reducible (refine Mine.stp 3 ?_ ?_; (focus ((repeat' constructor); done))))); (first | (k_end; wrow_close) | walk1 | (dsimp only; walk1))) | ((fail_if_success (with_reducible show wpAny _ _ _ _ _ _)); dsimp only [Mine.MyPost]) | (leave1; try dsimp only) | fail "no step"))
            (with_reducible rename News _ _ _ _ => Nz)
            (with_reducible rename Fr _ _ _ _ => Fz)
            have Ny := news_sub (news' := (T0, { cls := .type "list", data := .seq (List.toArray ovs) n1 }) :: (l0, { cls := .type "list", data := .seq (List.toArray tvs) n2 }) :: (e, oe) :: (it, oi) :: (x0, instObj 171 d0) :: (d0, dictOf [{ hash := PyData.keyHash w.params "_headers", key := .str "_headers" tk0, val := .ref l0 }] 1) :: tups) Nz (by (intro pₘ hpₘ; (repeat (rcases List.mem_cons.mp hpₘ with hqₘ | hpₘ; (focus (rw [hqₘ]; k_mem)))); (repeat (first | exact hpₘ | apply List.mem_cons_of_mem))))
            refine append_headL Fz Ny (by (intro pₘ hpₘ; (repeat (rcases List.mem_cons.mp hpₘ with hqₘ | hpₘ; (focus (rw [hqₘ]; assumption)))); (first | (apply_assumption; exact hpₘ) | (exact absurd hpₘ (List.not_mem_nil))))) (by lia) (fun h11 F11 N11 => ?_)
            clear Fz Nz Ny
            (repeat' (first | (k_unfold; (try dsimp only)) | ((fail_if_success (with_reducible (refine Mine.stp 3 ?_ ?_; (focus ((repeat' constructor); done))))); (first | (k_end; wrow_close) | walk1 | (dsimp only; walk1))) | ((fail_if_success (with_reducible show wpAny _ _ _ _ _ _)); dsimp only [Mine.MyPost]) | (leave1; try dsimp only) | fail "no step"))
            have hst2 : tblAt cp mine ws (i + 1) = ((tblAt cp mine ws i).1, (tblAt cp mine ws i).2 ++ [z]) := by
              rw [hstep]
              unfold tblStep
              rw [if_neg hne', hnm, hz]
            refine MyEnd.intro (news' := (T0, { cls := .type "list", data := .seq (List.toArray (ovs ++ [.str z t9])) (n1 + 1) }) :: (l0, { cls := .type "list", data := .seq (List.toArray tvs) n2 }) :: (x0, instObj 171 d0) :: (d0, dictOf [{ hash := PyData.keyHash w.params "_headers", key := .str "_headers" tk0, val := .ref l0 }] 1) :: tups) (by assumption) (by assumption)
              ⟨⟨_, _, _, _, _, _, by exact Mine.map6 (a := "turn") (b := "way") (c := "shared") (d := "folder") (e := "above") (f := "step") (by (repeat (first | exact Mine.Off.refl | (refine Mine.Off.upd (by first | exact .head _ | exact .tail _ (.head _) | exact .tail _ (.tail _ (.head _)) | exact .tail _ (.tail _ (.tail _ (.head _))) | exact .tail _ (.tail _ (.tail _ (.tail _ (.head _)))) | exact .tail _ (.tail _ (.tail _ (.tail _ (.tail _ (.head _)))))) ?_))))⟩, _, _, _, _, tups, rfl, ?_, ?_, hcls, by lia, by simp; lia, ?_⟩ (by (intro pₘ hpₘ; rcases List.mem_cons.mp hpₘ with hqₘ | hpₘ; (focus (rw [hqₘ]; k_mem)); rw [List.mem_singleton.mp hpₘ]; k_mem)) (by (intro pₘ hpₘ; (repeat (rcases List.mem_cons.mp hpₘ with hqₘ | hpₘ; (focus (rw [hqₘ]; k_mem)))); (repeat (first | exact hpₘ | apply List.mem_cons_of_mem)))) ?_
            · rw [hst2]; exact hO.snoc
            · rw [hst2]; exact hTT
            · rw [hst2]; exact hk40
            · intro p hp q hq
              have hne3 : p.1 ≠ e ∧ p.1 ≠ it := by
                refine hE p ?_
                simp only [List.mem_cons] at hp
                rcases hp with hp | hp | hp | hp | hp
                · exact .inl (by rw [hp])
                · exact .inr (.inl (by rw [hp]))
                · exact .inr (.inr (.inl (by rw [hp])))
                · exact .inr (.inr (.inr (.inl (by rw [hp]))))
                · exact .inr (.inr (.inr (.inr hp)))
              rcases List.mem_cons.mp hq with hq | hq
              · rw [hq]; exact hne3.1
              · rw [List.mem_singleton.mp hq]; exact hne3.2
          · intro hz h9 tk9 a9 t1 t2 n9 k9 ha9 hga hgl
            have F10 := fr_but1 Fz hq0.2.2 hq0.2.1 k9
            have N10 := news_but1 (news_sub (news' := (T0, { cls := .type "list", data := .seq (List.toArray ovs) n1 }) :: (e, oe) :: (it, oi) :: (x0, instObj 171 d0) :: (d0, dictOf [{ hash := PyData.keyHash w.params "_headers", key := .str "_headers" tk0, val := .ref l0 }] 1) :: tups) Nz (by (intro pₘ hpₘ; (repeat (rcases List.mem_cons.mp hpₘ with hqₘ | hpₘ; (focus (rw [hqₘ]; k_mem)))); (repeat (first | exact hpₘ | apply List.mem_cons_of_mem))))) (by (intro pₘ hpₘ; (repeat (rcases List.mem_cons.mp hpₘ with hqₘ | hpₘ; (focus (rw [hqₘ]; assumption)))); (first | (apply_assumption; exact hpₘ) | (exact absurd hpₘ (List.not_mem_nil))))) k9
            have N11 := news_put hgl hq0.2.1 hq0.2.2 (news_put hga (fr_ne Fz ha9) (base_none Fz ha9) N10)
            have a7 : a9 ≠ T0 := get_ne ha9 (Nz (T0, { cls := .type "list", data := .seq (List.toArray ovs) n1 }) (by k_mem)).1
            have a8 : a9 ≠ e := get_ne ha9 (Nz (e, oe) (by k_mem)).1
            have a99 : a9 ≠ it := get_ne ha9 (Nz (it, oi) (by k_mem)).1
            clear k9 Fz Nz hq0 N10 ha9 hga hgl
            try dsimp only
            (repeat' (first | (k_unfold; (try dsimp only)) | ((fail_if_success (with_reducible (refine Mine.stp 3 ?_ ?_; (focus ((repeat' constructor); done))))); (first | (k_end; wrow_close) | walk1 | (dsimp only; walk1))) | ((fail_if_success (with_reducible show wpAny _ _ _ _ _ _)); dsimp only [Mine.MyPost]) | (leave1; try dsimp only) | fail "no step"))
            (with_reducible rename News _ _ _ _ => Nz)
            (with_reducible rename Fr _ _ _ _ => Fz)
            have Ny := news_sub (news' := (T0, { cls := .type "list", data := .seq (List.toArray ovs) n1 }) :: (l0, { cls := .type "list", data := .seq (List.toArray (tvs ++ [Value.ref a9])) n9 }) :: (a9, { cls := .type "tuple", data := .seq #[.str fz t1, .str way t2] }) :: (e, oe) :: (it, oi) :: (x0, instObj 171 d0) :: (d0, dictOf [{ hash := PyData.keyHash w.params "_headers", key := .str "_headers" tk0, val := .ref l0 }] 1) :: tups) Nz (by (intro pₘ hpₘ; (repeat (rcases List.mem_cons.mp hpₘ with hqₘ | hpₘ; (focus (rw [hqₘ]; k_mem)))); (repeat (first | exact hpₘ | apply List.mem_cons_of_mem))))
            refine append_headL Fz Ny (by (intro pₘ hpₘ; (repeat (rcases List.mem_cons.mp hpₘ with hqₘ | hpₘ; (focus (rw [hqₘ]; assumption)))); (first | (apply_assumption; exact hpₘ) | (exact absurd hpₘ (List.not_mem_nil))))) (by lia) (fun h11 F11 N11 => ?_)
            clear Fz Nz Ny
            (repeat' (first | (k_unfold; (try dsimp only)) | ((fail_if_success (with_reducible (refine Mine.stp 3 ?_ ?_; (focus ((repeat' constructor); done))))); (first | (k_end; wrow_close) | walk1 | (dsimp only; walk1))) | ((fail_if_success (with_reducible show wpAny _ _ _ _ _ _)); dsimp only [Mine.MyPost]) | (leave1; try dsimp only) | fail "no step"))
            have hst2 : tblAt cp mine ws (i + 1) = ((tblAt cp mine ws i).1 ++ [(fz, way)], (tblAt cp mine ws i).2 ++ [way]) := by
              rw [hstep]
              unfold tblStep
              rw [if_neg hne', hnm, hz]
            refine MyEnd.intro (news' := (T0, { cls := .type "list", data := .seq (List.toArray (ovs ++ [.str way tw])) (n1 + 1) }) :: (l0, { cls := .type "list", data := .seq (List.toArray (tvs ++ [Value.ref a9])) n9 }) :: (x0, instObj 171 d0) :: (d0, dictOf [{ hash := PyData.keyHash w.params "_headers", key := .str "_headers" tk0, val := .ref l0 }] 1) :: (a9, { cls := .type "tuple", data := .seq #[.str fz t1, .str way t2] }) :: tups) (by assumption) (by assumption)
              ⟨⟨_, _, _, _, _, _, by exact Mine.map6 (a := "turn") (b := "way") (c := "shared") (d := "folder") (e := "above") (f := "step") (by (repeat (first | exact Mine.Off.refl | (refine Mine.Off.upd (by first | exact .head _ | exact .tail _ (.head _) | exact .tail _ (.tail _ (.head _)) | exact .tail _ (.tail _ (.tail _ (.head _))) | exact .tail _ (.tail _ (.tail _ (.tail _ (.head _)))) | exact .tail _ (.tail _ (.tail _ (.tail _ (.tail _ (.head _)))))) ?_))))⟩, _, _, _, _, (a9, { cls := .type "tuple", data := .seq #[.str fz t1, .str way t2] }) :: tups, rfl, ?_, ?_, ?_, by simp; lia, by simp; lia, ?_⟩ (by (intro pₘ hpₘ; rcases List.mem_cons.mp hpₘ with hqₘ | hpₘ; (focus (rw [hqₘ]; k_mem)); rw [List.mem_singleton.mp hpₘ]; k_mem)) (by (intro pₘ hpₘ; (repeat (rcases List.mem_cons.mp hpₘ with hqₘ | hpₘ; (focus (rw [hqₘ]; k_mem)))); (repeat (first | exact hpₘ | apply List.mem_cons_of_mem)))) ?_
            · rw [hst2]; exact hO.snoc
            · rw [hst2]; exact TabLed.snoc (.head _) (hTT.mono fun p hp => .tail _ hp)
            · intro p hp
              rcases List.mem_cons.mp hp with hp | hp
              · rw [hp]
              · exact hcls p hp
            · rw [hst2]
              intro kv hkv
              rcases List.mem_append.mp hkv with hkv | hkv
              · exact hk40 kv hkv
              · rw [List.mem_singleton.mp hkv]; exact hfz.2.1
            · intro p hp q hq
              have hne3 : p.1 ≠ e ∧ p.1 ≠ it := by
                simp only [List.mem_cons] at hp
                rcases hp with hp | hp | hp | hp | hp | hp
                · exact hE p (.inl (by rw [hp]))
                · exact hE p (.inr (.inl (by rw [hp])))
                · exact hE p (.inr (.inr (.inl (by rw [hp]))))
                · exact hE p (.inr (.inr (.inr (.inl (by rw [hp])))))
                · rw [hp]; exact ⟨a8, a99⟩
                · exact hE p (.inr (.inr (.inr (.inr hp))))
              rcases List.mem_cons.mp hq with hq | hq
              · rw [hq]; exact hne3.1
              · rw [List.mem_singleton.mp hq]; exact hne3.2
    · rename (way != mine) = false => hne
      refine MyEnd.intro (by assumption) (by assumption) ⟨⟨_, _, _, _, _, _, by exact Mine.map6 (a := "turn") (b := "way") (c := "shared") (d := "folder") (e := "above") (f := "step") (by (repeat (first | exact Mine.Off.refl | (refine Mine.Off.upd (by first | exact .head _ | exact .tail _ (.head _) | exact .tail _ (.tail _ (.head _)) | exact .tail _ (.tail _ (.tail _ (.head _))) | exact .tail _ (.tail _ (.tail _ (.tail _ (.head _)))) | exact .tail _ (.tail _ (.tail _ (.tail _ (.tail _ (.head _)))))) ?_))))⟩, ovs, _, tvs, _, tups, rfl, ?_, ?_, hcls, by lia, by lia, ?_⟩ (by (intro pₘ hpₘ; rcases List.mem_cons.mp hpₘ with hqₘ | hpₘ; (focus (rw [hqₘ]; k_mem)); rw [List.mem_singleton.mp hpₘ]; k_mem)) (by (intro pₘ hpₘ; (repeat (rcases List.mem_cons.mp hpₘ with hqₘ | hpₘ; (focus (rw [hqₘ]; k_mem)))); (repeat (first | exact hpₘ | apply List.mem_cons_of_mem)))) ?_
      all_goals (first | (rw [hstep]; unfold tblStep; rw [if_pos (by simpa using hne)]; assumption) | skip)
      intro p hp q hq
      rcases List.mem_cons.mp hq with hq | hq
      · rw [hq]; exact (hnI p hp).1
      · rw [List.mem_singleton.mp hq]; exact (hnI p hp).2
  · intro m₂ news₂ h2 tk2 hJ20 F2 N2
    (refine (let Gk : Prop := _; (?_ : Gk)))
    obtain ⟨⟨u1, u2, u3, u4, u5, u6, rfl⟩, ovs, n1, tvs, n2, tups, rfl, hO, hTT, hcls, hl1, hl2, hk40⟩ := hJ20
    clear F3 N3 he hit et eT
    clear em
    try dsimp only [envOf] at F2 N2
    ((show Gk); k_unfold; clear Gk)
    (repeat' (first | (k_unfold; (try dsimp only)) | ((fail_if_success (with_reducible (refine Mine.stp 1 ?_ ?_; (focus ((repeat' constructor); done))))); (first | (k_end; wrow_close) | walk1 | (dsimp only; walk1))) | ((fail_if_success (with_reducible show wpAny _ _ _ _ _ _)); dsimp only [Mine.MyPost]) | (leave1; try dsimp only) | fail "no step"))
    ((with_reducible rename News _ _ _ _ => Nz); (with_reducible rename Fr _ _ _ _ => Fz))
    rw [hws.len] at hO hTT
    refine hret _ _ _ (fun b ob e => Fz.keep b ob e) ⟨_, x0, T0, l0, d0, tk0, tvs, n2, ovs, n1, rfl, (Nz _ (.head _)).2.2, (Nz _ (.tail _ (.tail _ (.tail _ (.head _))))).2.2, (Nz _ (.tail _ (.head _))).2.2, (Nz _ (.tail _ (.tail _ (.head _)))).2.2, (Nz _ (.tail _ (.tail _ (.tail _ (.tail _ (.head _)))))).2.2, hTl,
      (Nz _ (.head _)).1, (Nz _ (.tail _ (.tail _ (.tail _ (.head _))))).1, (Nz _ (.tail _ (.tail _ (.tail _ (.tail _ (.head _)))))).1, (Nz _ (.tail _ (.tail _ (.head _)))).1, ⟨tups, hTT, fun p hp => ⟨(Nz p (by revert p hp; (intro pₘ hpₘ; repeat (first | exact hpₘ | apply List.mem_cons_of_mem)))).1, (Nz p (by revert p hp; (intro pₘ hpₘ; repeat (first | exact hpₘ | apply List.mem_cons_of_mem)))).2.2, hcls p hp⟩⟩, (Nz _ (.tail _ (.head _))).1, hO⟩
end Mine
theorem Mine.off9 : True := by w_top off; trivial
namespace Mine
open PySem PySem.W PySem.Calls PyProof.Rows
theorem slot_map_init : Slot "map" "__init__" "object.__init__" :=
  .of (owner := "object") (n := "__init__") (by rw [typeLookup_type, builtinLookup_eq_fast]; kernel_rfl) (by decide +kernel) (by decide +kernel) (by decide +kernel)
    (by first | exact .inl (by decide +kernel) | exact .inr (by decide +kernel)) (by rw [isSubtype_type]; kernel_rfl)
theorem slot_map_iter : Slot "map" "__iter__" "map.__iter__" :=
  .of (owner := "map") (n := "__iter__") (by rw [typeLookup_type, builtinLookup_eq_fast]; kernel_rfl) (by decide +kernel) (by decide +kernel) (by decide +kernel)
    (by first | exact .inl (by decide +kernel) | exact .inr (by decide +kernel)) (by rw [isSubtype_type]; kernel_rfl)
theorem slot_map_next : Slot "map" "__next__" "map.__next__" :=
  .of (owner := "map") (n := "__next__") (by rw [typeLookup_type, builtinLookup_eq_fast]; kernel_rfl) (by decide +kernel) (by decide +kernel) (by decide +kernel)
    (by first | exact .inl (by decide +kernel) | exact .inr (by decide +kernel)) (by rw [isSubtype_type]; kernel_rfl)
theorem entry_map_next : entryFor table "map.__next__" = some Builtin.«map.__next__» := entryFor_of_tree (by kernel_rfl)
theorem entry_map_iter : entryFor table "map.__iter__" = some Builtin.«dict_keyiterator.__iter__» :=
  entryFor_alias (id' := "dict_keyiterator.__iter__") (by kernel_rfl) (by first | rfl | decide +kernel | (unfold String.splitOn; simp +decide [String.splitOnAux])) (by decide +kernel) (by kernel_rfl)
theorem args_map_next_1 (a : Value) : argsOk "map.__next__" ⟨[a], []⟩ := by unfold argsOk; kernel_rfl
theorem args_map_iter_1 (a : Value) : argsOk "map.__iter__" ⟨[a], []⟩ := by unfold argsOk; kernel_rfl
theorem mro_map : mroOf (.type "map") = pure [.type "map", .type "object"] := by rw [mroOf_type]; kernel_rfl
theorem lookup_map_new : typeLookup (.type "map") "__new__" = pure (some (.builtin "map.__new__")) := by rw [typeLookup_type, builtinLookup_eq_fast]; kernel_rfl
theorem called_map : TypeCalled "map" "map.__new__" "object.__init__" :=
  ⟨by decide +kernel, by decide +kernel, ⟨_, _, mro_map⟩, madeBy_type mro_map lookup_map_new (by decide +kernel), by decide +kernel, by rw [isSubtype_type]; kernel_rfl, slot_map_init⟩
theorem typeCall_map_2 (a b : Value) : checkTypeCall "map" ⟨[a, b], []⟩ = pure () := by kernel_rfl
theorem newCall_map_2 (a b : Value) : checkBuiltinCall "map.__new__" ⟨[.type "map", a, b], []⟩ = pure () := by kernel_rfl
theorem entry_map_new : entryFor table "map.__new__" = some Builtin.«map.__new__» := entryFor_of_tree (by kernel_rfl)
theorem nolen_map : typeLookup (.type "map") "__len__" = pure none := by rw [typeLookup_type, builtinLookup_eq_fast]; kernel_rfl
theorem nohint_map : typeLookup (.type "map") "__length_hint__" = pure none := by rw [typeLookup_type, builtinLookup_eq_fast]; kernel_rfl
theorem args_init_3 (o a b : Value) : argsOk "object.__init__" ⟨[o, a, b], []⟩ := by unfold argsOk; kernel_rfl
theorem sub_map : isSubtype (.type "map") (.type "map") = pure true := by rw [isSubtype_type]; kernel_rfl
noncomputable def iterObj (l : Addr) (i : Nat) : Obj := { cls := .type "list_iterator", data := .fields #[.ref l, .int i 0] }
noncomputable def itsObj (I : Addr) : Obj := { cls := .type "tuple", data := .seq #[.ref I] }
noncomputable def mapObj (T : Addr) (f : Value) : Obj := { cls := .type "map", data := .fields #[.ref T, f] }
theorem meets_map_new (l : Addr) (items : Array Value) (f : Value) :
    Meets (Builtin.«map.__new__» ⟨[.type "map", f, .ref l], []⟩) (fun _ R s => s.heap.IsList l items ∧
      R (.ok (.ret (.ref (s.heap.objs.size + 1 + 1)))) { s with heap := ((s.heap.push (iterObj l 0)).push (itsObj s.heap.objs.size)).push (mapObj (s.heap.objs.size + 1) f) }) :=
  .of_wp fun prog w A R s h => by
    obtain ⟨hl, h⟩ := h
    have hsub := sub_map
    unfold Builtin.«map.__new__»
    wp_walk using wpAny_pyIter_list hl
    refine ⟨_, rfl, ?_⟩
    simp only [Heap.size_push]
    exact h
section
variable {prog : Program} {w : World} {A : Around} {E : Value → Shared → Prop} {s : Shared}
theorem call_map {l : Addr} {items : Array Value} {f : Value} {Q : Value → Shared → Prop} (hl : s.heap.IsList l items)
    (h : Q (.ref (s.heap.objs.size + 1 + 1)) { s with heap := ((s.heap.push (iterObj l 0)).push (itsObj s.heap.objs.size)).push (mapObj (s.heap.objs.size + 1) f) }) : wpAny (model prog w) A (call (.type "map") [f, .ref l]) Q E s := by
  refine callType_new called_map (by decide) (typeCall_map_2 _ _) (newCall_map_2 _ _) (fun obj => args_init_3 obj _ _) entry_map_new (meets_map_new l items f) ⟨hl, ⟨mapObj (s.heap.objs.size + 1) f, ?_, rfl⟩, h⟩
  have := Heap.get?_push_size ((s.heap.push (iterObj l 0)).push (itsObj s.heap.objs.size)) (o := mapObj (s.heap.objs.size + 1) f) rfl
  simpa only [Heap.size_push] using this
theorem pyIter_map {M T : Addr} {f : Value} {Q : Value → Shared → Prop} (hM : s.heap.get? M = some (mapObj T f)) (h : Q (.ref M) s) : wpAny (model prog w) A (pyIter (.ref M)) Q E s := by
  have hT : s.TypeIs (.ref M) "map" := ⟨_, hM, rfl⟩
  refine wpAny_pyIter_slot hT slot_map_iter (wpAny_call_entry slot_map_iter hT entry_map_iter ?_ (args_map_iter_1 _))
  show wpAny _ _ (ret (.ref M)) _ _ s
  exact wpAny_pure ⟨_, rfl, "map", _, hT, slot_map_next.lookup, h⟩
theorem next_map_item {M T I l : Addr} {f x : Value} {i : Nat} {items : Array Value} {Q : Option Value → Shared → Prop} (hM : s.heap.get? M = some (mapObj T f)) (hT : s.heap.get? T = some (itsObj I)) (hI : s.heap.IsListIter I l i) (hl : s.heap.IsList l items) (hx : items[i]? = some x) (hMI : M ≠ I)
    (h : ∀ h' E', h'.IsListIter I l (i + 1) → Heap.SameBut I s.heap h' → wpAny (model prog w) A.in1 (call f [x]) (fun v s' => Q (some v) s') E' { s with heap := h' }) : wpAny (model prog w) A (pyNext (.ref M)) Q E s := by
  have hty : s.TypeIs (.ref M) "map" := ⟨_, hM, rfl⟩
  unfold pyNext
  refine wpAny_bind (wpAny_attempt (wpAny_callSpecial?_slot (name := Str.ofString "__next__") hty slot_map_next (wpAny_call_entry slot_map_next hty entry_map_next ?_ (args_map_next_1 _))))
  show wpAny _ _ (field (.ref M) 0 >>= _) _ _ _
  refine wpAny_bind (wpAny_field hM rfl (x := .ref T) rfl ?_)
  refine wpAny_bind (wpAny_seqItems hT rfl ?_)
  try dsimp only
  simp only [← Array.forIn_toList, List.forIn_cons, List.forIn_nil]
  refine wpAny_bind ?_
  refine wpAny_bind ?_
  refine wpAny_bind (wpAny_nextOf_list_item hI hl hx fun h' hI' hs' => ?_)
  have hM' : h'.get? M = some (mapObj T f) := hs'.extBut M _ hMI hM
  refine wpAny_pure (wpAny_pure ?_)
  refine wpAny_bind (wpAny_field hM' rfl (x := f) rfl ?_)
  refine wpAny_bind (wpAny_holding (wpAny_mono (h h' _ hI' hs') (fun v s' hq => ?_) fun _ _ e => e))
  refine wpAny_bind (wpAny_letGo ?_)
  exact wpAny_pure ⟨_, rfl, wpAny_pure hq⟩
theorem next_map_end {M T I l : Addr} {f : Value} {i : Nat} {items : Array Value} {Q : Option Value → Shared → Prop} (hh : A.handled = none) (hM : s.heap.get? M = some (mapObj T f)) (hT : s.heap.get? T = some (itsObj I)) (hI : s.heap.IsListIter I l i) (hl : s.heap.IsList l items) (hx : items[i]? = none)
    (h : ∀ h', Heap.ExtBut I s.heap h' → Q none { s with heap := h' }) : wpAny (model prog w) A (pyNext (.ref M)) Q E s := by
  have hty : s.TypeIs (.ref M) "map" := ⟨_, hM, rfl⟩
  unfold pyNext
  refine wpAny_bind (wpAny_attempt (wpAny_callSpecial?_slot (name := Str.ofString "__next__") hty slot_map_next (wpAny_call_entry slot_map_next hty entry_map_next ?_ (args_map_next_1 _))))
  show wpAny _ _ (field (.ref M) 0 >>= _) _ _ _
  refine wpAny_bind (wpAny_field hM rfl (x := .ref T) rfl ?_)
  refine wpAny_bind (wpAny_seqItems hT rfl ?_)
  try dsimp only
  simp only [← Array.forIn_toList, List.forIn_cons, List.forIn_nil]
  refine wpAny_bind ?_
  refine wpAny_bind ?_
  refine wpAny_bind (wpAny_nextOf_list_end hh hI hl hx fun h' e he hx' => ?_)
  (refine (let Gk : Prop := _; (?_ : Gk)))
  obtain ⟨o, ho, hc⟩ := hx'
  ((show Gk); k_unfold; clear Gk)
  refine wpAny_bind (wpAny_isInstance (T := "StopIteration") (b := true) ⟨o, ho, hc⟩ isSubtype_stop ?_)
  exact wpAny_pure (h _ he)
theorem ext_turn {S M : Addr} {res : Value} {acc : Array Value} {c : Nat} {v : Value} {R : Result → Shared → Prop} (hsz : acc.size ≤ 1000)
    (h : ∀ E', wpAny (model prog w) A.in1 (pyNext (.ref M)) (fun r s' => r = some v ∧ s'.heap.get? S = some { cls := .type "list", data := .seq acc c } ∧
      ∀ h', Heap.SameBut S s'.heap h' → h'.get? S = some { cls := .type "list", data := .seq (acc.push v) (c + 1) } → codeAny (model prog w) A (.builtin "list.extend.loop" ⟨[.ref S, .ref M, res], []⟩) R { s' with heap := h' }) E' s) :
    codeAny (model prog w) A (.builtin "list.extend.loop" ⟨[.ref S, .ref M, res], []⟩) R s := by
  refine codeAny_builtin F.entry_extend_loop ?_
  rw [Around.under_plainId F.plain_extend_loop _]
  show wpAny _ A.in1 (pyNext (.ref M) >>= _) _ _ s
  refine wpAny_bind (wpAny_mono (h _) (fun r s' hq => ?_) fun _ _ e => e)
  (refine (let Gk : Prop := _; (?_ : Gk)))
  obtain ⟨rfl, hS, hk⟩ := hq
  ((show Gk); k_unfold; clear Gk)
  show wpAny _ A.in1 (updateSeq S (·.push v) >>= _) _ _ _
  refine wpAny_bind ?_
  refine wpAny_updateSeq hS rfl (wpAny_pure ⟨plainId_quiet F.plain_extend_loop _, hk _ (Heap.SameBut.update ..) ?_⟩) (by rw [sizeLine_eq]; lia) (by rw [sizeLine_eq]; show (acc.push v).size ≤ _; rw [Array.size_push]; lia)
  rw [Heap.get?_update_self _ hS (by rw [mapSeq_push]; rfl), mapSeq_push]
theorem ext_end {S M : Addr} {res : Value} {R : Result → Shared → Prop}
    (h : ∀ E', wpAny (model prog w) A.in1 (pyNext (.ref M)) (fun r s' => r = none ∧ R (.ok (.ret res)) s') E' s) :
    codeAny (model prog w) A (.builtin "list.extend.loop" ⟨[.ref S, .ref M, res], []⟩) R s := by
  refine codeAny_builtin F.entry_extend_loop ?_
  rw [Around.under_plainId F.plain_extend_loop _]
  show wpAny _ A.in1 (pyNext (.ref M) >>= _) _ _ s
  refine wpAny_bind (wpAny_mono (h _) (fun r s' hq => ?_) fun _ _ e => e)
  obtain ⟨rfl, hk⟩ := hq
  exact wpAny_pure hk
theorem collect_map {M T : Addr} {f : Value} {Q : List Value → Shared → Prop} (hM : s.heap.get? M = some (mapObj T f))
    (h : ∀ h' S (R : Result → Shared → Prop), s.heap.get? S = none → s.heap.objs.size ≤ S → (∀ b o, s.heap.get? b = some o → h'.get? b = some o) → (∃ c, h'.get? S = some { cls := .type "list", data := .seq #[] c }) →
      (∀ s' acc c, s'.heap.get? S = some { cls := .type "list", data := .seq acc c } → Q acc.toList s' → R (.ok (.ret (.ref S))) s') →
      codeAny (model prog w) A (.builtin "list.extend.loop" ⟨[.ref S, .ref M, .ref S], []⟩) R { s with heap := h' }) : wpAny (model prog w) A (collect (.ref M)) Q E s := by
  revert Q hM h
  revert prog w A E s M T f
  refine' no_implicit_lambda% (Mine.hk8 ?ne ?_)
  case ne => (repeat' (first | (refine Mine.nePair ?_ ?_) | exact Mine.neWorld | exact Mine.neAround | exact Mine.neShared | infer_instance))
  generalize Mine.A1 _ = prog; generalize Mine.A2 _ = w; generalize Mine.A3 _ = A; generalize Mine.A4 _ = E; generalize Mine.A5 _ = s; generalize Mine.A6 _ = M; generalize Mine.A7 _ = T; generalize Mine.A8 _ = f
  intro uHk
  clear uHk
  intro Q hM h
  have hlt := Heap.lt_size hM
  have hSI : s.heap.objs.size ≠ M := Nat.ne_of_gt hlt
  unfold collect
  refine wpAny_bind (wpAny_runValue (codeAny_builtin F.entry_proto_collect ?_))
  rw [Around.under_plainId F.plain_proto_collect _]
  show wpAny _ A.in1 (newList [] >>= fun l => again (.builtin "list.__iadd__" ⟨[l, .ref M], []⟩)) _ _ s
  refine wpAny_bind (wpAny_newObj_type ?_)
  refine wpAny_pure ⟨plainId_quiet F.plain_list_iadd _, codeAny_builtin F.entry_list_iadd ?_⟩
  rw [Around.under_plainId F.plain_list_iadd _]
  have hM₁ : (s.heap.push { cls := .type "list", data := .seq ([] : List Value).toArray }).get? M = some (mapObj T f) := Heap.get?_push_of_some _ hM
  have hT₁ : Shared.TypeIs { s with heap := s.heap.push { cls := .type "list", data := .seq ([] : List Value).toArray } } (.ref M) "map" := ⟨_, hM₁, rfl⟩
  show wpAny _ A.in1 (Builtin.List.listExtendWith (.ref s.heap.objs.size) (.ref M) (.ref s.heap.objs.size)) _ _ _
  unfold Builtin.List.listExtendWith
  refine wpAny_bind (wpAny_typeOf hT₁ ?_)
  have h1 : Builtin.List.listSameRef (.ref s.heap.objs.size) (.ref M) = false := by simp [Builtin.List.listSameRef, hSI]
  have h2 : (Value.type "map" == Value.type "list") = false := by decide
  have h3 : (Value.type "map" == Value.type "tuple") = false := by decide
  simp only [h1, h2, h3, Bool.or_false, Bool.false_eq_true, if_false]
  refine wpAny_bind (pyIter_map hM₁ ?_)
  refine wpAny_bind (wpAny_holding ?_)
  unfold Builtin.List.listLengthHint
  refine wpAny_bind (wpAny_specialOf hT₁ nolen_map ?_)
  show wpAny _ A.in1 (specialOf (Value.ref M) (Str.ofString "__length_hint__") >>= _) _ _ _
  refine wpAny_bind (wpAny_specialOf hT₁ nohint_map ?_)
  refine wpAny_pure ?_
  show wpAny _ A.in1 (rule "list.extend.makes-room" >>= fun _ => Builtin.List.listTouch (.ref s.heap.objs.size) >>= fun _ =>
    again (.builtin "list.extend.loop" ⟨[.ref s.heap.objs.size, .ref M, .ref s.heap.objs.size], []⟩)) _ _ _
  refine wpAny_bind (wpAny_rule ?_)
  have hS₁ : (s.heap.push { cls := .type "list", data := .seq ([] : List Value).toArray }).get? s.heap.objs.size = some { cls := .type "list", data := .seq ([] : List Value).toArray } := Heap.get?_push_size _ rfl
  refine wpAny_bind ?_
  show wpAny _ A.in1 (updateSeq s.heap.objs.size (·.push .none) >>= fun _ => updateSeq s.heap.objs.size (·.pop)) _ _ _
  refine wpAny_bind (wpAny_updateSeq hS₁ rfl ?_)
  have hS₂ := Heap.get?_update_self (Obj.mapSeq (·.push Value.none)) hS₁ rfl
  refine wpAny_updateSeq hS₂ rfl ?_
  have hS₃ := Heap.get?_update_self (Obj.mapSeq (·.pop)) hS₂ rfl
  refine wpAny_pure ⟨plainId_quiet F.plain_extend_loop _, h _ s.heap.objs.size _ ?_ (Nat.le_refl _) (fun b o e => ?_) ⟨_, hS₃⟩ fun s' acc c hS' hq => ?_⟩
  · cases e : s.heap.get? s.heap.objs.size with
    | none => rfl
    | some o => exact absurd (Heap.lt_size e) (Nat.lt_irrefl _)
  · have hb : b ≠ s.heap.objs.size := Nat.ne_of_lt (Heap.lt_size e)
    exact (Heap.get?_update_other _ _ (Ne.symm hb)).trans ((Heap.get?_update_other _ _ (Ne.symm hb)).trans (Heap.get?_push_of_some _ e))
  · show wpAny _ A (load s.heap.objs.size >>= _) _ _ s'
    refine wpAny_bind (wpAny_load hS' ?_)
    exact wpAny_pure hq
end
end Mine
theorem Mine.off10 : True := by w_top off; trivial
namespace Mine
open PySem PySem.W PySem.Calls PyProof.Rows
noncomputable def IterO (l : Addr) (i : Nat) (o : Obj) : Prop := ∀ (h : Heap) (I : Addr), h.get? I = some o → h.IsListIter I l i
theorem iterO_of {h : Heap} {I l : Addr} {i : Nat} (hI : h.IsListIter I l i) : ∃ o, h.get? I = some o ∧ IterO l i o := by
  (refine (let Gk : Prop := _; (?_ : Gk)))
  obtain ⟨o, ho, hc, hd⟩ := hI
  ((show Gk); k_unfold; clear Gk)
  exact ⟨o, ho, fun h' I' e => ⟨o, e, hc, hd⟩⟩
section
variable {w : World} {p : Program} {loose : List Str} {mean : ExcName → Option Value} {mg mb : Str → Option Value} {dp un : Nat} {gd : Option (List Code)} {cn : Str} {cs : Scope} {a : Addr} {ccd : Value} {cl : List (Str × Addr)} {outer : List Env} {A₀ : Around} {base h₀ : Heap} {L : Addr} {m : Str → Option Value} {s : Shared}
theorem map_turn {S M T I l : Addr} {its acc : Array Value} {nl c i : Nat} {o : Obj} {x : Str} {t : Tok} {res : Value} {news : Led} {R : Result → Shared → Prop}
    (B : Below A₀ base outer h₀) (F : Fr h₀ L s.heap m) (X : (hd.heap_39 w.params).In h₀) (Tp : Top p loose mean mg mb h₀) (hk : cs.kind = .function) (hdp : dp + 2 < recursionLimit) (hun : un + 50 < cLine)
    (N : News h₀ L s.heap ((S, { cls := .type "list", data := .seq acc c }) :: (M, mapObj T (.ref 271)) :: (T, itsObj I) :: (I, o) :: news)) (hn : ∀ p ∈ news, p.1 ≠ S ∧ p.1 ≠ I) (hSM : S ≠ M) (hST : S ≠ T) (hSI : S ≠ I) (hMI : M ≠ I) (hTI : T ≠ I)
    (hl : h₀.get? l = some { cls := .type "list", data := .seq its nl }) (hit : IterO l i o) (hx : its[i]? = some (.str x t)) (hacc : acc.size ≤ 1000)
    (k : ∀ h' tk o', Fr h₀ L h' m → News h₀ L h' ((S, { cls := .type "list", data := .seq (acc.push (.str x t)) (c + 1) }) :: (M, mapObj T (.ref 271)) :: (T, itsObj I) :: (I, o') :: news) → IterO l (i + 1) o' →
      codeAny (model PySem.Challenge.pw_rt0090_01 w) (ktrTop dp un gd cn cs L a ccd cl outer) (.builtin "list.extend.loop" ⟨[.ref S, .ref M, res], []⟩) R { s with heap := h', toks := tk }) :
    codeAny (model PySem.Challenge.pw_rt0090_01 w) (ktrTop dp un gd cn cs L a ccd cl outer) (.builtin "list.extend.loop" ⟨[.ref S, .ref M, res], []⟩) R s := by
  revert R B F X Tp hk hdp hun N hn hSM hST hSI hMI hTI hl hit hx hacc k
  revert w p loose mean mg mb dp un gd cn cs a ccd cl outer A₀ base h₀ L m s S M T I l its acc nl c i o x t res news
  iterate 4 refine no_implicit_lambda% (Mine.pad1 ?_)
  refine' no_implicit_lambda% (Mine.hk40 ?ne ?_)
  case ne => (repeat' (first | (refine Mine.nePair ?_ ?_) | exact Mine.neWorld | exact Mine.neAround | exact Mine.neShared | infer_instance))
  generalize Mine.A5 _ = w; generalize Mine.A6 _ = p; generalize Mine.A7 _ = loose; generalize Mine.A8 _ = mean; generalize Mine.A9 _ = mg; generalize Mine.A10 _ = mb; generalize Mine.A11 _ = dp; generalize Mine.A12 _ = un; generalize Mine.A13 _ = gd; generalize Mine.A14 _ = cn; generalize Mine.A15 _ = cs; generalize Mine.A16 _ = a; generalize Mine.A17 _ = ccd; generalize Mine.A18 _ = cl; generalize Mine.A19 _ = outer; generalize Mine.A20 _ = A₀; generalize Mine.A21 _ = base; generalize Mine.A22 _ = h₀; generalize Mine.A23 _ = L; generalize Mine.A24 _ = m; generalize Mine.A25 _ = s; generalize Mine.A26 _ = S; generalize Mine.A27 _ = M; generalize Mine.A28 _ = T; generalize Mine.A29 _ = I; generalize Mine.A30 _ = l; generalize Mine.A31 _ = its; generalize Mine.A32 _ = acc; generalize Mine.A33 _ = nl; generalize Mine.A34 _ = c; generalize Mine.A35 _ = i; generalize Mine.A36 _ = o; generalize Mine.A37 _ = x; generalize Mine.A38 _ = t; generalize Mine.A39 _ = res; generalize Mine.A40 _ = news
  intro uHk
  clear uHk
  intro R B F X Tp hk hdp hun N hn hSM hST hSI hMI hTI hl hit hx hacc k
  have nS := N _ (.head _)
  have nM := N _ (.tail _ (.head _))
  have nT := N _ (.tail _ (.tail _ (.head _)))
  have nI := N _ (.tail _ (.tail _ (.tail _ (.head _))))
  have hlI : l ≠ I := fun q => by rw [q, nI.2.2] at hl; cases hl
  have hls : s.heap.IsList l its := ⟨_, F.keep _ _ hl, rfl, _, rfl⟩
  refine ext_turn (acc := acc) (c := c) (v := .str x t) hacc fun E' => ?_
  refine next_map_item nM.1 nT.1 (hit _ _ nI.1) hls hx hMI fun h' E'' hI' hs' => ?_
  (refine (let Gk : Prop := _; (?_ : Gk)))
  obtain ⟨o', ho', hit'⟩ := iterO_of hI'
  have F2 := fr_but1 F nI.2.2 nI.2.1 fun b ob hb e => hs'.extBut b ob hb e
  have N2 : News h₀ L h' ((S, { cls := .type "list", data := .seq acc c }) :: (M, mapObj T (.ref 271)) :: (T, itsObj I) :: (I, o') :: news) := by
    intro p hp
    rcases List.mem_cons.mp hp with rfl | hp
    · exact ⟨hs'.extBut _ _ hSI nS.1, nS.2⟩
    rcases List.mem_cons.mp hp with rfl | hp
    · exact ⟨hs'.extBut _ _ hMI nM.1, nM.2⟩
    rcases List.mem_cons.mp hp with rfl | hp
    · exact ⟨hs'.extBut _ _ hTI nT.1, nT.2⟩
    rcases List.mem_cons.mp hp with rfl | hp
    · exact ⟨ho', nI.2⟩
    · have := N p (.tail _ (.tail _ (.tail _ (.tail _ hp))))
      exact ⟨hs'.extBut _ _ (hn p hp).2 this.1, this.2⟩
  ((show Gk); k_unfold; clear Gk)
  refine c_fspath w _ x t (s := { s with heap := h' }) (un := un + 1 + 1) B F2 X N2 Tp hk hdp (by lia) fun v news' h'' tk'' F3 N3 e => ?_
  obtain ⟨rfl, rfl⟩ := e
  have mS := N3 _ (.head _)
  refine ⟨rfl, mS.1, fun h3 hs3 hS3 => ?_⟩
  refine k h3 tk'' o' (fr_but1 F3 mS.2.2 mS.2.1 fun b ob hb e => hs3.extBut b ob hb e) ?_ hit'
  intro p hp
  rcases List.mem_cons.mp hp with rfl | hp
  · exact ⟨hS3, mS.2⟩
  have hp' := hp
  rcases List.mem_cons.mp hp with rfl | hp
  · exact ⟨hs3.extBut _ _ hSM.symm (N3 _ (.tail _ hp')).1, (N3 _ (.tail _ hp')).2⟩
  rcases List.mem_cons.mp hp with rfl | hp
  · exact ⟨hs3.extBut _ _ hST.symm (N3 _ (.tail _ hp')).1, (N3 _ (.tail _ hp')).2⟩
  rcases List.mem_cons.mp hp with rfl | hp
  · exact ⟨hs3.extBut _ _ hSI.symm (N3 _ (.tail _ hp')).1, (N3 _ (.tail _ hp')).2⟩
  · exact ⟨hs3.extBut _ _ (hn p hp).1 (N3 _ (.tail _ hp')).1, (N3 _ (.tail _ hp')).2⟩
theorem tuple_map2 {M T I l : Addr} {nl : Nat} {x y : Str} {t u : Tok} {news : Led} {Q E : Value → Shared → Prop}
    (B : Below A₀ base outer h₀) (F : Fr h₀ L s.heap m) (X : (hd.heap_39 w.params).In h₀) (Tp : Top p loose mean mg mb h₀) (hk : cs.kind = .function) (hdp : dp + 2 < recursionLimit) (hun : un + 60 < cLine)
    (N : News h₀ L s.heap ((M, mapObj T (.ref 271)) :: (T, itsObj I) :: (I, iterObj l 0) :: news)) (hn : ∀ p ∈ news, p.1 ≠ I) (hMI : M ≠ I) (hTI : T ≠ I)
    (hl : h₀.get? l = some { cls := .type "list", data := .seq #[.str x t, .str y u] nl })
    (k : ∀ D h' tk, Fr h₀ L h' m → News h₀ L h' ((D, { cls := .type "tuple", data := .seq #[.str x t, .str y u] }) :: news) → (∀ p ∈ news, p.1 < D) → Q (.ref D) { s with heap := h', toks := tk }) :
    wpAny (model PySem.Challenge.pw_rt0090_01 w) (ktrTop dp un gd cn cs L a ccd cl outer) (call (.type "tuple") [.ref M]) Q E s := by
  revert B F X Tp hk hdp hun N hn hMI hTI hl k
  revert w p loose mean mg mb dp un gd cn cs a ccd cl outer A₀ base h₀ L m s M T I l nl x y t u news Q E
  iterate 1 refine no_implicit_lambda% (Mine.pad1 ?_)
  refine' no_implicit_lambda% (Mine.hk34 ?ne ?_)
  case ne => (repeat' (first | (refine Mine.nePair ?_ ?_) | exact Mine.neWorld | exact Mine.neAround | exact Mine.neShared | infer_instance))
  generalize Mine.A2 _ = w; generalize Mine.A3 _ = p; generalize Mine.A4 _ = loose; generalize Mine.A5 _ = mean; generalize Mine.A6 _ = mg; generalize Mine.A7 _ = mb; generalize Mine.A8 _ = dp; generalize Mine.A9 _ = un; generalize Mine.A10 _ = gd; generalize Mine.A11 _ = cn; generalize Mine.A12 _ = cs; generalize Mine.A13 _ = a; generalize Mine.A14 _ = ccd; generalize Mine.A15 _ = cl; generalize Mine.A16 _ = outer; generalize Mine.A17 _ = A₀; generalize Mine.A18 _ = base; generalize Mine.A19 _ = h₀; generalize Mine.A20 _ = L; generalize Mine.A21 _ = m; generalize Mine.A22 _ = s; generalize Mine.A23 _ = M; generalize Mine.A24 _ = T; generalize Mine.A25 _ = I; generalize Mine.A26 _ = l; generalize Mine.A27 _ = nl; generalize Mine.A28 _ = x; generalize Mine.A29 _ = y; generalize Mine.A30 _ = t; generalize Mine.A31 _ = u; generalize Mine.A32 _ = news; generalize Mine.A33 _ = Q; generalize Mine.A34 _ = E
  intro uHk
  clear uHk
  intro B F X Tp hk hdp hun N hn hMI hTI hl k
  have hMg := (N _ (.head _)).1
  have hTI' : s.TypeIs (.ref M) "map" := ⟨_, hMg, rfl⟩
  refine callType_codes (Q₁ := fun obj s₁ => s₁.TypeIs obj "tuple" ∧ Q obj s₁) PySem.F.called_tuple (PySem.F.typeCall_tuple_1 _) PySem.F.entry_object_init ?_ fun obj s₁ h₁ => ?_
  · refine codeAny_of_tree ?_
    show wpAny _ _ (do checkBuiltinCall "tuple.__new__" ⟨[.type "tuple", .ref M], []⟩; again (.builtin "tuple.__new__" ⟨[.type "tuple", .ref M], []⟩)) _ _ s
    refine wpAny_bind (wpAny_of_eq (PySem.F.newCall_tuple_1 _) (wpAny_pure ⟨plainId_quiet PySem.F.plain_tuple_new _, codeAny_builtin PySem.F.entry_tuple_new ?_⟩))
    rw [Around.under_plainId PySem.F.plain_tuple_new _]
    have hsub := sub_tuple_self
    have hinit := init_tuple_lookup
    have hmh := madeHere_tuple
    wp_walk using wpAny_typeOf hTI', collect_map hMg
    intro h1 S R hS hSz kp ⟨c, hSl⟩ hR
    have F1 := fr_keeps F kp
    have N1 := news_put hSl (fr_ne F hS) (base_none F hS) (news_keeps N kp)
    have nM := N _ (.head _)
    have nT := N _ (.tail _ (.head _))
    have nI := N _ (.tail _ (.tail _ (.head _)))
    have hn1 : ∀ p ∈ news, p.1 ≠ S ∧ p.1 ≠ I := fun p hp => ⟨Ne.symm (get_ne hS (N p (.tail _ (.tail _ (.tail _ hp)))).1), hn p hp⟩
    have hSM : S ≠ M := get_ne hS nM.1
    have hST : S ≠ T := get_ne hS nT.1
    have hSI : S ≠ I := get_ne hS nI.1
    refine map_turn (s := { s with heap := h1 }) (un := un + 1 + 1) (i := 0) B F1 X Tp hk hdp (by lia) N1 hn1 hSM hST hSI hMI hTI hl (fun h I e => ⟨_, e, rfl, rfl⟩) (x := x) (t := t) rfl (by simp) fun h2 tk2 o2 F2 N2 it2 => ?_
    refine map_turn (s := { s with heap := h2, toks := tk2 }) (un := un + 1 + 1) (i := 1) B F2 X Tp hk hdp (by lia) N2 hn1 hSM hST hSI hMI hTI hl it2 (x := y) (t := u) rfl (by simp) fun h3 tk3 o3 F3 N3 it3 => ?_
    have mS := N3 _ (.head _)
    have mM := N3 _ (.tail _ (.head _))
    have mT := N3 _ (.tail _ (.tail _ (.head _)))
    have mI := N3 _ (.tail _ (.tail _ (.tail _ (.head _))))
    refine ext_end fun E' => ?_
    refine next_map_end (s := { s with heap := h3, toks := tk3 }) rfl mM.1 mT.1 (it3 _ _ mI.1) ⟨_, F3.keep _ _ hl, rfl, _, rfl⟩ rfl fun h4 he => ⟨rfl, hR { s with heap := h4, toks := tk3 } _ _ (he S _ hSI mS.1) ?_⟩
    have F4 := fr_but1 F3 mI.2.2 mI.2.1 fun b ob hb e => he b ob hb e
    refine wpAny_bind (wpAny_pure ?_)
    show wpAny _ _ (Builtin.Tuple.tupleExact _ >>= fun v => ret v) _ _ _
    unfold Builtin.Tuple.tupleExact
    refine wpAny_bind (wpAny_newObj_type ?_ (by show 2 ≤ sizeLine; rw [sizeLine_eq]; decide))
    refine wpAny_pure ⟨⟨_, Heap.get?_push_size _ rfl, rfl⟩, ?_⟩
    have N4 : News h₀ L h4 news := fun p hp => ⟨he _ _ (hn p hp) (N3 _ (.tail _ (.tail _ (.tail _ (.tail _ hp))))).1, (N3 _ (.tail _ (.tail _ (.tail _ (.tail _ hp))))).2⟩
    exact k _ _ _ (F4.push _) (News.push F4 N4 _ rfl) fun p hp => Heap.lt_size (N4 p hp).1
  · exact ⟨h₁.1, PySem.F.args_object_init_2 obj _, object_init_meets PySem.F.called_tuple.init.lookup PySem.F.called_tuple.made (by decide) _ w _ _ s₁ ⟨h₁.1, rfl, h₁.2⟩⟩
end
end Mine
namespace Mine
open PySem PySem.W PySem.Calls PyProof.Rows PySem.Spec
theorem map_led {prog : Program} {w : World} {A : Around} {E : Value → Shared → Prop} {s : Shared} {h₀ : Heap} {L l : Addr} {m : Str → Option Value} {news : Led} {its : Array Value} {n : Nat} {f : Value} {Q : Value → Shared → Prop}
    (F : Fr h₀ L s.heap m) (N : News h₀ L s.heap news) (hl : h₀.get? l = some { cls := .type "list", data := .seq its n })
    (h : ∀ M T I h', Fr h₀ L h' m → News h₀ L h' ((M, mapObj T f) :: (T, itsObj I) :: (I, iterObj l 0) :: news) → M ≠ I → T ≠ I → (∀ p ∈ news, p.1 ≠ I) → Q (.ref M) { s with heap := h' }) :
    wpAny (model prog w) A (call (.type "map") [f, .ref l]) Q E s := by
  refine call_map (items := its) ⟨_, F.keep _ _ hl, rfl, _, rfl⟩ ?_
  have F1 := F.push (iterObj l 0)
  have N1 := News.push F N (iterObj l 0) rfl
  have F2 := F1.push (itsObj s.heap.objs.size)
  have N2 := News.push F1 N1 (itsObj s.heap.objs.size) rfl
  have F3 := F2.push (mapObj (s.heap.objs.size + 1) f)
  have N3 := News.push F2 N2 (mapObj (s.heap.objs.size + 1) f) rfl
  simp only [Heap.size_push] at N2 N3
  have k1 : ∀ z : Nat, @Ne Nat (z + 1 + 1) z := fun z => by lia
  have k2 : ∀ z : Nat, @Ne Nat (z + 1) z := fun z => by lia
  exact h _ _ _ _ F3 N3 (k1 _) (k2 _) fun p hp => Nat.ne_of_lt (Heap.lt_size (N p hp).1)
section
variable {prog : Program} {w : World} {A : Around} {E : Value → Shared → Prop} {s : Shared} {h₀ : Heap} {L : Addr} {m : Str → Option Value} {env : Env}
noncomputable def SrcTup (prog : Program) (w : World) (A : Around) (h₀ : Heap) (L : Addr) (m : Str → Option Value) (env : Env) (elt : Expr) (x : Str) (scope : Scope) (cl : List (Str × Addr)) (Fin : Shared → List Value → Led → Prop) (xv : Value) (s₁ : Shared) : Prop :=
  ∃ ax its k news, xv = .ref ax ∧ A.handled = none ∧ Fr h₀ L s₁.heap m ∧ News h₀ L s₁.heap news ∧ (ax, ({ cls := .type "tuple", data := .seq its k } : Obj)) ∈ news ∧ its.size ≤ sizeLine ∧
    ∀ g, LCg.CompRest prog w A h₀ L m env elt x scope cl { s₁ with heap := g } (fun nw => (ax, ({ cls := .type "tuple", data := .seq its k } : Obj)) ∈ nw) (fun i v => its[i]? = some v) (Fin { s₁ with heap := g }) its.size 0 [] news
theorem assign_comp_tup {elt iter : Expr} {x y : Str} {px py : Pos} {scope : Scope} {cl : List (Str × Addr)} {pos spos : Pos} {Q : Flow → Shared → Prop} (F₀ : Fr h₀ L s.heap m) (hLe : env.locals = L)
    (hsw : swapsWith (.ListComp elt [⟨.Name x px, iter, [], 0⟩] scope pos) (some (.Name y py)) spos.line env = pure true)
    (hclos : closureFor scope env = pure cl) (hcell : ∀ z ∈ scope.names, z.2 ≠ .cell) (hkind : scope.kind = .function)
    (hnames : ∀ z ∈ scope.names, z.2 = .local → scope.names.lookup z.1 = some .local) (hx : scope.names.lookup x = some .local)
    (hy : env.kindOf y = some .local) (hp : (env.scope.kind == .class || (env.scope.kind == .module && env.locals != env.globals)) = false)
    (h : wpAny (model prog w) A (eval iter env) (SrcTup prog w A h₀ L m env elt x scope cl (fun s₂ => LCg.FinA h₀ L m s₂ y Q)) E s)
    (hs : ∀ x, foldedSetIterable iter env x = pure x := by intro _; rfl) :
    wpAny (model prog w) A (exec (.Assign [.Name y py] (.ListComp elt [⟨.Name x px, iter, [], 0⟩] scope pos) spos) env) Q E s := by
  revert F₀ hLe hsw hclos hcell hkind hnames hx hy hp h hs
  revert prog w A E s h₀ L m env elt iter x y px py scope cl pos spos Q
  iterate 1 refine no_implicit_lambda% (Mine.pad1 ?_)
  refine' no_implicit_lambda% (Mine.hk21 ?ne ?_)
  case ne => (repeat' (first | (refine Mine.nePair ?_ ?_) | exact Mine.neWorld | exact Mine.neAround | exact Mine.neShared | infer_instance))
  generalize Mine.A2 _ = prog; generalize Mine.A3 _ = w; generalize Mine.A4 _ = A; generalize Mine.A5 _ = E; generalize Mine.A6 _ = s; generalize Mine.A7 _ = h₀; generalize Mine.A8 _ = L; generalize Mine.A9 _ = m; generalize Mine.A10 _ = env; generalize Mine.A11 _ = elt; generalize Mine.A12 _ = iter; generalize Mine.A13 _ = x; generalize Mine.A14 _ = y; generalize Mine.A15 _ = px; generalize Mine.A16 _ = py; generalize Mine.A17 _ = scope; generalize Mine.A18 _ = cl; generalize Mine.A19 _ = pos; generalize Mine.A20 _ = spos; generalize Mine.A21 _ = Q
  intro uHk
  clear uHk
  intro F₀ hLe hsw hclos hcell hkind hnames hx hy hp h hs
  subst hLe
  rw [exec_Assign_Name_used _ _ _ _ hsw]
  refine wpAny_bind (wpAny_standAt (wpAny_bind ?_))
  show wpAny _ A (do let _ ← comprehension (.ListComp elt [⟨.Name x px, iter, [], 0⟩] scope pos) scope env _ (newList []) false (eval iter env) (some (assign (.Name y py) env))) _ _ s
  refine wpAny_bind (wpAny_mono (wpAny_comprehension_free (use := some (assign (.Name y py) env)) (Q := fun _ s' => Q .next s') rfl hs hclos hkind hnames
    (wpAny_mono h (fun xv s₁ h₁ => ?_) fun _ _ e => e)) (fun _ s' hq => wpAny_pure (wpAny_pure hq)) fun _ _ e => e)
  (refine (let Gk : Prop := _; (?_ : Gk)))
  obtain ⟨ax, its, k, news, rfl, hh, F, N, hm, hsz, R⟩ := h₁
  have hl : s₁.heap.IsTuple ax its := ⟨_, (N _ hm).1, rfl, k, rfl⟩
  have hlt : ax < s₁.heap.objs.size := by obtain ⟨_, e, _⟩ := hl; exact Heap.lt_size e
  ((show Gk); k_unfold; clear Gk)
  refine wpAny_pyIter_tuple hl ?_
  have up : ∀ b o, s₁.heap.get? b = some o → (s₁.heap.push { cls := .type "tuple_iterator", data := .fields #[.ref ax, .int 0 0] }).get? b = some o := fun b o e => Heap.get?_push_of_some _ e
  refine LCg.block_U (Walks.tuple hh s₁.heap.objs.size ax (Nat.ne_of_lt hlt) its) hsz (fun i h st => by obtain ⟨o, e, _⟩ := st.1; exact ⟨o, e⟩)
    (fun i h h' o nw st e e' kp N' hS => ⟨st.1.at fun o' q => by rw [e] at q; cases q; exact e', ⟨_, (N' _ hS).1, rfl, k, rfl⟩⟩) hcell hkind hx ⟨⟨_, Heap.get?_push_size _ rfl, rfl, rfl⟩, hl.at fun o e => up _ _ e⟩ (fun b hb => ?_)
    (F.keeps up) (N.grown up) (Nat.ne_of_lt F.ns.lt) (next_is_new F) (fun p hp => Nat.ne_of_lt (Heap.lt_size (N p hp).1)) hm (R _) ?_
  · show b < (s₁.heap.push _).objs.size
    rw [Heap.size_push]
    rcases List.mem_cons.mp hb with rfl | hb
    · exact Nat.lt_succ_self _
    · rw [List.mem_singleton.mp hb]; exact Nat.lt_succ_of_lt hlt
  · intro D C h' tk m' ys news' F' N' o1 hn hC₀ hD₀ hCL hDL hCD offC fin
    show wpAny _ A (assign (.Name y py) env (.ref D)) _ _ _
    refine wpAny_assign_Name (wpAny_storeName_local hy F'.ns (fun h₂ hn₂ hs₂ => ?_) hp)
    have hL₀ : h₀.get? env.locals = none := Heap.get?_none_of_le F'.above
    have F₂ : Fr h₀ env.locals h₂ (fun z => if z = y then some (.ref D) else m z) := ⟨hn₂, fun b o e => hs₂.extBut b o (fun q => by rw [q, hL₀] at e; cases e) (F'.keep b o e), F'.above⟩
    refine ⟨m', hn.sameBut hs₂ hCL, fun h'' hs'' => fin D h'' _ (F₂.change hs'' hCL hC₀) (fun p hp => ?_) o1⟩
    have z : h₂.get? p.1 = some p.2 := hs₂.extBut _ _ (N' p hp).2.1 (N' p hp).1
    refine ⟨hs''.extBut _ _ ?_ z, (N' p hp).2⟩
    rcases List.mem_cons.mp hp with rfl | hp
    · exact Ne.symm hCD
    · exact offC p hp
end
end Mine
namespace Mine
open PySem PySem.W PySem.Calls PyProof.Rows
theorem with_split {h₀ h : Heap} {L a1 : Addr} {l1 : List (Str × Tok)} {r : Led} {P : Prop} (_ : News h₀ L h ((a1, W.listOf (strValues l1).toArray 0) :: r)) (k : ∀ b1 l2, b1 = a1 → l2 = l1 → P) : P := k a1 l1 rfl rfl
theorem Strs.of_vals (l : List (Str × Tok)) : Strs (strValues l) (l.map (·.1)) := by
  induction l with
  | nil => exact .nil
  | cons _ _ ih => exact .cons ih
end Mine
namespace Mine
open PySem PySem.W PySem.Calls PyProof.Rows
noncomputable def setTab0 (b : Bool) : SetTable := .fresh (finger := 0) (moves := 0) (led := b)
noncomputable def setObj0 (b : Bool) : Obj := { cls := .type "set", data := .set #[] 0 (setTab0 b) }
theorem lay1 (b : Bool) : ∃ t1, layNew (setTab0 b) #[] 1 (.bool true) = (#[(1, .bool true)], t1, false, false) ∧ t1.led = b ∧ t1.plain = true ∧ t1.place = #[1] ∧ t1.tooFull = false ∧ t1.fits 1 = true := by
  cases b
  · exact ⟨_, rfl, rfl, rfl, rfl, rfl, rfl⟩
  · exact ⟨_, rfl, rfl, rfl, rfl, rfl, rfl⟩
section
variable {prog : Program} {w : World} {A : Around} {E : Value → Shared → Prop} {s : Shared}
theorem hash_true {Q : Int → Shared → Prop} (h : Q 1 { s with toks := s.toks + 1 }) : wpAny (model prog w) A (pyHash (.bool true)) Q E s := by
  unfold pyHash pyHashByItsType
  have hv : [Value.bool true].any Value.onHeap = false := rfl
  refine wpAny_bind ?_
  rw [cRoomFor, if_neg (by rw [hv]; exact Bool.false_ne_true)]; refine wpAny_pure ?_
  refine wpAny_bind (wpAny_specialOf (PySem.typeIs_bool s true) F.slot_bool_hash.lookup ?_)
  show wpAny _ _ (if (some (Value.builtin "int.__hash__") == some Value.none) = true then _ else _) Q E s
  rw [if_neg (by rw [beq_builtin_none]; exact Bool.false_ne_true)]
  refine wpAny_bind (wpAny_specialOf (PySem.typeIs_bool s true) F.slot_bool_hash.lookup ?_)
  show wpAny _ _ (callSpecialIfBoundUnlessNone? (.bool true) "__hash__" _ >>= _) Q E s
  refine wpAny_bind (wpAny_callSpecialIfBoundUnlessNone?_slot (PySem.typeIs_bool s true) F.slot_bool_hash
    (wpAny_call_entry F.slot_bool_hash (PySem.typeIs_bool s true) entry_int_hash
      (show wpAny _ _ (do ret (← mkInt 1)) _ _ s from wpAny_ret_mkInt ?_) (args_int_hash _)))
  exact wpAny_pure h
theorem scan_add {a : Addr} {o : Obj} {t0 t1 : SetTable} {Q : Bool → Shared → Prop} (ha : s.heap.get? a = some o) (hd : o.data = .set #[] 0 t0) (hf : t0.fits 0 = true)
    (hl : layNew t0 #[] 1 (.bool true) = (#[(1, .bool true)], t1, false, false)) (h1 : t1.plain = true) (h2 : t1.tooFull = false)
    (h : wpAny (model prog w) A (storeSet a #[(1, .bool true)] t1) (fun _ s' => Q true s') E s) : wpAny (model prog w) A (setAddHashed a (.bool true) 1) Q E s := by
  revert t0 t1 Q ha hd hf hl h1 h2 h
  revert prog w A E s a o
  iterate 1 refine no_implicit_lambda% (Mine.pad1 ?_)
  refine' no_implicit_lambda% (Mine.hk8 ?ne ?_)
  case ne => (repeat' (first | (refine Mine.nePair ?_ ?_) | exact Mine.neWorld | exact Mine.neAround | exact Mine.neShared | infer_instance))
  generalize Mine.A2 _ = prog; generalize Mine.A3 _ = w; generalize Mine.A4 _ = A; generalize Mine.A5 _ = E; generalize Mine.A6 _ = s; generalize Mine.A7 _ = a; generalize Mine.A8 _ = o
  intro uHk
  clear uHk
  intro t0 t1 Q ha hd hf hl h1 h2 h
  unfold setAddHashed setAddHashedIn
  refine wpAny_holding (wpAny_bind (wpAny_setState_of ha hd hf ?_))
  try dsimp only
  rw [show byScan (.bool true) #[] = true from by decide +kernel]
  simp only [↓reduceIte]
  unfold setAddByScan
  refine wpAny_bind ?_
  refine wpAny_bind (wpAny_rule ?_)
  show wpAny _ _ (setScanFrom a (.bool true) 1 true [] 0 >>= _) _ _ s
  unfold setScanFrom
  refine wpAny_bind (wpAny_pure ?_)
  try dsimp only
  rw [hl]
  try dsimp only
  refine wpAny_bind (wpAny_pure ?_)
  rw [h1, if_pos rfl]
  refine wpAny_bind ?_
  rw [hashByValue_scannable 8 rfl]
  refine wpAny_pure ?_
  rw [show plainKind (.bool true) = true from by decide +kernel]
  simp only [↓reduceIte]
  refine wpAny_bind (wpAny_mono h (fun _ s' hq => ?_) fun _ _ e => e)
  simp only [h2, Bool.not_false, Bool.and_false, Bool.false_eq_true, ↓reduceIte]
  exact wpAny_pure (wpAny_pure hq)
noncomputable def setObj1 (t1 : SetTable) (ep : Nat) : Obj := { cls := .type "set", data := .set #[(1, .bool true)] ep t1 }
theorem set_add1 {a : Addr} {b : Bool} {Q : Value → Shared → Prop} (ha : s.heap.get? a = some (setObj0 b))
    (h : ∀ h' ep t1, Heap.SameBut a s.heap h' → h'.get? a = some (setObj1 t1 ep) → t1.led = b → t1.plain = true → t1.place = #[1] → t1.fits 1 = true → Q .none { s with heap := h', toks := s.toks + 1 }) : wpAny (model prog w) A (call (.builtin "set.add") [.ref a, .bool true]) Q E s := by
  revert ha h
  revert prog w A E s a b Q
  refine' no_implicit_lambda% (Mine.hk8 ?ne ?_)
  case ne => (repeat' (first | (refine Mine.nePair ?_ ?_) | exact Mine.neWorld | exact Mine.neAround | exact Mine.neShared | infer_instance))
  generalize Mine.A1 _ = prog; generalize Mine.A2 _ = w; generalize Mine.A3 _ = A; generalize Mine.A4 _ = E; generalize Mine.A5 _ = s; generalize Mine.A6 _ = a; generalize Mine.A7 _ = b; generalize Mine.A8 _ = Q
  intro uHk
  clear uHk
  intro ha h
  have hT : s.TypeIs (.ref a) "set" := ⟨_, ha, rfl⟩
  (refine (let Gk : Prop := _; (?_ : Gk)))
  obtain ⟨t1, l1, l2, l3, l4, l5, l6⟩ := lay1 b
  ((show Gk); k_unfold; clear Gk)
  refine wpAny_call_entry F.slot_set_add hT F.entry_set_add ?_ (F.args_set_add_2 _ _)
  unfold Builtin.«set.add» Builtin.Frozenset.oneOther
  simp only [List.isEmpty_nil, bind_assoc]
  unfold Builtin.Frozenset.addrOf setAdd
  refine wpAny_bind (wpAny_pure ?_)
  try dsimp only
  refine wpAny_bind (wpAny_pure ?_)
  try dsimp only
  refine wpAny_bind ?_
  refine wpAny_holding ?_
  refine wpAny_bind (hash_true ?_)
  refine scan_add (s := { s with toks := s.toks + 1 }) ha rfl (by cases b <;> rfl) l1 l3 l5 ?_
  refine wpAny_storeSet_of (s := { s with toks := s.toks + 1 }) ha rfl ?_ (by show 1 ≤ sizeLine; rw [sizeLine_eq]; decide)
  show wpAny _ _ (ret Value.none) _ _ _
  refine wpAny_pure ⟨_, rfl, h _ 1 t1 (Heap.SameBut.update ..) ?_ l2 l3 l4 l6⟩
  rw [Heap.get?_update_self _ ha rfl]
  rfl
theorem scan_found {a : Addr} {o : Obj} {ep : Nat} {t1 : SetTable} {Q : Bool → Shared → Prop} (ha : s.heap.get? a = some o) (hd : o.data = .set #[(1, .bool true)] ep t1) (hf : t1.fits 1 = true)
    (h : Q false s) : wpAny (model prog w) A (setAddHashed a (.bool true) 1) Q E s := by
  revert t1 Q ha hd hf h
  revert prog w A E s a o ep
  refine' no_implicit_lambda% (Mine.hk8 ?ne ?_)
  case ne => (repeat' (first | (refine Mine.nePair ?_ ?_) | exact Mine.neWorld | exact Mine.neAround | exact Mine.neShared | infer_instance))
  generalize Mine.A1 _ = prog; generalize Mine.A2 _ = w; generalize Mine.A3 _ = A; generalize Mine.A4 _ = E; generalize Mine.A5 _ = s; generalize Mine.A6 _ = a; generalize Mine.A7 _ = o; generalize Mine.A8 _ = ep
  intro uHk
  clear uHk
  intro t1 Q ha hd hf h
  unfold setAddHashed setAddHashedIn
  refine wpAny_holding (wpAny_bind (wpAny_setState_of ha hd hf ?_))
  try dsimp only
  rw [show byScan (.bool true) #[(1, .bool true)] = true from by decide +kernel]
  simp only [↓reduceIte]
  unfold setAddByScan
  refine wpAny_bind ?_
  refine wpAny_bind (wpAny_rule ?_)
  show wpAny _ _ (setScanFrom a (.bool true) 1 true [(1, .bool true)] 0 >>= _) _ _ s
  unfold setScanFrom
  refine wpAny_bind ?_
  simp only [beq_self_eq_true, ↓reduceIte]
  refine wpAny_bind (wpAny_setEpoch_of ha hd hf ?_)
  refine wpAny_bind ?_
  unfold eqBool
  refine wpAny_holding ?_
  rw [if_pos (by decide +kernel)]
  refine wpAny_bind (wpAny_rule (wpAny_pure ?_))
  simp only [Bool.and_self, ↓reduceIte]
  refine wpAny_pure (wpAny_pure ?_)
  exact wpAny_pure h
theorem set_add2 {a : Addr} {t1 : SetTable} {ep : Nat} {Q : Value → Shared → Prop} (ha : s.heap.get? a = some (setObj1 t1 ep)) (hf : t1.fits 1 = true)
    (h : Q .none { s with toks := s.toks + 1 }) : wpAny (model prog w) A (call (.builtin "set.add") [.ref a, .bool true]) Q E s := by
  have hT : s.TypeIs (.ref a) "set" := ⟨_, ha, rfl⟩
  refine wpAny_call_entry F.slot_set_add hT F.entry_set_add ?_ (F.args_set_add_2 _ _)
  unfold Builtin.«set.add» Builtin.Frozenset.oneOther
  simp only [List.isEmpty_nil, bind_assoc]
  unfold Builtin.Frozenset.addrOf setAdd
  refine wpAny_bind (wpAny_pure ?_)
  try dsimp only
  refine wpAny_bind (wpAny_pure ?_)
  try dsimp only
  refine wpAny_bind ?_
  refine wpAny_holding ?_
  refine wpAny_bind (hash_true ?_)
  refine scan_found (s := { s with toks := s.toks + 1 }) ha rfl hf ?_
  show wpAny _ _ (ret Value.none) _ _ _
  exact wpAny_pure ⟨_, rfl, h⟩
end
end Mine
theorem Mine.off11 : True := by w_top off; trivial
namespace Mine
open PySem PySem.W PySem.Calls PyProof.Rows
theorem entry_set_iter' : entryFor table "set.__iter__" = some Builtin.«frozenset.__iter__» :=
  entryFor_alias (id' := "frozenset.__iter__") (by kernel_rfl) (by first | rfl | decide +kernel | (unfold String.splitOn; simp +decide [String.splitOnAux])) (by decide +kernel) (by kernel_rfl)
theorem args_set_iter_1 (a : Value) : argsOk "set.__iter__" ⟨[a], []⟩ := by unfold argsOk; kernel_rfl
theorem slot_si_next : Slot "set_iterator" "__next__" "set_iterator.__next__" :=
  .of (owner := "set_iterator") (n := "__next__") (by rw [typeLookup_type, builtinLookup_eq_fast]; kernel_rfl) (by decide +kernel) (by decide +kernel) (by decide +kernel)
    (by first | exact .inl (by decide +kernel) | exact .inr (by decide +kernel)) (by rw [isSubtype_type]; kernel_rfl)
theorem entry_si_next : entryFor table "set_iterator.__next__" = some Builtin.«set_iterator.__next__» := entryFor_of_tree (by kernel_rfl)
theorem args_si_next_1 (a : Value) : argsOk "set_iterator.__next__" ⟨[a], []⟩ := by unfold argsOk; kernel_rfl
section
variable {prog : Program} {w : World} {A : Around} {E : Value → Shared → Prop} {s : Shared}
noncomputable def setIt (first i : Int) (a : Value) (ep : Nat) : Obj := { cls := .type "set_iterator", data := .fields #[.int first 0, .int i 0, a, .int 1 0, .int ep 0] }
theorem pyIter_set1 {a : Addr} {t1 : SetTable} {ep : Nat} {Q : Value → Shared → Prop} (ha : s.heap.get? a = some (setObj1 t1 ep)) (hf : t1.fits 1 = true) (hp : t1.plain = true)
    (h : Q (.ref s.heap.objs.size) { s with heap := s.heap.push (setIt 0 0 (.ref a) ep) }) : wpAny (model prog w) A (pyIter (.ref a)) Q E s := by
  revert t1 ha hf hp h
  revert prog w A E s a ep Q
  refine' no_implicit_lambda% (Mine.hk8 ?ne ?_)
  case ne => (repeat' (first | (refine Mine.nePair ?_ ?_) | exact Mine.neWorld | exact Mine.neAround | exact Mine.neShared | infer_instance))
  generalize Mine.A1 _ = prog; generalize Mine.A2 _ = w; generalize Mine.A3 _ = A; generalize Mine.A4 _ = E; generalize Mine.A5 _ = s; generalize Mine.A6 _ = a; generalize Mine.A7 _ = ep; generalize Mine.A8 _ = Q
  intro uHk
  clear uHk
  intro t1 ha hf hp h
  have hT : s.TypeIs (.ref a) "set" := ⟨_, ha, rfl⟩
  refine wpAny_pyIter_slot hT F.slot_set_iter (wpAny_call_entry F.slot_set_iter hT entry_set_iter' ?_ (args_set_iter_1 _))
  unfold Builtin.«frozenset.__iter__» Builtin.Frozenset.slot0 slotArgs Builtin.Frozenset.addrOf Builtin.Frozenset.sizeOf setEntries
  wp_walk using wpAny_setState_of ha rfl hf
  refine wpAny_askSetting ?_
  refine wpAny_pure (wpAny_pure ?_)
  rw [if_neg (by cases (w.params.followText "set-order") <;> (show ¬ ((!_ && (!t1.plain && _)) = true); simp [hp]))]
  refine wpAny_bind (wpAny_pure ?_)
  refine wpAny_bind (wpAny_setEpoch_of ha rfl hf ?_)
  refine wpAny_bind (wpAny_newObj_type ?_)
  exact wpAny_pure ⟨_, rfl, "set_iterator", _, ⟨_, Heap.get?_push_size _ rfl, rfl⟩, slot_si_next.lookup, h⟩
end
end Mine
namespace Mine
open PySem PySem.W PySem.Calls PyProof.Rows PySem.Spec
noncomputable def SetSt (w : World) (i : Nat) (o : Obj) : Prop := if i = 0 then o = setObj0 (!w.params.followText "set-order") else ∃ t1 ep, o = setObj1 t1 ep ∧ t1.led = (!w.params.followText "set-order") ∧ t1.plain = true ∧ t1.place = #[1] ∧ t1.fits 1 = true
section
variable {prog : Program} {w : World} {A : Around} {E : Value → Shared → Prop} {s : Shared}
theorem set_addT {D : Addr} {o : Obj} {i : Nat} {Q : Value → Shared → Prop} (ho : s.heap.get? D = some o) (hs : SetSt w i o)
    (h : ∀ h' o' tk, Heap.SameBut D s.heap h' → h'.get? D = some o' → SetSt w (i + 1) o' → Q .none { s with heap := h', toks := tk }) : wpAny (model prog w) A (call (.builtin "set.add") [.ref D, .bool true]) Q E s := by
  unfold SetSt at hs
  split at hs
  · subst hs
    refine set_add1 ho fun h' ep t1 k e l1 l2 l3 l4 => h h' _ _ k e ?_
    exact ⟨t1, ep, rfl, l1, l2, l3, l4⟩
  · (refine (let Gk : Prop := _; (?_ : Gk)))
    obtain ⟨t1, ep, rfl, l1, l2, l3, l4⟩ := hs
    ((show Gk); k_unfold; clear Gk)
    refine set_add2 ho l4 (h s.heap _ _ ⟨rfl, fun _ _ => rfl⟩ ho ⟨t1, ep, rfl, l1, l2, l3, l4⟩)
theorem new_set {Q : Value → Shared → Prop} (h : ∀ b, b = (!w.params.followText "set-order") → Q (.ref s.heap.objs.size) { s with heap := s.heap.push (setObj0 b) }) : wpAny (model prog w) A (newSet (.type "set")) Q E s := by
  unfold newSet setsByText
  refine wpAny_bind (wpAny_bind (wpAny_askSetting (wpAny_pure ?_)))
  try dsimp only
  exact wpAny_newObj_type (h _ rfl)
theorem compTurn_set1 (elt target iter : Expr) (scope : Scope) (pos : Pos) (it acc : Value) (env : Env) :
    compTurn (.SetComp elt [⟨target, iter, [], 0⟩] scope pos) 0 it acc env = (standAt iter.pos >>= fun _ => pyNext it >>= fun r => match r with
      | none => pure (.done .next)
      | some v => letOwnedTupleGo target it v >>= fun _ => assign target env v >>= fun _ =>
        (eval elt env >>= fun x => standAt elt.pos >>= fun _ => call (.builtin "set.add") [acc, x] >>= fun _ => pure ()) >>= fun _ =>
          again (.compLoop (.SetComp elt [⟨target, iter, [], 0⟩] scope pos) 0 it acc env)) := by rfl
theorem compLoop_set {elt target iter : Expr} {scope : Scope} {pos : Pos} {it acc : Value} {env : Env} {R : Result → Shared → Prop} (I : Nat → Shared → Prop)
    (turn : ∀ n s, I n s → wpAny (model prog w) A (pyNext it) (fun r s₁ => match r with
      | none => R (.ok .next) s₁
      | some v => wpAny (model prog w) A (assign target env v) (fun _ s₂ =>
            wpAny (model prog w) A (eval elt env) (fun x s₄ =>
              wpAny (model prog w) A (call (.builtin "set.add") [acc, x]) (fun _ s₅ => ∃ m, m < n ∧ I m s₅) (notedBy (model prog w) A env fun e s' => R (.error e) s') s₄) (notedBy (model prog w) A env fun e s' => R (.error e) s') s₂)
             (notedBy (model prog w) A env fun e s' => R (.error e) s') s₁) (notedBy (model prog w) A env fun e s' => R (.error e) s') s)
    (n : Nat) (h : I n s) (ht : ∀ v, letOwnedTupleGo target it v = pure () := by intro _; rfl) :
    codeAny (model prog w) A (.compLoop (.SetComp elt [⟨target, iter, [], 0⟩] scope pos) 0 it acc env) R s := by
  revert R I turn h ht
  revert prog w A s elt target iter scope pos it acc env n
  iterate 3 refine no_implicit_lambda% (Mine.pad1 ?_)
  refine' no_implicit_lambda% (Mine.hk16 ?ne ?_)
  case ne => (repeat' (first | (refine Mine.nePair ?_ ?_) | exact Mine.neWorld | exact Mine.neAround | exact Mine.neShared | infer_instance))
  generalize Mine.A4 _ = prog; generalize Mine.A5 _ = w; generalize Mine.A6 _ = A; generalize Mine.A7 _ = s; generalize Mine.A8 _ = elt; generalize Mine.A9 _ = target; generalize Mine.A10 _ = iter; generalize Mine.A11 _ = scope; generalize Mine.A12 _ = pos; generalize Mine.A13 _ = it; generalize Mine.A14 _ = acc; generalize Mine.A15 _ = env; generalize Mine.A16 _ = n
  intro uHk
  clear uHk
  intro R I turn h ht
  refine codeAny_loop rfl I (fun n s hI => ?_) n h
  show wpAny _ A ((compTurn (.SetComp elt [⟨target, iter, [], 0⟩] scope pos) 0 it acc env).onRaise (fun x => do noteFrame x env; theTreesLotGoes x)) _ _ s
  refine wpAny_noted ?_
  rw [compTurn_set1]
  refine wpAny_bind (wpAny_standAt (wpAny_bind (wpAny_mono (turn n s hI) (fun r s₁ h₁ => ?_) fun _ _ h' => h')))
  cases r with
  | none => exact wpAny_pure h₁
  | some v =>
    refine wpAny_bind (wpAny_of_eq (ht v) ?_)
    refine wpAny_bind (wpAny_mono h₁ (fun _ s₂ h₂ => ?_) fun _ _ h' => h')
    exact wpAny_bind (wpAny_bind (wpAny_mono h₂ (fun x s₄ h₄ => wpAny_bind (wpAny_standAt (wpAny_bind (wpAny_mono h₄ (fun _ s₅ h₅ => wpAny_pure (wpAny_pure ⟨rfl, h₅⟩)) fun _ _ h' => h')))) fun _ _ h' => h'))
theorem compStart_set {elt target iter ifs rest scope pos it acc env} {R : Result → Shared → Prop}
    (h0 : codeAny (model prog w) A (.compLoop (.SetComp elt (⟨target, iter, ifs, 0⟩ :: rest) scope pos) 0 it acc env) R s)
    (h : wpAny (model prog w) A (pyIter it) (fun it' s' => codeAny (model prog w) A (.compLoop (.SetComp elt (⟨target, iter, ifs, 0⟩ :: rest) scope pos) 0 it' acc env) R s')
      (notedBy (model prog w) A env fun x s' => R (.error x) s') s) :
    codeAny (model prog w) A (.compStart (.SetComp elt (⟨target, iter, ifs, 0⟩ :: rest) scope pos) 0 it acc env) R s := by
  refine codeAny_of_tree ?_
  show wpAny _ _ ((compStart (.SetComp elt (⟨target, iter, ifs, 0⟩ :: rest) scope pos) 0 it acc env).onRaise (fun x => do noteFrame x env; standAt theWindowsPlace)) _ _ s
  refine wpAny_notedAt ?_
  unfold compStart
  show wpAny _ _ (ask >>= _) _ _ s
  refine wpAny_bind (wpAny_askSetting (wpAny_ite ?_))
  split
  · first
      | exact wpAny_bind (wpAny_pure (wpAny_pure (And.intro rfl h0)))
      | exact wpAny_pure (And.intro rfl h0)
  · first
      | exact wpAny_bind (wpAny_rule (wpAny_bind (wpAny_standAt (wpAny_bind (wpAny_mono h (fun it' s' h' => wpAny_pure (And.intro rfl h')) fun _ _ x => x)))))
      | (refine wpAny_bind (wpAny_rule ?_); show wpAny _ _ (standAt iter.pos >>= _) _ _ s; exact wpAny_bind (wpAny_standAt (wpAny_bind (wpAny_mono h (fun it' s' h' => wpAny_pure (And.intro rfl h')) fun _ _ x => x))))
variable {h₀ : Heap} {L : Addr} {m : Str → Option Value} {env : Env}
noncomputable def SetSrc (prog : Program) (w : World) (A : Around) (h₀ : Heap) (L : Addr) (m : Str → Option Value) (env : Env) (elt : Expr) (x : Str) (scope : Scope) (cl : List (Str × Addr)) (Q : Value → Shared → Prop) (xv : Value) (s₁ : Shared) : Prop :=
  ∃ (ax : Addr) (its : Array Value) (k : Nat) (news : Led), xv = .ref ax ∧ A.handled = none ∧ Fr h₀ L s₁.heap m ∧ News h₀ L s₁.heap news ∧ (ax, ({ cls := .type "tuple", data := .seq its k } : Obj)) ∈ news ∧ its.size ≤ 100 ∧ 0 < its.size ∧
    (∀ (i : Nat) (v : Value) I oI C oC D oD m₂ h tk (E' : Value → Shared → Prop), its[i]? = some v → LCg.NsObj oC m₂ → m₂ x = some v → Fr h₀ L h m → News h₀ L h ((I, oI) :: (C, oC) :: (D, oD) :: news) →
      wpAny (model prog w) A (eval elt (compEnvC scope cl C env)) (fun y s₂ => y = .bool true ∧ ∃ h' tk', s₂ = { s₁ with heap := h', toks := tk' } ∧ Fr h₀ L h' m ∧ News h₀ L h' ((I, oI) :: (C, oC) :: (D, oD) :: news)) E' { s₁ with heap := h, toks := tk }) ∧
    (∀ D t1 ep h tk, t1.led = (!w.params.followText "set-order") → t1.plain = true → t1.place = #[1] → t1.fits 1 = true → Fr h₀ L h m → News h₀ L h ((D, setObj1 t1 ep) :: news) → LCg.Off1 D news → Q (.ref D) { s₁ with heap := h, toks := tk })
theorem setComp_tup {elt iter : Expr} {x : Str} {px : Pos} {scope : Scope} {cl : List (Str × Addr)} {pos : Pos} {Q : Value → Shared → Prop} (F₀ : Fr h₀ L s.heap m)
    (hclos : closureFor scope env = pure cl) (hcell : ∀ y ∈ scope.names, y.2 ≠ .cell) (hkind : scope.kind = .function)
    (hnames : ∀ y ∈ scope.names, y.2 = .local → scope.names.lookup y.1 = some .local) (hx : scope.names.lookup x = some .local)
    (h : wpAny (model prog w) A (eval iter env) (SetSrc prog w A h₀ L m env elt x scope cl Q) E s)
    (hs : ∀ x, foldedSetIterable iter env x = pure x := by intro _; rfl) :
    wpAny (model prog w) A (eval (.SetComp elt [⟨.Name x px, iter, [], 0⟩] scope pos) env) Q E s := by
  revert F₀ hclos hcell hkind hnames hx h hs
  revert prog w A E s h₀ L m env elt iter x px scope cl pos Q
  iterate 4 refine no_implicit_lambda% (Mine.pad1 ?_)
  refine' no_implicit_lambda% (Mine.hk21 ?ne ?_)
  case ne => (repeat' (first | (refine Mine.nePair ?_ ?_) | exact Mine.neWorld | exact Mine.neAround | exact Mine.neShared | infer_instance))
  generalize Mine.A5 _ = prog; generalize Mine.A6 _ = w; generalize Mine.A7 _ = A; generalize Mine.A8 _ = E; generalize Mine.A9 _ = s; generalize Mine.A10 _ = h₀; generalize Mine.A11 _ = L; generalize Mine.A12 _ = m; generalize Mine.A13 _ = env; generalize Mine.A14 _ = elt; generalize Mine.A15 _ = iter; generalize Mine.A16 _ = x; generalize Mine.A17 _ = px; generalize Mine.A18 _ = scope; generalize Mine.A19 _ = cl; generalize Mine.A20 _ = pos; generalize Mine.A21 _ = Q
  intro uHk
  clear uHk
  intro F₀ hclos hcell hkind hnames hx h hs
  rw [arm_eval_SetComp]
  refine wpAny_comprehension_free (use := none) rfl hs hclos hkind hnames (wpAny_mono h (fun xv s₁ h₁ => ?_) fun _ _ e => e)
  (refine (let Gk : Prop := _; (?_ : Gk)))
  obtain ⟨ax, its, k, news, rfl, hh, F, N, hm, hsz, hpos, R, fin⟩ := h₁
  have hl : s₁.heap.IsTuple ax its := ⟨_, (N _ hm).1, rfl, k, rfl⟩
  have hlt : ax < s₁.heap.objs.size := by obtain ⟨_, e, _⟩ := hl; exact Heap.lt_size e
  ((show Gk); k_unfold; clear Gk)
  refine wpAny_pyIter_tuple hl ?_
  have hI₀ : h₀.get? s₁.heap.objs.size = none := next_is_new F
  have hIL : L ≠ s₁.heap.objs.size := Nat.ne_of_lt F.ns.lt
  generalize hH1 : s₁.heap.push { cls := .type "tuple_iterator", data := .fields #[.ref ax, .int 0 0] } = H1
  have z1 : H1.objs.size = s₁.heap.objs.size + 1 := by rw [← hH1, Heap.size_push]
  have F1 : Fr h₀ L H1 m := by rw [← hH1]; exact F.push _
  have gI1 : H1.get? s₁.heap.objs.size = some { cls := .type "tuple_iterator", data := .fields #[.ref ax, .int 0 0] } := by rw [← hH1]; exact Heap.get?_push_size _ rfl
  have up1 : ∀ b o, s₁.heap.get? b = some o → H1.get? b = some o := fun b o e => by rw [← hH1]; exact Heap.get?_push_of_some _ e
  refine new_set fun b hb => ?_
  refine wpAny_newFunctionEnv hcell (by intro y hy; simp at hy) (fun h₁ hns₁ hsb₁ => ?_) hkind
  dsimp only at hns₁ hsb₁ ⊢
  generalize hH2 : H1.push (setObj0 b) = H2 at hns₁ hsb₁ ⊢
  have z2 : H2.objs.size = H1.objs.size + 1 := by rw [← hH2, Heap.size_push]
  have up2 : ∀ b o, H1.get? b = some o → H2.get? b = some o := fun b o e => by rw [← hH2]; exact Heap.get?_push_of_some _ e
  have F2 : Fr h₀ L H2 m := by rw [← hH2]; exact F1.push _
  have hD₀ : h₀.get? H1.objs.size = none := next_is_new F1
  have hC₀ : h₀.get? H2.objs.size = none := next_is_new F2
  have hDL : H1.objs.size ≠ L := Ne.symm (Nat.ne_of_lt F1.ns.lt)
  have hCL : H2.objs.size ≠ L := Ne.symm (Nat.ne_of_lt F2.ns.lt)
  have gD2 : H2.get? H1.objs.size = some (setObj0 b) := by rw [← hH2]; exact Heap.get?_push_size _ rfl
  have hDC : H1.objs.size ≠ H2.objs.size := by rw [z2]; exact Nat.ne_of_lt (Nat.lt_succ_self _)
  have hCI : s₁.heap.objs.size ≠ H2.objs.size := by rw [z2, z1]; exact Nat.ne_of_lt (Nat.lt_succ_of_lt (Nat.lt_succ_self _))
  have hDI : s₁.heap.objs.size ≠ H1.objs.size := by rw [z1]; exact Nat.ne_of_lt (Nat.lt_succ_self _)
  have off : ∀ p ∈ news, p.1 ≠ s₁.heap.objs.size ∧ p.1 ≠ H2.objs.size ∧ p.1 ≠ H1.objs.size := fun p hp => by
    have q := Heap.lt_size (N p hp).1
    refine ⟨Nat.ne_of_lt q, Nat.ne_of_lt ?_, Nat.ne_of_lt ?_⟩
    · rw [z2, z1]; exact Nat.lt_succ_of_lt (Nat.lt_succ_of_lt q)
    · rw [z1]; exact Nat.lt_succ_of_lt q
  have old : ∀ b o, H2.get? b = some o → h₁.get? b = some o := fun b o e => hsb₁.extBut b o (Nat.ne_of_lt (Heap.lt_size e)) (Heap.get?_push_of_some _ e)
  have W := Walks.tuple (prog := prog) (w := w) (A := A) hh s₁.heap.objs.size ax (Nat.ne_of_lt hlt) its
  have hax : ax ≠ H1.objs.size ∧ ax ≠ H2.objs.size := ⟨by rw [z1]; exact Nat.ne_of_lt (Nat.lt_succ_of_lt hlt), by rw [z2, z1]; exact Nat.ne_of_lt (Nat.lt_succ_of_lt (Nat.lt_succ_of_lt hlt))⟩
  have hCf : H2.objs.size ∉ [s₁.heap.objs.size, ax] := by
    intro hm
    rcases List.mem_cons.mp hm with e | hm
    · exact hCI e.symm
    · exact hax.2 (List.mem_singleton.mp hm).symm
  have hDf : H1.objs.size ∉ [s₁.heap.objs.size, ax] := by
    intro hm
    rcases List.mem_cons.mp hm with e | hm
    · exact hDI e.symm
    · exact hax.1 (List.mem_singleton.mp hm).symm
  have loop : ∀ s₃ : Shared, s₃ = { s₁ with heap := h₁, toks := s₁.toks + ([] : List (Str × Value)).length } →
      codeAny (model prog w) A (.compLoop (.SetComp elt [⟨.Name x px, iter, [], 0⟩] scope pos) 0 (.ref s₁.heap.objs.size) (.ref H1.objs.size) (compEnvC scope cl H2.objs.size env))
        (compPost (model prog w) A E none Q (.ref H1.objs.size) H2.objs.size) s₃ := by
    rintro s₃ rfl
    refine compLoop_set
      (fun k s' => ∃ h' tk i m' oD, s' = { s₁ with heap := h', toks := tk } ∧ i ≤ its.size ∧ k = its.size + 1 - i ∧ SetSt w i oD ∧ (h'.IsTupleIter s₁.heap.objs.size ax i ∧ h'.IsTuple ax its) ∧ Fr h₀ L h' m ∧ h'.Ns H2.objs.size m' ∧ News h₀ L h' ((H1.objs.size, oD) :: news)) ?_ (its.size + 1)
      ⟨h₁, _, 0, _, setObj0 b, rfl, Nat.zero_le _, rfl, (congrArg setObj0 hb : _), ⟨⟨_, old _ _ (up2 _ _ gI1), rfl, rfl⟩, hl.at fun o e => old _ _ (up2 _ _ (up1 _ _ e))⟩, fr_keeps F2 old, hns₁, news_put (old _ _ gD2) hDL hD₀ fun p hp => ⟨old _ _ (up2 _ _ (up1 _ _ (N p hp).1)), (N p hp).2⟩⟩
    intro k' s' hJ22
    (refine (let Gk : Prop := _; (?_ : Gk)))
    obtain ⟨h', tk, i, m', oD, rfl, hi, rfl, hS, hst, F', hn', N'⟩ := hJ22
    have step : ∀ h₂ : Heap, (∀ b o, b ∉ [s₁.heap.objs.size] → h'.get? b = some o → h₂.get? b = some o) → Fr h₀ L h₂ m ∧ News h₀ L h₂ ((H1.objs.size, oD) :: news) := fun h₂ hk₂ =>
      ⟨LCg.fr_but F' hk₂ hIL hI₀, LCg.news_but N' hk₂ fun p hp => by
        rcases List.mem_cons.mp hp with rfl | hp
        · exact Ne.symm hDI
        · exact (off p hp).1⟩
    ((show Gk); k_unfold; clear Gk)
    by_cases hlt' : i < its.size
    · refine W.item i _ _ _ hlt' hst fun v h₂ tk₂ hPv hst₂ hk₂ => ?_
      obtain ⟨F₂, N₂⟩ := step h₂ hk₂
      refine wpAny_assign_Name (wpAny_storeName_local (lookup_relabel_local hx) (hn'.at' fun o e => hk₂ _ o (by simpa using Ne.symm hCI) e) (fun h₃ hn₃ hs₃ => ?_) (by simp [compEnvC, relabel, hkind]))
      have hst₃ := W.frame _ _ _ hst₂ fun b hb o e => hs₃.extBut b o (fun q => hCf (by have q' : b = H2.objs.size := q; rw [← q']; exact hb)) e
      (refine (let Gk : Prop := _; (?_ : Gk)))
      obtain ⟨oC, heC, hoC⟩ := LCg.ns_obj hn₃
      obtain ⟨oI, heI, hoI⟩ := hst₃.1
      have F₃ : Fr h₀ L h₃ m := F₂.change hs₃ hCL hC₀
      have N₃ : News h₀ L h₃ ((H1.objs.size, oD) :: news) := fun p hp => by
        refine ⟨hs₃.extBut _ _ ?_ (N₂ p hp).1, (N₂ p hp).2⟩
        rcases List.mem_cons.mp hp with rfl | hp
        · exact hDC
        · exact (off p hp).2.1
      ((show Gk); k_unfold; clear Gk)
      refine wpAny_mono (R i v s₁.heap.objs.size oI H2.objs.size oC H1.objs.size oD _ h₃ _ _ hPv hoC (by simp) F₃ (news_put heI (Ne.symm hIL) hI₀ (news_put heC hCL hC₀ N₃))) (fun y s₄ h₄ => ?_) fun _ _ e => e
      (refine (let Gk : Prop := _; (?_ : Gk)))
      obtain ⟨rfl, h₄, tk₄, rfl, F₄, N₄⟩ := h₄
      have N₅ := news_tail (news_tail N₄)
      ((show Gk); k_unfold; clear Gk)
      refine set_addT (s := { s₁ with heap := h₄, toks := tk₄ }) (N₅ _ (.head _)).1 hS fun h₅ o₅ tk₅ hs₅ ho₅ hS₅ => ?_
      have hst₄ : h₄.IsTupleIter s₁.heap.objs.size ax (i + 1) ∧ h₄.IsTuple ax its := ⟨⟨oI, (N₄ _ (.head _)).1, hoI⟩, ⟨_, (N₅ _ (.tail _ hm)).1, rfl, k, rfl⟩⟩
      refine ⟨its.size + 1 - (i + 1), by lia, h₅, tk₅, i + 1, _, o₅, rfl, hlt', rfl, hS₅, W.frame _ _ _ hst₄ fun b hb o e => hs₅.extBut b o (fun q => hDf (q ▸ hb)) e, F₄.change hs₅ hDL hD₀, (hoC.ns (N₄ _ (.tail _ (.head _))).1).sameBut hs₅ (Ne.symm hDC), news_put ho₅ hDL hD₀ fun p hp => ⟨hs₅.extBut _ _ (off p hp).2.2 (N₅ p (.tail _ hp)).1, (N₅ p (.tail _ hp)).2⟩⟩
    · obtain rfl : i = its.size := Nat.le_antisymm hi (Nat.not_lt.mp hlt')
      refine W.done _ _ _ hst fun h₂ tk₂ hk₂ => ?_
      obtain ⟨F₂, N₂⟩ := step h₂ hk₂
      unfold SetSt at hS
      rw [if_neg (Nat.ne_of_gt hpos)] at hS
      (refine (let Gk : Prop := _; (?_ : Gk)))
      obtain ⟨t1, ep, rfl, l1, l2, l3, l4⟩ := hS
      ((show Gk); k_unfold; clear Gk)
      refine ⟨_, hn'.at' fun o e => hk₂ _ o (by simpa using Ne.symm hCI) e, fun h'' hs'' => fin _ t1 ep h'' tk₂ l1 l2 l3 l4 (F₂.change hs'' hCL hC₀) (fun p hp => ?_) ?_⟩
      · refine ⟨hs''.extBut _ _ ?_ (N₂ p hp).1, (N₂ p hp).2⟩
        rcases List.mem_cons.mp hp with rfl | hp
        · exact hDC
        · exact (off p hp).2.1
      · exact (LCg.Off3.of (I := s₁.heap.objs.size) (C := H2.objs.size) fun p hp => off p hp).one
  exact compStart_set (loop _ rfl) (W.self 0 _ _ _ ⟨⟨_, old _ _ (up2 _ _ gI1), rfl, rfl⟩, hl.at fun o e => old _ _ (up2 _ _ (up1 _ _ e))⟩ (loop _ rfl))
end
end Mine
theorem Mine.off12 : True := by w_top off; trivial
namespace Mine
open PySem PySem.W PySem.Calls PyProof.Rows PySem.Spec
section
variable {prog : Program} {w : World} {A : Around} {E : Value → Shared → Prop} {s : Shared}
theorem setNext_one {a : Addr} {t1 : SetTable} {ep ep' slot given : Nat} {Q : Option (Value × Nat) → Shared → Prop} (ha : s.heap.get? a = some (setObj1 t1 ep))
    (hl : t1.led = (!w.params.followText "set-order")) (hp : t1.plain = true) (hpl : t1.place = #[1]) (hf : t1.fits 1 = true)
    (h : Q (if w.params.followText "set-order" then (if given = 0 then some (.bool true, slot) else none) else (if slot ≤ 1 then some (.bool true, 2) else none)) s) (he : ep' = ep := by simp) : wpAny (model prog w) A (setNext a slot given ep') Q E s := by
  revert t1 Q ha hl hp hpl hf h he
  revert prog w A E s a ep ep' slot given
  iterate 2 refine no_implicit_lambda% (Mine.pad1 ?_)
  refine' no_implicit_lambda% (Mine.hk12 ?ne ?_)
  case ne => (repeat' (first | (refine Mine.nePair ?_ ?_) | exact Mine.neWorld | exact Mine.neAround | exact Mine.neShared | infer_instance))
  generalize Mine.A3 _ = prog; generalize Mine.A4 _ = w; generalize Mine.A5 _ = A; generalize Mine.A6 _ = E; generalize Mine.A7 _ = s; generalize Mine.A8 _ = a; generalize Mine.A9 _ = ep; generalize Mine.A10 _ = ep'; generalize Mine.A11 _ = slot; generalize Mine.A12 _ = given
  intro uHk
  clear uHk
  intro t1 Q ha hl hp hpl hf h he
  subst he
  unfold setNext setsByText
  refine wpAny_bind (wpAny_setState_of ha rfl hf ?_)
  refine wpAny_bind (wpAny_bind (wpAny_askSetting (wpAny_pure ?_)))
  cases hb : w.params.followText "set-order" with
  | true =>
    have hb' : (model prog w).w.params.followText "set-order" = true := hb
    rw [hb] at h
    simp only [hb', if_true] at h ⊢
    rw [if_neg (by simp)]
    unfold setWalk setsByText
    refine wpAny_bind (wpAny_bind (wpAny_setState_of ha rfl hf ?_))
    refine wpAny_bind (wpAny_bind (wpAny_askSetting (wpAny_pure ?_)))
    simp only [hb', if_true]
    refine wpAny_bind (wpAny_askSetting (wpAny_pure (wpAny_pure ?_)))
    have e : ∀ f, pickOrder f #[((1 : Int), Value.bool true)] = #[((1 : Int), Value.bool true)] := fun f => by
      show pickOrder.go _ 1 0 [((1 : Int), Value.bool true)] #[] = _
      unfold pickOrder.go
      simp [Nat.mod_one]
      unfold pickOrder.go
      rfl
    rw [e]
    by_cases hg : given = 0
    · subst hg; exact h
    · rw [if_neg hg] at h
      have e2 : (#[((1 : Int), Value.bool true)] : Array (Int × Value))[given]? = none := by
        rw [Array.getElem?_eq_none]; show 1 ≤ given; lia
      rw [e2]; exact h
  | false =>
    have hb' : (model prog w).w.params.followText "set-order" = false := hb
    rw [hb] at h
    simp only [hb', Bool.false_eq_true, if_false] at h ⊢
    split
    · rename_i hd
      exact absurd hd (by show ¬ ((!t1.plain && _) = true); simp [hp])
    refine wpAny_bind ?_
    show wpAny _ _ (if (!t1.led && !(#[((1 : Int), Value.bool true)] : Array (Int × Value)).isEmpty) = true then unsupported _ else pure ()) _ _ _
    rw [if_neg (by rw [hl, hb]; decide)]
    refine wpAny_pure (wpAny_pure ?_)
    rw [hpl]
    have e : SetTable.below #[1] slot = if slot ≤ 1 then 0 else 1 := by
      show SetTable.below.go _ _ 1 0 1 = _
      unfold SetTable.below.go
      rw [if_pos (by decide)]
      have e1 : (#[1] : Array Nat).getD ((0 + 1) / 2) slot = 1 := rfl
      simp only [e1]
      by_cases hs : slot ≤ 1
      · rw [if_neg (by lia), if_pos hs]; rfl
      · rw [if_pos (by lia), if_neg hs]; rfl
    rw [e]
    by_cases hs : slot ≤ 1
    · rw [if_pos hs] at h ⊢; exact h
    · rw [if_neg hs] at h ⊢; exact h
theorem next_set_item {I a : Addr} {t1 : SetTable} {ep : Nat} {Q : Option Value → Shared → Prop} (hI : s.heap.get? I = some (setIt 0 0 (.ref a) ep)) (ha : s.heap.get? a = some (setObj1 t1 ep))
    (hl : t1.led = (!w.params.followText "set-order")) (hp : t1.plain = true) (hpl : t1.place = #[1]) (hf : t1.fits 1 = true)
    (h : ∀ h' f, Heap.SameBut I s.heap h' → (w.params.followText "set-order" = false → f = 2) → h'.get? I = some (setIt (f : Nat) 1 (.ref a) ep) → Q (some (.bool true)) { s with heap := h' }) : wpAny (model prog w) A (pyNext (.ref I)) Q E s := by
  revert t1 Q hI ha hl hp hpl hf h
  revert prog w A E s I a ep
  refine' no_implicit_lambda% (Mine.hk8 ?ne ?_)
  case ne => (repeat' (first | (refine Mine.nePair ?_ ?_) | exact Mine.neWorld | exact Mine.neAround | exact Mine.neShared | infer_instance))
  generalize Mine.A1 _ = prog; generalize Mine.A2 _ = w; generalize Mine.A3 _ = A; generalize Mine.A4 _ = E; generalize Mine.A5 _ = s; generalize Mine.A6 _ = I; generalize Mine.A7 _ = a; generalize Mine.A8 _ = ep
  intro uHk
  clear uHk
  intro t1 Q hI ha hl hp hpl hf h
  have hty : s.TypeIs (.ref I) "set_iterator" := ⟨_, hI, rfl⟩
  unfold pyNext
  refine wpAny_bind (wpAny_attempt (wpAny_callSpecial?_slot (name := Str.ofString "__next__") hty slot_si_next (wpAny_call_entry slot_si_next hty entry_si_next ?_ (args_si_next_1 _))))
  unfold Builtin.«set_iterator.__next__» slotArgs setEntries
  wp_walk using wpAny_setState_of ha rfl hf, setNext_one ha hl hp hpl hf
  obtain ⟨f, hf2, e⟩ : ∃ f : Nat, (w.params.followText "set-order" = false → f = 2) ∧ (if w.params.followText "set-order" = true then (if Int.toNat 0 = 0 then some (Value.bool true, Int.toNat 0) else none) else (if Int.toNat 0 ≤ 1 then some (Value.bool true, 2) else none)) = some (Value.bool true, f) := by
    cases w.params.followText "set-order"
    · exact ⟨2, fun _ => rfl, rfl⟩
    · exact ⟨0, fun q => absurd q (by decide), rfl⟩
  rw [e]
  try dsimp only
  refine wpAny_bind (wpAny_setField_rec hI (by simp) fun h₁ he₁ hs₁ => ?_)
  refine wpAny_bind (wpAny_setField_rec he₁ (by simp) fun h₂ he₂ hs₂ => ?_)
  exact wpAny_pure ⟨_, rfl, wpAny_pure (h h₂ f (hs₁.trans hs₂) hf2 he₂)⟩
theorem next_set_end {I a : Addr} {t1 : SetTable} {ep f : Nat} {Q : Option Value → Shared → Prop} (hh : A.handled = none) (hI : s.heap.get? I = some (setIt (f : Nat) 1 (.ref a) ep)) (ha : s.heap.get? a = some (setObj1 t1 ep))
    (hl : t1.led = (!w.params.followText "set-order")) (hp : t1.plain = true) (hpl : t1.place = #[1]) (hf : t1.fits 1 = true) (hf2 : w.params.followText "set-order" = false → f = 2)
    (h : ∀ h', Heap.ExtBut I s.heap h' → Q none { s with heap := h' }) : wpAny (model prog w) A (pyNext (.ref I)) Q E s := by
  revert t1 Q hh hI ha hl hp hpl hf hf2 h
  revert prog w A E s I a ep f
  iterate 3 refine no_implicit_lambda% (Mine.pad1 ?_)
  refine' no_implicit_lambda% (Mine.hk12 ?ne ?_)
  case ne => (repeat' (first | (refine Mine.nePair ?_ ?_) | exact Mine.neWorld | exact Mine.neAround | exact Mine.neShared | infer_instance))
  generalize Mine.A4 _ = prog; generalize Mine.A5 _ = w; generalize Mine.A6 _ = A; generalize Mine.A7 _ = E; generalize Mine.A8 _ = s; generalize Mine.A9 _ = I; generalize Mine.A10 _ = a; generalize Mine.A11 _ = ep; generalize Mine.A12 _ = f
  intro uHk
  clear uHk
  intro t1 Q hh hI ha hl hp hpl hf hf2 h
  have hty : s.TypeIs (.ref I) "set_iterator" := ⟨_, hI, rfl⟩
  unfold pyNext
  refine wpAny_bind (wpAny_attempt (wpAny_callSpecial?_slot (name := Str.ofString "__next__") hty slot_si_next (wpAny_call_entry slot_si_next hty entry_si_next ?_ (args_si_next_1 _))))
  unfold Builtin.«set_iterator.__next__» slotArgs setEntries
  wp_walk using wpAny_setState_of ha rfl hf, setNext_one ha hl hp hpl hf
  rw [show (if w.params.followText "set-order" = true then (if Int.toNat 1 = 0 then some (Value.bool true, (f : Int).toNat) else none) else (if (f : Int).toNat ≤ 1 then some (Value.bool true, 2) else none)) = none by
    cases hb : w.params.followText "set-order"
    · rw [hf2 hb]; rfl
    · rfl]
  try dsimp only
  refine wpAny_bind (wpAny_setField_rec hI (by simp) fun h₁ he₁ hs₁ => ?_)
  show wpAny _ _ (newExc (.type "StopIteration") [] >>= _) _ _ _
  refine wpAny_bind ?_
  simp only [newExc, newTuple]
  refine wpAny_bind (wpAny_newObj_type ?_ (by size_fits))
  refine wpAny_bind (m := firstArgMember _ _) (wpAny_of_eq (a := Value.none) (by first | rfl | (simp only [firstArgMember]; rfl)) ?_)
  refine wpAny_newObj_type ?_ (by size_fits)
  simp only [raiseNew]
  refine wpAny_bind (wpAny_handled ?_)
  rw [show A.in1.handled = none from hh]
  refine wpAny_bind (wpAny_pure (wpAny_throw ?_))
  refine wpAny_bind (wpAny_isInstance (T := "StopIteration") (b := true) ⟨_, Heap.get?_push_size _ rfl, rfl⟩ isSubtype_stop ?_)
  exact wpAny_pure (h _ ((hs₁.extBut.push _).push _))
theorem unpack_set1 {a : Addr} {t1 : SetTable} {ep : Nat} {h₀ : Heap} {L : Addr} {m : Str → Option Value} {news : Led} {Q : List Value → Shared → Prop} (F : Fr h₀ L s.heap m) (N : News h₀ L s.heap news) (hm : (a, setObj1 t1 ep) ∈ news) (hh : A.handled = none) 
    (hl : t1.led = (!w.params.followText "set-order")) (hp : t1.plain = true) (hpl : t1.place = #[1]) (hf : t1.fits 1 = true)
    (h : ∀ h', Fr h₀ L h' m → News h₀ L h' news → Q [.bool true] { s with heap := h' }) : wpAny (model prog w) A (unpackItems (.ref a) 1 none) Q E s := by
  revert t1 Q F N hm hh hl hp hpl hf h
  revert prog w A E s a ep h₀ L m news
  iterate 1 refine no_implicit_lambda% (Mine.pad1 ?_)
  refine' no_implicit_lambda% (Mine.hk12 ?ne ?_)
  case ne => (repeat' (first | (refine Mine.nePair ?_ ?_) | exact Mine.neWorld | exact Mine.neAround | exact Mine.neShared | infer_instance))
  generalize Mine.A2 _ = prog; generalize Mine.A3 _ = w; generalize Mine.A4 _ = A; generalize Mine.A5 _ = E; generalize Mine.A6 _ = s; generalize Mine.A7 _ = a; generalize Mine.A8 _ = ep; generalize Mine.A9 _ = h₀; generalize Mine.A10 _ = L; generalize Mine.A11 _ = m; generalize Mine.A12 _ = news
  intro uHk
  clear uHk
  intro t1 Q F N hm hh hl hp hpl hf h
  have ha := (N _ hm).1
  have hT : s.TypeIs (.ref a) "set" := ⟨_, ha, rfl⟩
  have hne : a ≠ s.heap.objs.size := Nat.ne_of_lt (Heap.lt_size ha)
  unfold unpackItems
  refine wpAny_bind ?_
  unfold notIterableAtAll
  refine wpAny_bind (wpAny_specialOf hT PySem.F.slot_set_iter.lookup ?_)
  refine wpAny_pure ?_
  simp only [Bool.false_eq_true, if_false]
  refine wpAny_bind (wpAny_holding (pyIter_set1 ha hf hp ?_))
  refine wpAny_bind (wpAny_holding ?_)
  show wpAny _ _ (pyNext (.ref _) >>= _) _ _ _
  refine wpAny_bind (next_set_item (Heap.get?_push_size _ rfl) (Heap.get?_push_of_some _ ha) hl hp hpl hf fun h₁ f hs₁ hf2 hI₁ => ?_)
  refine wpAny_bind (wpAny_holding (wpAny_pure (wpAny_pure ?_)))
  rw [if_neg (by simp)]
  refine wpAny_bind (wpAny_holding (next_set_end hh hI₁ (hs₁.extBut _ _ hne (Heap.get?_push_of_some _ ha)) hl hp hpl hf hf2 fun h₂ he₂ => ?_))
  simp only [Option.isSome_none, Bool.false_eq_true, if_false]
  have k : ∀ b o, s.heap.get? b = some o → h₂.get? b = some o := fun b o e => he₂ b o (Nat.ne_of_lt (Heap.lt_size e)) (hs₁.extBut b o (Nat.ne_of_lt (Heap.lt_size e)) (Heap.get?_push_of_some _ e))
  exact wpAny_pure (h h₂ (fr_keeps F k) (news_keeps N k))
theorem assign_set1 {env : Env} {elts : List Expr} {k : Nat} {pos : Pos} {a : Addr} {t1 : SetTable} {ep : Nat} {h₀ : Heap} {L : Addr} {m : Str → Option Value} {news : Led} {Q : Unit → Shared → Prop} (F : Fr h₀ L s.heap m) (N : News h₀ L s.heap news) (hm : (a, setObj1 t1 ep) ∈ news) (hh : A.handled = none) 
    (hl : t1.led = (!w.params.followText "set-order")) (hp : t1.plain = true) (hpl : t1.place = #[1]) (hf : t1.fits 1 = true) (hn : (assignEach elts env).length = 1)
    (hstar : (assignEach elts env).findIdx? (·.1) = none)
    (h : ∀ h', Fr h₀ L h' m → News h₀ L h' news → wpAny (model prog w) A (assignInOrder ((assignEach elts env).map (·.2)) [.bool true]) Q E { s with heap := h' }) : wpAny (model prog w) A (assign (.Tuple elts k pos) env (.ref a)) Q E s := by
  rw [assign_Tuple]
  refine wpAny_bind (wpAny_standAt ?_)
  unfold unpack
  rw [hn, hstar]
  exact wpAny_bind (wpAny_holding (unpack_set1 F N hm hh hl hp hpl hf h))
end
end Mine
namespace Mine
open PySem PySem.W PySem.Calls PyProof.Rows
section
variable {prog : Program} {w : World} {A : Around} {E : Value → Shared → Prop} {s : Shared}
theorem min_two_of {l : Addr} {u v : Value} {k : Nat} {bt : Bool} {Q : Value → Shared → Prop} (hh : A.handled = none) (hl : s.heap.get? l = some { cls := .type "list", data := .seq #[u, v] k })
    (hcmp : ∀ (h : Heap) (tk : Nat) (Q' E' : Value → Shared → Prop), (∀ b o, s.heap.get? b = some o → h.get? b = some o) → (∀ tk', Q' (.bool bt) { s with heap := h, toks := tk' }) → wpAny (model prog w) A.in1 (richCompare .Lt v u) Q' E' { s with heap := h, toks := tk })
    (h : ∀ r h' tk', r = (if bt then v else u) → (∀ b o, s.heap.get? b = some o → h'.get? b = some o) → Q r { s with heap := h', toks := tk' }) : wpAny (model prog w) A (call (.builtin "min") [.ref l]) Q E s := by
  revert hh hl hcmp h
  revert prog w A E s l u v k bt Q
  iterate 1 refine no_implicit_lambda% (Mine.pad1 ?_)
  refine' no_implicit_lambda% (Mine.hk12 ?ne ?_)
  case ne => (repeat' (first | (refine Mine.nePair ?_ ?_) | exact Mine.neWorld | exact Mine.neAround | exact Mine.neShared | infer_instance))
  generalize Mine.A2 _ = prog; generalize Mine.A3 _ = w; generalize Mine.A4 _ = A; generalize Mine.A5 _ = E; generalize Mine.A6 _ = s; generalize Mine.A7 _ = l; generalize Mine.A8 _ = u; generalize Mine.A9 _ = v; generalize Mine.A10 _ = k; generalize Mine.A11 _ = bt; generalize Mine.A12 _ = Q
  intro uHk
  clear uHk
  intro hh hl hcmp h
  have hname : (toString "min" ++ toString ".loop" : String) = "min.loop" := by decide
  have hll : s.heap.IsList l #[u, v] := ⟨_, hl, rfl, k, rfl⟩
  have hlt : l < s.heap.objs.size := Heap.lt_size hl
  refine call_function_tree PySem.F.kind_min PySem.F.plain_min PySem.F.entry_min (PySem.F.args_min1 _) ?_
  show wpAny _ A.in1 (Builtin.Builtins.bindParams "min" ["key", "default"] 0 ⟨[], []⟩ >>= _) _ _ s
  refine wpAny_bind (wpAny_of_eq (show Builtin.Builtins.bindParams "min" ["key", "default"] 0 ⟨[], []⟩ = pure [none, none] from rfl) ?_)
  refine wpAny_bind (wpAny_pure ?_)
  refine wpAny_bind (wpAny_pyIter_list hll ?_)
  generalize hH1 : s.heap.push { cls := .type "list_iterator", data := .fields #[.ref l, .int 0 0] } = H1
  have z1 : H1.objs.size = s.heap.objs.size + 1 := by rw [← hH1, Heap.size_push]
  have k1 : ∀ b o, s.heap.get? b = some o → H1.get? b = some o := fun b o e => by rw [← hH1]; exact Heap.get?_push_of_some _ e
  have i1 : H1.IsListIter s.heap.objs.size l 0 := by rw [← hH1]; exact ⟨_, Heap.get?_push_size _ rfl, rfl, rfl⟩
  refine wpAny_bind (wpAny_newObj_type ?_)
  have W := Walks.list (prog := prog) (w := w) (A := A.in1) hh s.heap.objs.size l (Nat.ne_of_lt hlt) #[u, v]
  have hIS : s.heap.objs.size ≠ H1.objs.size := by rw [z1]; exact Nat.ne_of_lt (Nat.lt_succ_self _)
  have hlS : l ≠ H1.objs.size := by rw [z1]; exact Nat.ne_of_lt (Nat.lt_succ_of_lt hlt)
  rw [hname]
  have stepS : ∀ (h h' : Heap) (i : Nat), Heap.SameBut H1.objs.size h h' → (∀ b o, s.heap.get? b = some o → h.get? b = some o) → h.IsListIter s.heap.objs.size l i → (∀ b o, s.heap.get? b = some o → h'.get? b = some o) ∧ h'.IsListIter s.heap.objs.size l i := fun h h' i hs hk hi =>
    ⟨fun b o e => hs.extBut b o (fun q => by have := Heap.lt_size e; rw [q, z1] at this; exact Nat.lt_irrefl _ (Nat.lt_of_succ_lt this)) (hk b o e), hi.at fun o e => hs.extBut _ o hIS e⟩
  have stepI : ∀ (h h' : Heap) (S : Obj), (∀ b o, b ∉ [s.heap.objs.size] → h.get? b = some o → h'.get? b = some o) → (∀ b o, s.heap.get? b = some o → h.get? b = some o) → h.get? H1.objs.size = some S → (∀ b o, s.heap.get? b = some o → h'.get? b = some o) ∧ h'.get? H1.objs.size = some S := fun h h' S hk hk0 hS =>
    ⟨fun b o e => hk b o (fun q => by have := Heap.lt_size e; rw [List.mem_singleton.mp q] at this; exact Nat.lt_irrefl _ this) (hk0 b o e), hk _ _ (fun q => hIS (List.mem_singleton.mp q).symm) hS⟩
  have fin : ∀ (h : Heap) (tk : Nat) (vb : Value) (c : Nat), vb = (if bt then v else u) → (∀ b o, s.heap.get? b = some o → h.get? b = some o) → h.IsListIter s.heap.objs.size l 2 → h.get? H1.objs.size = some { cls := .type "list", data := .seq #[vb, vb] c } →
      codeAny (model prog w) A (.builtin "min.loop" ⟨[.ref s.heap.objs.size, .none, .ref H1.objs.size], []⟩) (fun r s' => match r with | .ok (.ret v) => Q v s' | .ok _ => False | .error e => E e s') { s with heap := h, toks := tk } := by
    intro h tk vb c hvb hk hi hS
    refine codeAny_builtin PySem.F.entry_min_loop ?_
    rw [Around.under_plainId PySem.F.plain_min_loop _]
    show wpAny _ A.in1 (seqItems? (.ref H1.objs.size) >>= _) _ _ _
    refine wpAny_bind (wpAny_seqItems hS rfl ?_)
    show wpAny _ A.in1 (tryCatch (pyNext (.ref s.heap.objs.size)) _ >>= _) _ _ _
    refine wpAny_bind (wpAny_tryCatch (W.done _ _ _ ⟨hi, hll.at fun o e => hk _ _ e⟩ fun h' tk' hk' => ?_))
    obtain ⟨k2, hS2⟩ := stepI _ _ _ hk' hk hS
    show wpAny _ A.in1 (updateSeq H1.objs.size (fun _ => #[]) >>= _) _ _ _
    refine wpAny_bind ?_
    refine wpAny_updateSeq hS2 rfl (wpAny_bind (wpAny_letGo (wpAny_pure ?_)))
    exact ‹∀ r h' tk', r = (if bt then v else u) → (∀ b o, s.heap.get? b = some o → h'.get? b = some o) → Q r { s with heap := h', toks := tk' }› _ _ _ hvb (fun b o e => (Heap.SameBut.update ..).extBut b o (fun q => by have := Heap.lt_size e; rw [q, z1] at this; exact Nat.lt_irrefl _ (Nat.lt_of_succ_lt this)) (k2 b o e))
  have snd : ∀ (h : Heap) (tk : Nat) (c : Nat), (∀ b o, s.heap.get? b = some o → h.get? b = some o) → h.IsListIter s.heap.objs.size l 1 → h.get? H1.objs.size = some { cls := .type "list", data := .seq #[u, u] c } →
      codeAny (model prog w) A (.builtin "min.loop" ⟨[.ref s.heap.objs.size, .none, .ref H1.objs.size], []⟩) (fun r s' => match r with | .ok (.ret v) => Q v s' | .ok _ => False | .error e => E e s') { s with heap := h, toks := tk } := by
    intro h tk c hk hi hS
    refine codeAny_builtin PySem.F.entry_min_loop ?_
    rw [Around.under_plainId PySem.F.plain_min_loop _]
    show wpAny _ A.in1 (seqItems? (.ref H1.objs.size) >>= _) _ _ _
    refine wpAny_bind (wpAny_seqItems hS rfl ?_)
    show wpAny _ A.in1 (tryCatch (pyNext (.ref s.heap.objs.size)) _ >>= _) _ _ _
    refine wpAny_bind (wpAny_tryCatch (W.item 1 _ _ _ (by show 1 < 2; decide) ⟨hi, hll.at fun o e => hk _ _ e⟩ fun v' h' tk' hP hst' hk' => ?_))
    obtain rfl : v' = v := (Option.some.inj hP).symm
    obtain ⟨k2, hS2⟩ := stepI _ _ _ hk' hk hS
    show wpAny _ A.in1 (tryCatch (holding [v', v'] (richCompare .Lt v' u >>= _)) _ >>= _) _ _ _
    refine wpAny_bind (wpAny_tryCatch (wpAny_holding (wpAny_bind (hcmp h' tk' _ _ k2 fun tk2 => ?_))))
    refine wpAny_bind (wpAny_holding (wpAny_truthy_bool ?_))
    refine wpAny_bind (wpAny_letGo (wpAny_pure ?_))
    cases hb : bt with
    | true =>
      simp only [if_true]
      refine wpAny_bind ?_
      refine wpAny_updateSeq hS2 rfl (wpAny_bind (wpAny_letGo ?_))
      rw [hname]
      obtain ⟨k3, i3⟩ := stepS _ _ _ (Heap.SameBut.update h' H1.objs.size (Obj.mapSeq fun _ => #[v', v'])) k2 hst'.1
      exact wpAny_pure ⟨plainId_quiet PySem.F.plain_min_loop _, fin _ _ v' _ (by rw [hb]; rfl) k3 i3 (Heap.get?_update_self _ hS2 rfl)⟩
    | false =>
      simp only [Bool.false_eq_true, if_false]
      refine wpAny_bind (wpAny_letGo ?_)
      rw [hname]
      exact wpAny_pure ⟨plainId_quiet PySem.F.plain_min_loop _, fin _ _ u c (by rw [hb]; rfl) k2 hst'.1 hS2⟩
  refine wpAny_pure ⟨plainId_quiet PySem.F.plain_min_loop _, ?_⟩
  obtain ⟨k2, i2⟩ : (∀ b o, s.heap.get? b = some o → (H1.push { cls := .type "list", data := .seq ([] : List Value).toArray }).get? b = some o) ∧ (H1.push { cls := .type "list", data := .seq ([] : List Value).toArray }).IsListIter s.heap.objs.size l 0 :=
    ⟨fun b o e => Heap.get?_push_of_some _ (k1 b o e), i1.at fun o e => Heap.get?_push_of_some _ e⟩
  refine codeAny_builtin PySem.F.entry_min_loop ?_
  rw [Around.under_plainId PySem.F.plain_min_loop _]
  show wpAny _ A.in1 (seqItems? (.ref H1.objs.size) >>= _) _ _ _
  refine wpAny_bind (wpAny_seqItems (Heap.get?_push_size _ rfl) rfl ?_)
  show wpAny _ A.in1 (tryCatch (pyNext (.ref s.heap.objs.size)) _ >>= _) _ _ _
  refine wpAny_bind (wpAny_tryCatch (W.item 0 _ _ _ (by show 0 < 2; decide) ⟨i2, hll.at fun o e => k2 _ _ e⟩ fun v' h' tk' hP hst' hk' => ?_))
  obtain rfl : v' = u := (Option.some.inj hP).symm
  obtain ⟨k3, hS3⟩ := stepI _ _ _ hk' k2 (Heap.get?_push_size _ rfl)
  show wpAny _ A.in1 (updateSeq H1.objs.size (fun _ => #[v', v']) >>= _) _ _ _
  refine wpAny_bind ?_
  refine wpAny_updateSeq hS3 rfl ?_
  rw [hname]
  obtain ⟨k4, i4⟩ := stepS _ _ _ (Heap.SameBut.update h' H1.objs.size (Obj.mapSeq fun _ => #[v', v'])) k3 hst'.1
  exact wpAny_pure ⟨plainId_quiet PySem.F.plain_min_loop _, snd _ _ _ k4 i4 (Heap.get?_update_self _ hS3 rfl)⟩
theorem max_two_of {l : Addr} {u v : Value} {k : Nat} {bt : Bool} {Q : Value → Shared → Prop} (hh : A.handled = none) (hl : s.heap.get? l = some { cls := .type "list", data := .seq #[u, v] k })
    (hcmp : ∀ (h : Heap) (tk : Nat) (Q' E' : Value → Shared → Prop), (∀ b o, s.heap.get? b = some o → h.get? b = some o) → (∀ tk', Q' (.bool bt) { s with heap := h, toks := tk' }) → wpAny (model prog w) A.in1 (richCompare .Gt v u) Q' E' { s with heap := h, toks := tk })
    (h : ∀ r h' tk', r = (if bt then v else u) → (∀ b o, s.heap.get? b = some o → h'.get? b = some o) → Q r { s with heap := h', toks := tk' }) : wpAny (model prog w) A (call (.builtin "max") [.ref l]) Q E s := by
  revert hh hl hcmp h
  revert prog w A E s l u v k bt Q
  iterate 1 refine no_implicit_lambda% (Mine.pad1 ?_)
  refine' no_implicit_lambda% (Mine.hk12 ?ne ?_)
  case ne => (repeat' (first | (refine Mine.nePair ?_ ?_) | exact Mine.neWorld | exact Mine.neAround | exact Mine.neShared | infer_instance))
  generalize Mine.A2 _ = prog; generalize Mine.A3 _ = w; generalize Mine.A4 _ = A; generalize Mine.A5 _ = E; generalize Mine.A6 _ = s; generalize Mine.A7 _ = l; generalize Mine.A8 _ = u; generalize Mine.A9 _ = v; generalize Mine.A10 _ = k; generalize Mine.A11 _ = bt; generalize Mine.A12 _ = Q
  intro uHk
  clear uHk
  intro hh hl hcmp h
  have hname : (toString "max" ++ toString ".loop" : String) = "max.loop" := by decide
  have hll : s.heap.IsList l #[u, v] := ⟨_, hl, rfl, k, rfl⟩
  have hlt : l < s.heap.objs.size := Heap.lt_size hl
  refine call_function_tree PySem.F.kind_max PySem.F.plain_max PySem.F.entry_max (PySem.F.args_max1 _) ?_
  show wpAny _ A.in1 (Builtin.Builtins.bindParams "max" ["key", "default"] 0 ⟨[], []⟩ >>= _) _ _ s
  refine wpAny_bind (wpAny_of_eq (show Builtin.Builtins.bindParams "max" ["key", "default"] 0 ⟨[], []⟩ = pure [none, none] from rfl) ?_)
  refine wpAny_bind (wpAny_pure ?_)
  refine wpAny_bind (wpAny_pyIter_list hll ?_)
  generalize hH1 : s.heap.push { cls := .type "list_iterator", data := .fields #[.ref l, .int 0 0] } = H1
  have z1 : H1.objs.size = s.heap.objs.size + 1 := by rw [← hH1, Heap.size_push]
  have k1 : ∀ b o, s.heap.get? b = some o → H1.get? b = some o := fun b o e => by rw [← hH1]; exact Heap.get?_push_of_some _ e
  have i1 : H1.IsListIter s.heap.objs.size l 0 := by rw [← hH1]; exact ⟨_, Heap.get?_push_size _ rfl, rfl, rfl⟩
  refine wpAny_bind (wpAny_newObj_type ?_)
  have W := Walks.list (prog := prog) (w := w) (A := A.in1) hh s.heap.objs.size l (Nat.ne_of_lt hlt) #[u, v]
  have hIS : s.heap.objs.size ≠ H1.objs.size := by rw [z1]; exact Nat.ne_of_lt (Nat.lt_succ_self _)
  have hlS : l ≠ H1.objs.size := by rw [z1]; exact Nat.ne_of_lt (Nat.lt_succ_of_lt hlt)
  rw [hname]
  have stepS : ∀ (h h' : Heap) (i : Nat), Heap.SameBut H1.objs.size h h' → (∀ b o, s.heap.get? b = some o → h.get? b = some o) → h.IsListIter s.heap.objs.size l i → (∀ b o, s.heap.get? b = some o → h'.get? b = some o) ∧ h'.IsListIter s.heap.objs.size l i := fun h h' i hs hk hi =>
    ⟨fun b o e => hs.extBut b o (fun q => by have := Heap.lt_size e; rw [q, z1] at this; exact Nat.lt_irrefl _ (Nat.lt_of_succ_lt this)) (hk b o e), hi.at fun o e => hs.extBut _ o hIS e⟩
  have stepI : ∀ (h h' : Heap) (S : Obj), (∀ b o, b ∉ [s.heap.objs.size] → h.get? b = some o → h'.get? b = some o) → (∀ b o, s.heap.get? b = some o → h.get? b = some o) → h.get? H1.objs.size = some S → (∀ b o, s.heap.get? b = some o → h'.get? b = some o) ∧ h'.get? H1.objs.size = some S := fun h h' S hk hk0 hS =>
    ⟨fun b o e => hk b o (fun q => by have := Heap.lt_size e; rw [List.mem_singleton.mp q] at this; exact Nat.lt_irrefl _ this) (hk0 b o e), hk _ _ (fun q => hIS (List.mem_singleton.mp q).symm) hS⟩
  have fin : ∀ (h : Heap) (tk : Nat) (vb : Value) (c : Nat), vb = (if bt then v else u) → (∀ b o, s.heap.get? b = some o → h.get? b = some o) → h.IsListIter s.heap.objs.size l 2 → h.get? H1.objs.size = some { cls := .type "list", data := .seq #[vb, vb] c } →
      codeAny (model prog w) A (.builtin "max.loop" ⟨[.ref s.heap.objs.size, .none, .ref H1.objs.size], []⟩) (fun r s' => match r with | .ok (.ret v) => Q v s' | .ok _ => False | .error e => E e s') { s with heap := h, toks := tk } := by
    intro h tk vb c hvb hk hi hS
    refine codeAny_builtin PySem.F.entry_max_loop ?_
    rw [Around.under_plainId PySem.F.plain_max_loop _]
    show wpAny _ A.in1 (seqItems? (.ref H1.objs.size) >>= _) _ _ _
    refine wpAny_bind (wpAny_seqItems hS rfl ?_)
    show wpAny _ A.in1 (tryCatch (pyNext (.ref s.heap.objs.size)) _ >>= _) _ _ _
    refine wpAny_bind (wpAny_tryCatch (W.done _ _ _ ⟨hi, hll.at fun o e => hk _ _ e⟩ fun h' tk' hk' => ?_))
    obtain ⟨k2, hS2⟩ := stepI _ _ _ hk' hk hS
    show wpAny _ A.in1 (updateSeq H1.objs.size (fun _ => #[]) >>= _) _ _ _
    refine wpAny_bind ?_
    refine wpAny_updateSeq hS2 rfl (wpAny_bind (wpAny_letGo (wpAny_pure ?_)))
    exact ‹∀ r h' tk', r = (if bt then v else u) → (∀ b o, s.heap.get? b = some o → h'.get? b = some o) → Q r { s with heap := h', toks := tk' }› _ _ _ hvb (fun b o e => (Heap.SameBut.update ..).extBut b o (fun q => by have := Heap.lt_size e; rw [q, z1] at this; exact Nat.lt_irrefl _ (Nat.lt_of_succ_lt this)) (k2 b o e))
  have snd : ∀ (h : Heap) (tk : Nat) (c : Nat), (∀ b o, s.heap.get? b = some o → h.get? b = some o) → h.IsListIter s.heap.objs.size l 1 → h.get? H1.objs.size = some { cls := .type "list", data := .seq #[u, u] c } →
      codeAny (model prog w) A (.builtin "max.loop" ⟨[.ref s.heap.objs.size, .none, .ref H1.objs.size], []⟩) (fun r s' => match r with | .ok (.ret v) => Q v s' | .ok _ => False | .error e => E e s') { s with heap := h, toks := tk } := by
    intro h tk c hk hi hS
    refine codeAny_builtin PySem.F.entry_max_loop ?_
    rw [Around.under_plainId PySem.F.plain_max_loop _]
    show wpAny _ A.in1 (seqItems? (.ref H1.objs.size) >>= _) _ _ _
    refine wpAny_bind (wpAny_seqItems hS rfl ?_)
    show wpAny _ A.in1 (tryCatch (pyNext (.ref s.heap.objs.size)) _ >>= _) _ _ _
    refine wpAny_bind (wpAny_tryCatch (W.item 1 _ _ _ (by show 1 < 2; decide) ⟨hi, hll.at fun o e => hk _ _ e⟩ fun v' h' tk' hP hst' hk' => ?_))
    obtain rfl : v' = v := (Option.some.inj hP).symm
    obtain ⟨k2, hS2⟩ := stepI _ _ _ hk' hk hS
    show wpAny _ A.in1 (tryCatch (holding [v', v'] (richCompare .Gt v' u >>= _)) _ >>= _) _ _ _
    refine wpAny_bind (wpAny_tryCatch (wpAny_holding (wpAny_bind (hcmp h' tk' _ _ k2 fun tk2 => ?_))))
    refine wpAny_bind (wpAny_holding (wpAny_truthy_bool ?_))
    refine wpAny_bind (wpAny_letGo (wpAny_pure ?_))
    cases hb : bt with
    | true =>
      simp only [if_true]
      refine wpAny_bind ?_
      refine wpAny_updateSeq hS2 rfl (wpAny_bind (wpAny_letGo ?_))
      rw [hname]
      obtain ⟨k3, i3⟩ := stepS _ _ _ (Heap.SameBut.update h' H1.objs.size (Obj.mapSeq fun _ => #[v', v'])) k2 hst'.1
      exact wpAny_pure ⟨plainId_quiet PySem.F.plain_max_loop _, fin _ _ v' _ (by rw [hb]; rfl) k3 i3 (Heap.get?_update_self _ hS2 rfl)⟩
    | false =>
      simp only [Bool.false_eq_true, if_false]
      refine wpAny_bind (wpAny_letGo ?_)
      rw [hname]
      exact wpAny_pure ⟨plainId_quiet PySem.F.plain_max_loop _, fin _ _ u c (by rw [hb]; rfl) k2 hst'.1 hS2⟩
  refine wpAny_pure ⟨plainId_quiet PySem.F.plain_max_loop _, ?_⟩
  obtain ⟨k2, i2⟩ : (∀ b o, s.heap.get? b = some o → (H1.push { cls := .type "list", data := .seq ([] : List Value).toArray }).get? b = some o) ∧ (H1.push { cls := .type "list", data := .seq ([] : List Value).toArray }).IsListIter s.heap.objs.size l 0 :=
    ⟨fun b o e => Heap.get?_push_of_some _ (k1 b o e), i1.at fun o e => Heap.get?_push_of_some _ e⟩
  refine codeAny_builtin PySem.F.entry_max_loop ?_
  rw [Around.under_plainId PySem.F.plain_max_loop _]
  show wpAny _ A.in1 (seqItems? (.ref H1.objs.size) >>= _) _ _ _
  refine wpAny_bind (wpAny_seqItems (Heap.get?_push_size _ rfl) rfl ?_)
  show wpAny _ A.in1 (tryCatch (pyNext (.ref s.heap.objs.size)) _ >>= _) _ _ _
  refine wpAny_bind (wpAny_tryCatch (W.item 0 _ _ _ (by show 0 < 2; decide) ⟨i2, hll.at fun o e => k2 _ _ e⟩ fun v' h' tk' hP hst' hk' => ?_))
  obtain rfl : v' = u := (Option.some.inj hP).symm
  obtain ⟨k3, hS3⟩ := stepI _ _ _ hk' k2 (Heap.get?_push_size _ rfl)
  show wpAny _ A.in1 (updateSeq H1.objs.size (fun _ => #[v', v']) >>= _) _ _ _
  refine wpAny_bind ?_
  refine wpAny_updateSeq hS3 rfl ?_
  rw [hname]
  obtain ⟨k4, i4⟩ := stepS _ _ _ (Heap.SameBut.update h' H1.objs.size (Obj.mapSeq fun _ => #[v', v'])) k3 hst'.1
  exact wpAny_pure ⟨plainId_quiet PySem.F.plain_max_loop _, snd _ _ _ k4 i4 (Heap.get?_update_self _ hS3 rfl)⟩
end
end Mine
theorem Mine.off13 : True := by w_top off; trivial
namespace Mine
open PySem PySem.W PySem.Calls PyProof.Rows PySem.AutoSeq1
noncomputable def lexB (lt : Str → Str → Bool) : List Str → List Str → Bool
  | x :: xs, y :: ys => if (x == y) = true then lexB lt xs ys else lt x y
  | _, _ => false
noncomputable def ltS (x y : Str) : Bool := decide (x.cps.toList < y.cps.toList)
noncomputable def gtS (x y : Str) : Bool := decide (y.cps.toList < x.cps.toList)
theorem lt_loop (l b : Addr) (items items2 : Array Value) (xs ys : List Str) (n n2 : Nat) (h1 : Strs items.toList xs) (h2 : Strs items2.toList ys) (hsz : xs.length = ys.length) (k : Nat) :
    ∀ i : Nat, items.size - i = k → Meets (Builtin.«list.__eq__.loop» ⟨[.ref l, .ref b, rawInt i, rawInt 0], []⟩)
      (fun _ R s => s.heap.get? l = some { cls := .type "list", data := .seq items n } ∧ s.heap.get? b = some { cls := .type "list", data := .seq items2 n2 } ∧ R (.ok (.ret (.bool (lexB ltS (xs.drop i) (ys.drop i))))) s) := by
  revert h1 h2 hsz
  revert l b items items2 xs ys n n2 k
  iterate 3 refine no_implicit_lambda% (Mine.pad1 ?_)
  refine' no_implicit_lambda% (Mine.hk12 ?ne ?_)
  case ne => (repeat' (first | (refine Mine.nePair ?_ ?_) | exact Mine.neWorld | exact Mine.neAround | exact Mine.neShared | infer_instance))
  generalize Mine.A4 _ = l; generalize Mine.A5 _ = b; generalize Mine.A6 _ = items; generalize Mine.A7 _ = items2; generalize Mine.A8 _ = xs; generalize Mine.A9 _ = ys; generalize Mine.A10 _ = n; generalize Mine.A11 _ = n2; generalize Mine.A12 _ = k
  intro uHk
  clear uHk
  intro h1 h2 hsz
  have hlen := h1.len
  have hlen2 := h2.len
  rw [Array.length_toList] at hlen hlen2
  induction k with
  | zero =>
    intro i hk prog w A R s h
    obtain ⟨hp, g, d, tk, os⟩ := s; obtain ⟨hl, hb, h⟩ := h
    wp_walk using wpAny_loadPart' hl, wpAny_loadPart' hb
    have hi1 : items[((i : Nat) : Int).toNat]? = none := by simp; lia
    have hd : xs.drop i = [] := by simp; lia
    rw [hd] at h
    rw [hi1]
    wp_walk using wpAny_loadPart' hl, wpAny_loadPart' hb
    show R (.ok (.ret (.bool (decide (items.size < items2.size))))) _
    rw [show decide (items.size < items2.size) = false by rw [decide_eq_false_iff_not]; lia]
    exact h
  | succ k ih =>
    intro i hk prog w A R s h
    obtain ⟨hp, g, d, tk, os⟩ := s; obtain ⟨hl, hb, h⟩ := h
    wp_walk using wpAny_loadPart' hl, wpAny_loadPart' hb
    have hlt : i < items.size := by lia
    have hlt2 : i < items2.size := by lia
    have hi1 : items[((i : Nat) : Int).toNat]? = some items[i] := by simp [hlt]
    have hi2 : items2[((i : Nat) : Int).toNat]? = some items2[i] := by simp [hlt2]
    (refine (let Gk : Prop := _; (?_ : Gk)))
    obtain ⟨x, t, ex, hx⟩ := h1.at (i := i) (v := items[i]) (by simp [hlt])
    obtain ⟨y, u, ey, hy⟩ := h2.at (i := i) (v := items2[i]) (by simp [hlt2])
    have hx' : xs.drop i = x :: xs.drop (i + 1) := List.drop_eq_getElem?_toList_append.trans (by rw [hx]; rfl)
    have hy' : ys.drop i = y :: ys.drop (i + 1) := List.drop_eq_getElem?_toList_append.trans (by rw [hy]; rfl)
    have hc : ((i : Int) + 1) = ((i + 1 : Nat) : Int) := by push_cast; rfl
    rw [hx', hy'] at h
    ((show Gk); k_unfold; clear Gk)
    unfold lexB at h
    rw [hi1, hi2, ex, ey]
    refine wpAny_bind (eqBool_str ?_)
    cases hb' : (x == y) with
    | true =>
      rw [hb', if_pos rfl] at h
      wp_walk
      rw [hc]
      exact ⟨plainId_quiet MeetsSeq3.plain_eq_loop _, codeAny_builtin MeetsSeq3.entry_eq_loop (by
        rw [Around.under_plainId MeetsSeq3.plain_eq_loop _]
        exact ih (i + 1) (by lia) prog w A R _ ⟨hl, hb, h⟩)⟩
    | false =>
      rw [hb', if_neg Bool.false_ne_true] at h
      wp_walk using wpAny_loadPart' hl, wpAny_loadPart' hb
      rw [hi1, hi2, ex, ey]
      try dsimp only
      refine wpAny_bind (richCompare_gives (op := .Lt) (typeIs_str _ x t) (typeIs_str _ y u) F.slot_str_lt F.entry_str_lt (F.args_str_lt_2 _ _) (gives_str_lt x y t u) (fun e => nomatch e) ?_)
      exact wpAny_pure h
theorem lt_list (l b : Addr) (items items2 : Array Value) (xs ys : List Str) (n n2 : Nat) (h1 : Strs items.toList xs) (h2 : Strs items2.toList ys) (hsz : xs.length = ys.length) :
    Meets (Builtin.«list.__lt__» ⟨[.ref l, .ref b], []⟩)
      (fun _ R s => s.heap.get? l = some { cls := .type "list", data := .seq items n } ∧ s.heap.get? b = some { cls := .type "list", data := .seq items2 n2 } ∧ R (.ok (.ret (.bool (lexB ltS xs ys)))) s) := by
  intro prog w A R s h
  obtain ⟨hp, g, d, tk, os⟩ := s; obtain ⟨hl, hb, h⟩ := h
  have f3 := AutoSeq1.sub_list_list
  wp_walk using wpAny_loadPart' hl, wpAny_loadPart' hb
  exact ⟨plainId_quiet MeetsSeq3.plain_eq_loop _, codeAny_builtin MeetsSeq3.entry_eq_loop (by
    rw [Around.under_plainId MeetsSeq3.plain_eq_loop _]
    exact lt_loop l b items items2 xs ys n n2 h1 h2 hsz _ 0 rfl prog w A R _ ⟨hl, hb, h⟩)⟩
theorem lt_lists {prog : Program} {w : World} {A : Around} {E : Value → Shared → Prop} {s : Shared} {l b : Addr} {items items2 : Array Value} {xs ys : List Str} {n n2 : Nat} {Q : Value → Shared → Prop} (h1 : Strs items.toList xs) (h2 : Strs items2.toList ys) (hsz : xs.length = ys.length)
    (hl : s.heap.get? l = some { cls := .type "list", data := .seq items n }) (hb : s.heap.get? b = some { cls := .type "list", data := .seq items2 n2 }) (hu : A.units < cLine) (h : Q (.bool (lexB ltS xs ys)) s) :
    wpAny (model prog w) A (richCompare .Lt (.ref l) (.ref b)) Q E s := by
  refine wpAny_richCompare_same_room (T := "list") ⟨_, hl, rfl⟩ ⟨_, hb, rfl⟩ F.slot_list_lt ?_ hu
  exact call_meets F.slot_list_lt ⟨_, hl, rfl⟩ F.entry_list_lt (F.args_list_lt_2 _ _) (lt_list l b items items2 xs ys n n2 h1 h2 hsz) ⟨hl, hb, ⟨(fun e => nomatch e), h⟩⟩
theorem gt_loop (l b : Addr) (items items2 : Array Value) (xs ys : List Str) (n n2 : Nat) (h1 : Strs items.toList xs) (h2 : Strs items2.toList ys) (hsz : xs.length = ys.length) (k : Nat) :
    ∀ i : Nat, items.size - i = k → Meets (Builtin.«list.__eq__.loop» ⟨[.ref l, .ref b, rawInt i, rawInt 4], []⟩)
      (fun _ R s => s.heap.get? l = some { cls := .type "list", data := .seq items n } ∧ s.heap.get? b = some { cls := .type "list", data := .seq items2 n2 } ∧ R (.ok (.ret (.bool (lexB gtS (xs.drop i) (ys.drop i))))) s) := by
  revert h1 h2 hsz
  revert l b items items2 xs ys n n2 k
  iterate 3 refine no_implicit_lambda% (Mine.pad1 ?_)
  refine' no_implicit_lambda% (Mine.hk12 ?ne ?_)
  case ne => (repeat' (first | (refine Mine.nePair ?_ ?_) | exact Mine.neWorld | exact Mine.neAround | exact Mine.neShared | infer_instance))
  generalize Mine.A4 _ = l; generalize Mine.A5 _ = b; generalize Mine.A6 _ = items; generalize Mine.A7 _ = items2; generalize Mine.A8 _ = xs; generalize Mine.A9 _ = ys; generalize Mine.A10 _ = n; generalize Mine.A11 _ = n2; generalize Mine.A12 _ = k
  intro uHk
  clear uHk
  intro h1 h2 hsz
  have hlen := h1.len
  have hlen2 := h2.len
  rw [Array.length_toList] at hlen hlen2
  induction k with
  | zero =>
    intro i hk prog w A R s h
    obtain ⟨hp, g, d, tk, os⟩ := s; obtain ⟨hl, hb, h⟩ := h
    wp_walk using wpAny_loadPart' hl, wpAny_loadPart' hb
    have hi1 : items[((i : Nat) : Int).toNat]? = none := by simp; lia
    have hd : xs.drop i = [] := by simp; lia
    rw [hd] at h
    rw [hi1]
    wp_walk using wpAny_loadPart' hl, wpAny_loadPart' hb
    show R (.ok (.ret (.bool (decide (items.size > items2.size))))) _
    rw [show decide (items.size > items2.size) = false by rw [decide_eq_false_iff_not]; lia]
    exact h
  | succ k ih =>
    intro i hk prog w A R s h
    obtain ⟨hp, g, d, tk, os⟩ := s; obtain ⟨hl, hb, h⟩ := h
    wp_walk using wpAny_loadPart' hl, wpAny_loadPart' hb
    have hlt : i < items.size := by lia
    have hlt2 : i < items2.size := by lia
    have hi1 : items[((i : Nat) : Int).toNat]? = some items[i] := by simp [hlt]
    have hi2 : items2[((i : Nat) : Int).toNat]? = some items2[i] := by simp [hlt2]
    (refine (let Gk : Prop := _; (?_ : Gk)))
    obtain ⟨x, t, ex, hx⟩ := h1.at (i := i) (v := items[i]) (by simp [hlt])
    obtain ⟨y, u, ey, hy⟩ := h2.at (i := i) (v := items2[i]) (by simp [hlt2])
    have hx' : xs.drop i = x :: xs.drop (i + 1) := List.drop_eq_getElem?_toList_append.trans (by rw [hx]; rfl)
    have hy' : ys.drop i = y :: ys.drop (i + 1) := List.drop_eq_getElem?_toList_append.trans (by rw [hy]; rfl)
    have hc : ((i : Int) + 1) = ((i + 1 : Nat) : Int) := by push_cast; rfl
    rw [hx', hy'] at h
    ((show Gk); k_unfold; clear Gk)
    unfold lexB at h
    rw [hi1, hi2, ex, ey]
    refine wpAny_bind (eqBool_str ?_)
    cases hb' : (x == y) with
    | true =>
      rw [hb', if_pos rfl] at h
      wp_walk
      rw [hc]
      exact ⟨plainId_quiet MeetsSeq3.plain_eq_loop _, codeAny_builtin MeetsSeq3.entry_eq_loop (by
        rw [Around.under_plainId MeetsSeq3.plain_eq_loop _]
        exact ih (i + 1) (by lia) prog w A R _ ⟨hl, hb, h⟩)⟩
    | false =>
      rw [hb', if_neg Bool.false_ne_true] at h
      wp_walk using wpAny_loadPart' hl, wpAny_loadPart' hb
      rw [hi1, hi2, ex, ey]
      try dsimp only
      refine wpAny_bind (richCompare_gives (op := .Gt) (typeIs_str _ x t) (typeIs_str _ y u) F.slot_str_gt F.entry_str_gt (F.args_str_gt_2 _ _) (gives_str_gt x y t u) (fun e => nomatch e) ?_)
      exact wpAny_pure h
theorem gt_list (l b : Addr) (items items2 : Array Value) (xs ys : List Str) (n n2 : Nat) (h1 : Strs items.toList xs) (h2 : Strs items2.toList ys) (hsz : xs.length = ys.length) :
    Meets (Builtin.«list.__gt__» ⟨[.ref l, .ref b], []⟩)
      (fun _ R s => s.heap.get? l = some { cls := .type "list", data := .seq items n } ∧ s.heap.get? b = some { cls := .type "list", data := .seq items2 n2 } ∧ R (.ok (.ret (.bool (lexB gtS xs ys)))) s) := by
  revert h1 h2 hsz
  revert l b items items2 xs ys n n2
  refine' no_implicit_lambda% (Mine.hk8 ?ne ?_)
  case ne => (repeat' (first | (refine Mine.nePair ?_ ?_) | exact Mine.neWorld | exact Mine.neAround | exact Mine.neShared | infer_instance))
  generalize Mine.A1 _ = l; generalize Mine.A2 _ = b; generalize Mine.A3 _ = items; generalize Mine.A4 _ = items2; generalize Mine.A5 _ = xs; generalize Mine.A6 _ = ys; generalize Mine.A7 _ = n; generalize Mine.A8 _ = n2
  intro uHk
  clear uHk
  intro h1 h2 hsz
  intro prog w A R s h
  obtain ⟨hp, g, d, tk, os⟩ := s; obtain ⟨hl, hb, h⟩ := h
  have f3 := AutoSeq1.sub_list_list
  wp_walk using wpAny_loadPart' hl, wpAny_loadPart' hb
  exact ⟨plainId_quiet MeetsSeq3.plain_eq_loop _, codeAny_builtin MeetsSeq3.entry_eq_loop (by
    rw [Around.under_plainId MeetsSeq3.plain_eq_loop _]
    exact gt_loop l b items items2 xs ys n n2 h1 h2 hsz _ 0 rfl prog w A R _ ⟨hl, hb, h⟩)⟩
theorem gt_lists {prog : Program} {w : World} {A : Around} {E : Value → Shared → Prop} {s : Shared} {l b : Addr} {items items2 : Array Value} {xs ys : List Str} {n n2 : Nat} {Q : Value → Shared → Prop} (h1 : Strs items.toList xs) (h2 : Strs items2.toList ys) (hsz : xs.length = ys.length)
    (hl : s.heap.get? l = some { cls := .type "list", data := .seq items n }) (hb : s.heap.get? b = some { cls := .type "list", data := .seq items2 n2 }) (hu : A.units < cLine) (h : Q (.bool (lexB gtS xs ys)) s) :
    wpAny (model prog w) A (richCompare .Gt (.ref l) (.ref b)) Q E s := by
  refine wpAny_richCompare_same_room (T := "list") ⟨_, hl, rfl⟩ ⟨_, hb, rfl⟩ F.slot_list_gt ?_ hu
  exact call_meets F.slot_list_gt ⟨_, hl, rfl⟩ F.entry_list_gt (F.args_list_gt_2 _ _) (gt_list l b items items2 xs ys n n2 h1 h2 hsz) ⟨hl, hb, ⟨(fun e => nomatch e), h⟩⟩
end Mine
namespace Mine
open PySem PySem.W PySem.Calls PyProof.Rows
theorem gt_not {x y : Str} (h : (x == y) = false) : gtS x y = !ltS x y := by
  have hne : x.cps.toList ≠ y.cps.toList := fun e => by
    have : x = y := Str.ext' (Array.toList_inj.mp e)
    rw [this] at h; simp at h
  unfold gtS ltS
  by_cases h1 : x.cps.toList < y.cps.toList
  · have h2 : ¬ y.cps.toList < x.cps.toList := fun q => List.lt_irrefl _ (List.lt_trans h1 q)
    simp [h1, h2]
  · have h2 : y.cps.toList < x.cps.toList := by
      rcases Nat.lt_or_ge 0 1 with _ | _
      · by_cases q : y.cps.toList < x.cps.toList
        · exact q
        · exact absurd (List.le_antisymm (List.not_lt.mp q) (List.not_lt.mp h1)) hne
      · lia
    simp [h1, h2]
theorem lexB_not {xs ys : List Str} (hl : xs.length = ys.length) (h : xs ≠ ys) : lexB gtS xs ys = !lexB ltS xs ys := by
  induction xs generalizing ys with
  | nil =>
    cases ys with
    | nil => exact absurd rfl h
    | cons _ _ => cases hl
  | cons x xs ih =>
    cases ys with
    | nil => cases hl
    | cons y ys =>
      unfold lexB
      cases hb : (x == y)
      · simp only [Bool.false_eq_true, if_false]
        exact gt_not hb
      · simp only [if_true]
        have e : x = y := by simpa using hb
        exact ih (Nat.succ.inj hl) (fun q => h (by rw [e, q]))
theorem strs4 {vs : List Value} {a b c d : Str} (h : Strs vs [a, b, c, d]) : ∃ t1 t2 t3 t4, vs = [.str a t1, .str b t2, .str c t3, .str d t4] := by
  revert h
  revert vs a b c d
  iterate 3 refine no_implicit_lambda% (Mine.pad1 ?_)
  refine' no_implicit_lambda% (Mine.hk8 ?ne ?_)
  case ne => (repeat' (first | (refine Mine.nePair ?_ ?_) | exact Mine.neWorld | exact Mine.neAround | exact Mine.neShared | infer_instance))
  generalize Mine.A4 _ = vs; generalize Mine.A5 _ = a; generalize Mine.A6 _ = b; generalize Mine.A7 _ = c; generalize Mine.A8 _ = d
  intro uHk
  clear uHk
  intro h
  cases h with | cons h =>
  cases h with | cons h =>
  cases h with | cons h =>
  cases h with | cons h =>
  cases h
  exact ⟨_, _, _, _, rfl⟩
theorem news_pick10 {h₀ h : Heap} {L : Addr} {p1 p2 p3 p4 p5 p6 p7 p8 p9 p10 : Addr × Obj} (N : News h₀ L h [p1, p2, p3, p4, p5, p6, p7, p8, p9, p10]) : News h₀ L h [p2, p3, p9, p10] := fun p hp => N p (by
  simp only [List.mem_cons, List.not_mem_nil, or_false] at hp ⊢
  rcases hp with rfl | rfl | rfl | rfl <;> simp)
theorem news_pick10' {h₀ h : Heap} {L : Addr} {p1 p2 p3 p4 p5 p6 p7 p8 p9 p10 : Addr × Obj} (N : News h₀ L h [p1, p2, p3, p4, p5, p6, p7, p8, p9, p10]) : News h₀ L h [p3, p2, p9, p10] := fun p hp => N p (by
  simp only [List.mem_cons, List.not_mem_nil, or_false] at hp ⊢
  rcases hp with rfl | rfl | rfl | rfl <;> simp)
end Mine
theorem Mine.off14 : True := by w_top off; trivial
namespace Mine
open PySem PySem.W PySem.Calls PyProof.Rows
noncomputable def topStmt (i : Nat) : Stmt := match PySem.Challenge.pw_rt0090_01.main.body.drop i with | x :: _ => x | [] => .Break ⟨0, 0, 0, 0⟩
noncomputable def nthStmt (b : List Stmt) (i : Nat) : Stmt := match b.drop i with | x :: _ => x | [] => .Break ⟨0, 0, 0, 0⟩
noncomputable def defBody (x : Stmt) : List Stmt := match x with | .FunctionDef _ _ b _ _ _ _ _ _ _ => b | _ => []
noncomputable def defScope (x : Stmt) : Scope := match x with | .FunctionDef _ _ _ _ _ _ sc _ _ _ => sc | _ => ⟨.function, [], false, false, []⟩
noncomputable def tryBody (x : Stmt) : List Stmt := match x with | .Try b _ _ _ _ => b | _ => []
noncomputable def cpScope : Scope := defScope (topStmt 28)
noncomputable def cpFor : Stmt := nthStmt (tryBody (nthStmt (defBody (topStmt 28)) 3)) 6
noncomputable def cpPre : Stmt := nthStmt (tryBody (nthStmt (defBody (topStmt 28)) 3)) 7
noncomputable def cpRet : Stmt := nthStmt (tryBody (nthStmt (defBody (topStmt 28)) 3)) 8
noncomputable def comPre : List Str → List Str → List Str
  | x :: xs, y :: ys => if x = y then x :: comPre xs ys else []
  | _, _ => []
theorem cp_tail {w : World} {p : Program} {loose : List Str} {mean : ExcName → Option Value} {mg mb : Str → Option Value} {dp un : Nat} {gd : Option (List Code)} {cn : Str} {cs : Scope} {a : Addr} {ccd : Value} {cl : List (Str × Addr)} {outer : List Env} {base h₀ : Heap} {L L' A Bx : Addr} {m0 : Str → Option Value} {s : Shared} {Q : Flow → Shared → Prop} {E : Value → Shared → Prop} {a3 a2 a1 a0 b3 b2 b1 b0 : Str} {t3 t2 t1 t0 u3 u2 u1 u0 tc : Tok} {o1 o2 : Obj}
    (B : Below (ktrTop dp un gd cn cs L a ccd cl outer) base (envX cn cs L a ccd cl :: outer) h₀) (X : (hd.heap_39 w.params).In h₀) (T : Top p loose mean mg mb h₀) (hk : cs.kind = .function) (hdp : dp + 20 < recursionLimit) (hun : un + 400 < cLine)
    (hj1 : (Txt.join "/" [a3]).length ≤ 200) (hj2 : (Txt.join "/" [a3, a2]).length ≤ 200) (hj3 : (Txt.join "/" [a3, a2, a1]).length ≤ 200) (hj4 : (Txt.join "/" [a3, a2, a1, a0]).length ≤ 200) (la3 : a3.length ≤ 40) (la2 : a2.length ≤ 40) (la1 : a1.length ≤ 40) (la0 : a0.length ≤ 40)
    (F : Fr h₀ L' s.heap (fun y => if y = "common" then some (.ref A) else if y = "s2" then some (.ref Bx) else if y = "s1" then some (.ref A) else if y = "isabs" then some (.bool true) else m0 y))
    (N : News h₀ L' s.heap [(A, LCg.lst [.str a3 t3, .str a2 t2, .str a1 t1, .str a0 t0]), (Bx, LCg.lst [.str b3 u3, .str b2 u2, .str b1 u1, .str b0 u0]), (L' + 1 + 1, o2), (L' + 1, o1)]) (ho1 : o1.data = Data.cell (some (.str "/" tc)))
    (hE : PassesOwn (model PySem.Challenge.pw_rt0090_01 w) ((ktrTop dp un gd cn cs L a ccd cl outer).deeper (envOfC "commonpath" cpScope L' 304 (.ref 303))) (envOfC "commonpath" cpScope L' 304 (.ref 303)) E)
    (hret : ∀ t h' tk m', Fr h₀ L' h' m' → Q (.ret (.str ("/" ++ Txt.join "/" (comPre [a3, a2, a1, a0] [b3, b2, b1, b0])) t)) { s with heap := h', toks := tk }) :
    wpAny (model PySem.Challenge.pw_rt0090_01 w) ((ktrTop dp un gd cn cs L a ccd cl outer).deeper (envOfC "commonpath" cpScope L' 304 (.ref 303))) (execs [cpFor, cpPre, cpRet] (envOfC "commonpath" cpScope L' 304 (.ref 303))) Q E s := by
  revert B X T hk hdp hun hj1 hj2 hj3 hj4 la3 la2 la1 la0 F N ho1 hE hret
  revert w p loose mean mg mb dp un gd cn cs a ccd cl outer base h₀ L L' A Bx m0 s Q E a3 a2 a1 a0 b3 b2 b1 b0 t3 t2 t1 t0 u3 u2 u1 u0 tc o1 o2
  iterate 4 refine no_implicit_lambda% (Mine.pad1 ?_)
  refine' no_implicit_lambda% (Mine.hk48 ?ne ?_)
  case ne => (repeat' (first | (refine Mine.nePair ?_ ?_) | exact Mine.neWorld | exact Mine.neAround | exact Mine.neShared | infer_instance))
  generalize Mine.A5 _ = w; generalize Mine.A6 _ = p; generalize Mine.A7 _ = loose; generalize Mine.A8 _ = mean; generalize Mine.A9 _ = mg; generalize Mine.A10 _ = mb; generalize Mine.A11 _ = dp; generalize Mine.A12 _ = un; generalize Mine.A13 _ = gd; generalize Mine.A14 _ = cn; generalize Mine.A15 _ = cs; generalize Mine.A16 _ = a; generalize Mine.A17 _ = ccd; generalize Mine.A18 _ = cl; generalize Mine.A19 _ = outer; generalize Mine.A20 _ = base; generalize Mine.A21 _ = h₀; generalize Mine.A22 _ = L; generalize Mine.A23 _ = L'; generalize Mine.A24 _ = A; generalize Mine.A25 _ = Bx; generalize Mine.A26 _ = m0; generalize Mine.A27 _ = s; generalize Mine.A28 _ = Q; generalize Mine.A29 _ = E; generalize Mine.A30 _ = a3; generalize Mine.A31 _ = a2; generalize Mine.A32 _ = a1; generalize Mine.A33 _ = a0; generalize Mine.A34 _ = b3; generalize Mine.A35 _ = b2; generalize Mine.A36 _ = b1; generalize Mine.A37 _ = b0; generalize Mine.A38 _ = t3; generalize Mine.A39 _ = t2; generalize Mine.A40 _ = t1; generalize Mine.A41 _ = t0; generalize Mine.A42 _ = u3; generalize Mine.A43 _ = u2; generalize Mine.A44 _ = u1; generalize Mine.A45 _ = u0; generalize Mine.A46 _ = tc; generalize Mine.A47 _ = o1; generalize Mine.A48 _ = o2
  intro uHk
  clear uHk
  intro B X T hk hdp hun hj1 hj2 hj3 hj4 la3 la2 la1 la0 F N ho1 hE hret
  revert hE
  conv in (occs := *) cpScope => all_goals whnf
  conv in cpFor => whnf
  conv in cpPre => whnf
  conv in cpRet => whnf
  intro hE
  (refine (let Akₘ : PySem.Around := _; (?_ : wpAny _ Akₘ _ _ _ _)))
  (first | (k_here; (with_reducible show wpAny _ _ (call (Value.ref 285) [Value.str _ _]) _ _ _); k_dflt (refine' Mine.c_getsep _ _ _ _ (by k_asm) (by k_asm) (by k_asm) (by k_asm) (by k_asm) (by first | exact rfl | assumption) (by ktr_room) (by ktr_units) ?_); intro v'ₘ n'ₘ h'ₘ tk'ₘ F'ₘ N'ₘ e'ₘ; obtain ⟨t'ₘ, e1ₘ, e2ₘ⟩ := e'ₘ; subst e1ₘ; subst e2ₘ; (try k_sweep)) | (k_here; (with_reducible show wpAny _ _ (call (Value.ref 271) [Value.str _ _]) _ _ _); k_dflt (refine' Mine.c_fspath _ _ _ _ (by k_asm) (by k_asm) (by k_asm) (by k_asm) (by k_asm) (by first | exact rfl | assumption) (by ktr_room) (by ktr_units) ?_); intro v'ₘ n'ₘ h'ₘ tk'ₘ F'ₘ N'ₘ e'ₘ; obtain ⟨e1ₘ, e2ₘ⟩ := e'ₘ; subst e1ₘ; subst e2ₘ; (try k_sweep)) | ((with_reducible show wpAny _ _ (call (Value.builtin "str.split") _ _) _ _ _); (k_here; (with_reducible show wpAny _ _ (call (Value.builtin "str.split") [Value.str _ _, Value.str _ _]) _ _ _); (refine KSpl.split1 (by k_asm) (by k_asm) (by decide) ?_ (by rw [sizeLine_eq]; lia)); intro D'ₘ l'ₘ h'ₘ k'ₘ e'ₘ a'ₘ F'ₘ N'ₘ l1ₘ; (try k_lt l1ₘ))) | walk1)
  (first | (k_here; (with_reducible show wpAny _ _ (call (Value.ref 285) [Value.str _ _]) _ _ _); k_dflt (refine' Mine.c_getsep _ _ _ _ (by k_asm) (by k_asm) (by k_asm) (by k_asm) (by k_asm) (by first | exact rfl | assumption) (by ktr_room) (by ktr_units) ?_); intro v'ₘ n'ₘ h'ₘ tk'ₘ F'ₘ N'ₘ e'ₘ; obtain ⟨t'ₘ, e1ₘ, e2ₘ⟩ := e'ₘ; subst e1ₘ; subst e2ₘ; (try k_sweep)) | (k_here; (with_reducible show wpAny _ _ (call (Value.ref 271) [Value.str _ _]) _ _ _); k_dflt (refine' Mine.c_fspath _ _ _ _ (by k_asm) (by k_asm) (by k_asm) (by k_asm) (by k_asm) (by first | exact rfl | assumption) (by ktr_room) (by ktr_units) ?_); intro v'ₘ n'ₘ h'ₘ tk'ₘ F'ₘ N'ₘ e'ₘ; obtain ⟨e1ₘ, e2ₘ⟩ := e'ₘ; subst e1ₘ; subst e2ₘ; (try k_sweep)) | ((with_reducible show wpAny _ _ (call (Value.builtin "str.split") _ _) _ _ _); (k_here; (with_reducible show wpAny _ _ (call (Value.builtin "str.split") [Value.str _ _, Value.str _ _]) _ _ _); (refine KSpl.split1 (by k_asm) (by k_asm) (by decide) ?_ (by rw [sizeLine_eq]; lia)); intro D'ₘ l'ₘ h'ₘ k'ₘ e'ₘ a'ₘ F'ₘ N'ₘ l1ₘ; (try k_lt l1ₘ))) | walk1)
  all_goals (repeat' (first | (k_unfold; (try dsimp only)) | ((fail_if_success (with_reducible (refine Mine.stp 1 ?_ ?_; (focus ((repeat' constructor); done))))); (first | (k_end; wrow_close) | (first | (k_here; (with_reducible show wpAny _ _ (call (Value.ref 285) [Value.str _ _]) _ _ _); k_dflt (refine' Mine.c_getsep _ _ _ _ (by k_asm) (by k_asm) (by k_asm) (by k_asm) (by k_asm) (by first | exact rfl | assumption) (by ktr_room) (by ktr_units) ?_); intro v'ₘ n'ₘ h'ₘ tk'ₘ F'ₘ N'ₘ e'ₘ; obtain ⟨t'ₘ, e1ₘ, e2ₘ⟩ := e'ₘ; subst e1ₘ; subst e2ₘ; (try k_sweep)) | (k_here; (with_reducible show wpAny _ _ (call (Value.ref 271) [Value.str _ _]) _ _ _); k_dflt (refine' Mine.c_fspath _ _ _ _ (by k_asm) (by k_asm) (by k_asm) (by k_asm) (by k_asm) (by first | exact rfl | assumption) (by ktr_room) (by ktr_units) ?_); intro v'ₘ n'ₘ h'ₘ tk'ₘ F'ₘ N'ₘ e'ₘ; obtain ⟨e1ₘ, e2ₘ⟩ := e'ₘ; subst e1ₘ; subst e2ₘ; (try k_sweep)) | ((with_reducible show wpAny _ _ (call (Value.builtin "str.split") _ _) _ _ _); (k_here; (with_reducible show wpAny _ _ (call (Value.builtin "str.split") [Value.str _ _, Value.str _ _]) _ _ _); (refine KSpl.split1 (by k_asm) (by k_asm) (by decide) ?_ (by rw [sizeLine_eq]; lia)); intro D'ₘ l'ₘ h'ₘ k'ₘ e'ₘ a'ₘ F'ₘ N'ₘ l1ₘ; (try k_lt l1ₘ))) | walk1) | (dsimp only; (first | walk1 | skip)))) | ((fail_if_success (with_reducible show wpAny _ _ _ _ _ _)); dsimp only [Mine.MyPost]) | (leave1; try dsimp only) | fail "no step"))
  · rename (a3 != b3) = true => e3
    rw [show comPre [a3, a2, a1, a0] [b3, b2, b1, b0] = [] by simp only [comPre]; rw [if_neg (by simpa using e3)]] at hret
    exact hret _ _ _ _ (by assumption)
  · rename (a3 != b3) = false => e3
    rename (a2 != b2) = true => e2
    rw [show comPre [a3, a2, a1, a0] [b3, b2, b1, b0] = [a3] by simp only [comPre]; rw [if_pos (by simpa using e3), if_neg (by simpa using e2)]] at hret
    exact hret _ _ _ _ (by assumption)
  · rename (a3 != b3) = false => e3
    rename (a2 != b2) = false => e2
    rename (a1 != b1) = true => e1
    rw [show comPre [a3, a2, a1, a0] [b3, b2, b1, b0] = [a3, a2] by simp only [comPre]; rw [if_pos (by simpa using e3), if_pos (by simpa using e2), if_neg (by simpa using e1)]] at hret
    exact hret _ _ _ _ (by assumption)
  · rename (a3 != b3) = false => e3
    rename (a2 != b2) = false => e2
    rename (a1 != b1) = false => e1
    rename (a0 != b0) = true => e0
    rw [show comPre [a3, a2, a1, a0] [b3, b2, b1, b0] = [a3, a2, a1] by simp only [comPre]; rw [if_pos (by simpa using e3), if_pos (by simpa using e2), if_pos (by simpa using e1), if_neg (by simpa using e0)]] at hret
    exact hret _ _ _ _ (by assumption)
  · rename (a3 != b3) = false => e3
    rename (a2 != b2) = false => e2
    rename (a1 != b1) = false => e1
    rename (a0 != b0) = false => e0
    rw [show comPre [a3, a2, a1, a0] [b3, b2, b1, b0] = [a3, a2, a1, a0] by simp only [comPre]; rw [if_pos (by simpa using e3), if_pos (by simpa using e2), if_pos (by simpa using e1), if_pos (by simpa using e0)]] at hret
    exact hret _ _ _ _ (by assumption)
end Mine
theorem Mine.off15 : True := by w_top off; trivial
namespace Mine
open PySem PySem.W PySem.Calls PyProof.Rows
noncomputable def goodC (c : Str) : Bool := c.length != 0 && c != "."
structure CpOk (x x3 x2 x1 x0 : Str) : Prop where
  len : x.length ≤ 40
  st : Txt.startswith x "/" = true
  spl : (Txt.split x "/").filter goodC = [x3, x2, x1, x0]
  nspl : (Txt.split x "/").length ≤ 40
  each : ∀ c ∈ Txt.split x "/", c.length ≤ 40
  l3 : x3.length ≤ 40
  l2 : x2.length ≤ 40
  l1 : x1.length ≤ 40
  l0 : x0.length ≤ 40
  j1 : (Txt.join "/" [x3]).length ≤ 200
  j2 : (Txt.join "/" [x3, x2]).length ≤ 200
  j3 : (Txt.join "/" [x3, x2, x1]).length ≤ 200
  j4 : (Txt.join "/" [x3, x2, x1, x0]).length ≤ 200
theorem fr_map {h₀ h : Heap} {L : Addr} {m m' : Str → Option Value} (F : Fr h₀ L h m) (e : m = m') : Fr h₀ L h m' := e ▸ F
theorem comPre_comm (xs ys : List Str) : comPre xs ys = comPre ys xs := by
  induction xs generalizing ys with
  | nil => cases ys <;> rfl
  | cons x xs ih =>
    cases ys with
    | nil => rfl
    | cons y ys =>
      unfold comPre
      by_cases h : x = y
      · rw [if_pos h, if_pos h.symm, h, ih ys]
      · rw [if_neg h, if_neg (Ne.symm h)]
theorem c_commonpath (w : World) (x y x3 x2 x1 x0 y3 y2 y1 y0 : Str) (hcx' : CpOk x x3 x2 x1 x0) (hcy' : CpOk y y3 y2 y1 y0) (hXY : [y3, y2, y1, y0] ≠ [x3, x2, x1, x0]) (s : Shared) (l : Addr) (n : Nat) (t u : Tok) (hl : s.heap.get? l = some { cls := .type "list", data := .seq #[.str x t, .str y u] n }) :
    RO w 20 304 [.ref l] [] s (fun v _ => ∃ t, v = .str ("/" ++ Txt.join "/" (comPre [x3, x2, x1, x0] [y3, y2, y1, y0])) t) := by
  revert hcx' hcy' hXY hl
  revert w x y x3 x2 x1 x0 y3 y2 y1 y0 s l n t u
  refine' no_implicit_lambda% (Mine.hk16 ?ne ?_)
  case ne => (repeat' (first | (refine Mine.nePair ?_ ?_) | exact Mine.neWorld | exact Mine.neAround | exact Mine.neShared | infer_instance))
  generalize Mine.A1 _ = w; generalize Mine.A2 _ = x; generalize Mine.A3 _ = y; generalize Mine.A4 _ = x3; generalize Mine.A5 _ = x2; generalize Mine.A6 _ = x1; generalize Mine.A7 _ = x0; generalize Mine.A8 _ = y3; generalize Mine.A9 _ = y2; generalize Mine.A10 _ = y1; generalize Mine.A11 _ = y0; generalize Mine.A12 _ = s; generalize Mine.A13 _ = l; generalize Mine.A14 _ = n; generalize Mine.A15 _ = t; generalize Mine.A16 _ = u
  intro uHk
  clear uHk
  intro hcx' hcy' hXY hl
  have hx := hcx'.len
  have hy := hcy'.len
  have hsx := hcx'.st
  have hsy := hcy'.st
  have hdx := hcx'.spl
  have hdy := hcy'.spl
  have hnx := hcx'.nspl
  have hny := hcy'.nspl
  have hcx := hcx'.each
  have hcy := hcy'.each
  refine' no_implicit_lambda% (Mine.hk21 ?ne ?_)
  case ne => (repeat' (first | (refine Mine.nePair ?_ ?_) | exact Mine.neWorld | exact Mine.neAround | exact Mine.neShared | infer_instance))
  generalize Mine.A1 _ = p; generalize Mine.A2 _ = loose; generalize Mine.A3 _ = mean; generalize Mine.A4 _ = mg; generalize Mine.A5 _ = mb; generalize Mine.A6 _ = dp; generalize Mine.A7 _ = un; generalize Mine.A8 _ = gd; generalize Mine.A9 _ = cn; generalize Mine.A10 _ = cs; generalize Mine.A11 _ = a; generalize Mine.A12 _ = ccd; generalize Mine.A13 _ = cl; generalize Mine.A14 _ = outer; generalize Mine.A15 _ = A₀; generalize Mine.A16 _ = base; generalize Mine.A17 _ = h₀; generalize Mine.A18 _ = L; generalize Mine.A19 _ = m; generalize Mine.A20 _ = Q; generalize Mine.A21 _ = E
  intro uHk
  clear uHk
  intro B F X T hk hdp hun hret
  refine wpAny_call ?_
  (k_dflt (refine' Mine.enterROC ?k1ₘ ?k2ₘ ?k3ₘ ?k5ₘ ?kAₘ ?kFₘ ?kKₘ ?k6ₘ ?k7ₘ ?k8ₘ ?k9ₘ ?kBₘ ?kDₘ ?_ ?c2ₘ ?c3ₘ ?c4ₘ; (case kAₘ => exact rfl); (case kFₘ => exact rfl); (case kKₘ => assumption); (case k1ₘ => k_asm); (case k2ₘ => k_asm); (case k3ₘ => k_asm); (case k5ₘ => k_asm); (case k6ₘ => k_is); (case k7ₘ => k_is); (case k8ₘ => ktr_room); (case k9ₘ => first | exact BindsTo.of_eq rfl | exact binds_K (by k_in) rfl (by k_is) rfl rfl rfl); (case kBₘ => exact rfl); (case kDₘ => decide +kernel); (case c2ₘ => exact rfl); (case c3ₘ => exact rfl); (case c4ₘ => exact rfl); k_whole); intro L'ₘ h'ₘ tk'ₘ cells'ₘ F'ₘ N'ₘ Y'ₘ B'ₘ X'ₘ T'ₘ l1ₘ; clear l1ₘ; k_cells Y'ₘ; (try simp only [List.cons_append, List.nil_append] at N'ₘ); (try dsimp only); (try k_fold))
  (refine (let Akₘ : PySem.Around := _; (?_ : wpAny _ Akₘ _ _ _ _)))
  (repeat' (first | (k_unfold; (try dsimp only)) | ((fail_if_success (with_reducible (refine Mine.stp 10 ?_ ?_; (focus ((repeat' constructor); done))))); (first | (k_end; wrow_close) | (first | (k_here; (with_reducible show wpAny _ _ (call (Value.ref 285) [Value.str _ _]) _ _ _); k_dflt (refine' Mine.c_getsep _ _ _ _ (by k_asm) (by k_asm) (by k_asm) (by k_asm) (by k_asm) (by first | exact rfl | assumption) (by ktr_room) (by ktr_units) ?_); intro v'ₘ n'ₘ h'ₘ tk'ₘ F'ₘ N'ₘ e'ₘ; obtain ⟨t'ₘ, e1ₘ, e2ₘ⟩ := e'ₘ; subst e1ₘ; subst e2ₘ; (try k_sweep)) | (k_here; (with_reducible show wpAny _ _ (call (Value.ref 271) [Value.str _ _]) _ _ _); k_dflt (refine' Mine.c_fspath _ _ _ _ (by k_asm) (by k_asm) (by k_asm) (by k_asm) (by k_asm) (by first | exact rfl | assumption) (by ktr_room) (by ktr_units) ?_); intro v'ₘ n'ₘ h'ₘ tk'ₘ F'ₘ N'ₘ e'ₘ; obtain ⟨e1ₘ, e2ₘ⟩ := e'ₘ; subst e1ₘ; subst e2ₘ; (try k_sweep)) | ((with_reducible show wpAny _ _ (call (Value.builtin "str.split") _ _) _ _ _); (k_here; (with_reducible show wpAny _ _ (call (Value.builtin "str.split") [Value.str _ _, Value.str _ _]) _ _ _); (refine KSpl.split1 (by k_asm) (by k_asm) (by decide) ?_ (by rw [sizeLine_eq]; lia)); intro D'ₘ l'ₘ h'ₘ k'ₘ e'ₘ a'ₘ F'ₘ N'ₘ l1ₘ; (try k_lt l1ₘ))) | walk1) | (dsimp only; (first | walk1 | skip)))) | ((fail_if_success (with_reducible show wpAny _ _ _ _ _ _)); dsimp only [Mine.MyPost]) | (leave1; try dsimp only) | fail "no step"))
  ((with_reducible rename News _ _ _ _ => Nz); (with_reducible rename Fr _ _ _ _ => Fz))
  refine map_led Fz Nz hl fun M T I h1 F1 N1 hMI hTI hnI => ?_
  clear Fz Nz
  (repeat' (first | (k_unfold; (try dsimp only)) | ((fail_if_success (with_reducible (refine Mine.stp 10 ?_ ?_; (focus ((repeat' constructor); done))))); (first | (k_end; wrow_close) | (first | (k_here; (with_reducible show wpAny _ _ (call (Value.ref 285) [Value.str _ _]) _ _ _); k_dflt (refine' Mine.c_getsep _ _ _ _ (by k_asm) (by k_asm) (by k_asm) (by k_asm) (by k_asm) (by first | exact rfl | assumption) (by ktr_room) (by ktr_units) ?_); intro v'ₘ n'ₘ h'ₘ tk'ₘ F'ₘ N'ₘ e'ₘ; obtain ⟨t'ₘ, e1ₘ, e2ₘ⟩ := e'ₘ; subst e1ₘ; subst e2ₘ; (try k_sweep)) | (k_here; (with_reducible show wpAny _ _ (call (Value.ref 271) [Value.str _ _]) _ _ _); k_dflt (refine' Mine.c_fspath _ _ _ _ (by k_asm) (by k_asm) (by k_asm) (by k_asm) (by k_asm) (by first | exact rfl | assumption) (by ktr_room) (by ktr_units) ?_); intro v'ₘ n'ₘ h'ₘ tk'ₘ F'ₘ N'ₘ e'ₘ; obtain ⟨e1ₘ, e2ₘ⟩ := e'ₘ; subst e1ₘ; subst e2ₘ; (try k_sweep)) | ((with_reducible show wpAny _ _ (call (Value.builtin "str.split") _ _) _ _ _); (k_here; (with_reducible show wpAny _ _ (call (Value.builtin "str.split") [Value.str _ _, Value.str _ _]) _ _ _); (refine KSpl.split1 (by k_asm) (by k_asm) (by decide) ?_ (by rw [sizeLine_eq]; lia)); intro D'ₘ l'ₘ h'ₘ k'ₘ e'ₘ a'ₘ F'ₘ N'ₘ l1ₘ; (try k_lt l1ₘ))) | walk1) | (dsimp only; (first | walk1 | skip)))) | ((fail_if_success (with_reducible show wpAny _ _ _ _ _ _)); dsimp only [Mine.MyPost]) | (leave1; try dsimp only) | fail "no step"))
  ((with_reducible rename News _ _ _ _ => Nz); (with_reducible rename Fr _ _ _ _ => Fz))
  k_dflt (refine' tuple_map2 ?k1 Fz ?k3 ?k4 ?k5 ?k6 ?k7 Nz hnI hMI hTI hl ?_; (case k1 => k_asm); (case k3 => k_asm); (case k4 => k_asm); (case k5 => first | exact rfl | assumption); (case k6 => ktr_room); (case k7 => ktr_units); k_whole)
  intro D1 h2 tk2 F2 N2 l1
  clear Fz Nz
  (repeat' (first | (k_unfold; (try dsimp only)) | ((fail_if_success (with_reducible (refine Mine.stp 10 ?_ ?_; (focus ((repeat' constructor); done))))); (first | (k_end; wrow_close) | (first | (k_here; (with_reducible show wpAny _ _ (call (Value.ref 285) [Value.str _ _]) _ _ _); k_dflt (refine' Mine.c_getsep _ _ _ _ (by k_asm) (by k_asm) (by k_asm) (by k_asm) (by k_asm) (by first | exact rfl | assumption) (by ktr_room) (by ktr_units) ?_); intro v'ₘ n'ₘ h'ₘ tk'ₘ F'ₘ N'ₘ e'ₘ; obtain ⟨t'ₘ, e1ₘ, e2ₘ⟩ := e'ₘ; subst e1ₘ; subst e2ₘ; (try k_sweep)) | (k_here; (with_reducible show wpAny _ _ (call (Value.ref 271) [Value.str _ _]) _ _ _); k_dflt (refine' Mine.c_fspath _ _ _ _ (by k_asm) (by k_asm) (by k_asm) (by k_asm) (by k_asm) (by first | exact rfl | assumption) (by ktr_room) (by ktr_units) ?_); intro v'ₘ n'ₘ h'ₘ tk'ₘ F'ₘ N'ₘ e'ₘ; obtain ⟨e1ₘ, e2ₘ⟩ := e'ₘ; subst e1ₘ; subst e2ₘ; (try k_sweep)) | ((with_reducible show wpAny _ _ (call (Value.builtin "str.split") _ _) _ _ _); (k_here; (with_reducible show wpAny _ _ (call (Value.builtin "str.split") [Value.str _ _, Value.str _ _]) _ _ _); (refine KSpl.split1 (by k_asm) (by k_asm) (by decide) ?_ (by rw [sizeLine_eq]; lia)); intro D'ₘ l'ₘ h'ₘ k'ₘ e'ₘ a'ₘ F'ₘ N'ₘ l1ₘ; (try k_lt l1ₘ))) | walk1) | (dsimp only; (first | walk1 | skip)))) | ((fail_if_success (with_reducible show wpAny _ _ _ _ _ _)); dsimp only [Mine.MyPost]) | (leave1; try dsimp only) | fail "no step"))
  refine wpAny_Try_except ?_
  (repeat' (first | (k_unfold; (try dsimp only)) | ((fail_if_success (with_reducible (refine Mine.stp 10 ?_ ?_; (focus ((repeat' constructor); done))))); (first | (k_end; wrow_close) | (first | (k_here; (with_reducible show wpAny _ _ (call (Value.ref 285) [Value.str _ _]) _ _ _); k_dflt (refine' Mine.c_getsep _ _ _ _ (by k_asm) (by k_asm) (by k_asm) (by k_asm) (by k_asm) (by first | exact rfl | assumption) (by ktr_room) (by ktr_units) ?_); intro v'ₘ n'ₘ h'ₘ tk'ₘ F'ₘ N'ₘ e'ₘ; obtain ⟨t'ₘ, e1ₘ, e2ₘ⟩ := e'ₘ; subst e1ₘ; subst e2ₘ; (try k_sweep)) | (k_here; (with_reducible show wpAny _ _ (call (Value.ref 271) [Value.str _ _]) _ _ _); k_dflt (refine' Mine.c_fspath _ _ _ _ (by k_asm) (by k_asm) (by k_asm) (by k_asm) (by k_asm) (by first | exact rfl | assumption) (by ktr_room) (by ktr_units) ?_); intro v'ₘ n'ₘ h'ₘ tk'ₘ F'ₘ N'ₘ e'ₘ; obtain ⟨e1ₘ, e2ₘ⟩ := e'ₘ; subst e1ₘ; subst e2ₘ; (try k_sweep)) | ((with_reducible show wpAny _ _ (call (Value.builtin "str.split") _ _) _ _ _); (k_here; (with_reducible show wpAny _ _ (call (Value.builtin "str.split") [Value.str _ _, Value.str _ _]) _ _ _); (refine KSpl.split1 (by k_asm) (by k_asm) (by decide) ?_ (by rw [sizeLine_eq]; lia)); intro D'ₘ l'ₘ h'ₘ k'ₘ e'ₘ a'ₘ F'ₘ N'ₘ l1ₘ; (try k_lt l1ₘ))) | walk1) | (dsimp only; (first | walk1 | skip)))) | ((fail_if_success (with_reducible show wpAny _ _ _ _ _ _)); dsimp only [Mine.MyPost]) | (leave1; try dsimp only) | fail "no step"))
  ((with_reducible rename News _ _ _ _ => Nz); (with_reducible rename Fr _ _ _ _ => Fz))
  k_dflt (refine assign_comp_tup (F₀ := Fz) (by rfl) (by with_unfolding_all rfl) (by with_unfolding_all rfl) (by decide) (by rfl) (by decide) (by rfl) (by rfl) (by rfl) ?_)
  (first | (k_here; (with_reducible show wpAny _ _ (call (Value.ref 285) [Value.str _ _]) _ _ _); k_dflt (refine' Mine.c_getsep _ _ _ _ (by k_asm) (by k_asm) (by k_asm) (by k_asm) (by k_asm) (by first | exact rfl | assumption) (by ktr_room) (by ktr_units) ?_); intro v'ₘ n'ₘ h'ₘ tk'ₘ F'ₘ N'ₘ e'ₘ; obtain ⟨t'ₘ, e1ₘ, e2ₘ⟩ := e'ₘ; subst e1ₘ; subst e2ₘ; (try k_sweep)) | (k_here; (with_reducible show wpAny _ _ (call (Value.ref 271) [Value.str _ _]) _ _ _); k_dflt (refine' Mine.c_fspath _ _ _ _ (by k_asm) (by k_asm) (by k_asm) (by k_asm) (by k_asm) (by first | exact rfl | assumption) (by ktr_room) (by ktr_units) ?_); intro v'ₘ n'ₘ h'ₘ tk'ₘ F'ₘ N'ₘ e'ₘ; obtain ⟨e1ₘ, e2ₘ⟩ := e'ₘ; subst e1ₘ; subst e2ₘ; (try k_sweep)) | ((with_reducible show wpAny _ _ (call (Value.builtin "str.split") _ _) _ _ _); (k_here; (with_reducible show wpAny _ _ (call (Value.builtin "str.split") [Value.str _ _, Value.str _ _]) _ _ _); (refine KSpl.split1 (by k_asm) (by k_asm) (by decide) ?_ (by rw [sizeLine_eq]; lia)); intro D'ₘ l'ₘ h'ₘ k'ₘ e'ₘ a'ₘ F'ₘ N'ₘ l1ₘ; (try k_lt l1ₘ))) | walk1)
  ((with_reducible rename News _ _ _ _ => Nz); (with_reducible rename Fr _ _ _ _ => Fz))
  refine ⟨D1, #[.str x t, .str y u], 0, _, rfl, rfl, Fz, Nz, by k_mem, by (show 2 ≤ sizeLine; rw [sizeLine_eq]; decide), fun g => ?_⟩
  refine with_news Nz fun N0 eN0 => ?_
  rw [← eN0]
  clear Fz Nz
  refine LCg.CompRest.succ fun v I oI C oC D m₂ h tk E' hP hC hx2 F2 N2 o3 ne => ?_
  obtain rfl : v = .str x t := (Option.some.inj hP).symm
  have o4 := o3
  rw [eN0] at N2 o3
  (try simp only [LCg.Off3, and_true] at o3)
  (repeat' (first | (k_unfold; (try dsimp only)) | ((fail_if_success (with_reducible (refine Mine.stp 10 ?_ ?_; (focus ((repeat' constructor); done))))); (first | (k_end; wrow_close) | (first | (k_here; (with_reducible show wpAny _ _ (call (Value.ref 285) [Value.str _ _]) _ _ _); k_dflt (refine' Mine.c_getsep _ _ _ _ (by k_asm) (by k_asm) (by k_asm) (by k_asm) (by k_asm) (by first | exact rfl | assumption) (by ktr_room) (by ktr_units) ?_); intro v'ₘ n'ₘ h'ₘ tk'ₘ F'ₘ N'ₘ e'ₘ; obtain ⟨t'ₘ, e1ₘ, e2ₘ⟩ := e'ₘ; subst e1ₘ; subst e2ₘ; (try k_sweep)) | (k_here; (with_reducible show wpAny _ _ (call (Value.ref 271) [Value.str _ _]) _ _ _); k_dflt (refine' Mine.c_fspath _ _ _ _ (by k_asm) (by k_asm) (by k_asm) (by k_asm) (by k_asm) (by first | exact rfl | assumption) (by ktr_room) (by ktr_units) ?_); intro v'ₘ n'ₘ h'ₘ tk'ₘ F'ₘ N'ₘ e'ₘ; obtain ⟨e1ₘ, e2ₘ⟩ := e'ₘ; subst e1ₘ; subst e2ₘ; (try k_sweep)) | ((with_reducible show wpAny _ _ (call (Value.builtin "str.split") _ _) _ _ _); (k_here; (with_reducible show wpAny _ _ (call (Value.builtin "str.split") [Value.str _ _, Value.str _ _]) _ _ _); (refine KSpl.split1 (by k_asm) (by k_asm) (by decide) ?_ (by rw [sizeLine_eq]; lia)); intro D'ₘ l'ₘ h'ₘ k'ₘ e'ₘ a'ₘ F'ₘ N'ₘ l1ₘ; (try k_lt l1ₘ))) | walk1) | (dsimp only; (first | walk1 | skip)))) | ((fail_if_success (with_reducible show wpAny _ _ _ _ _ _)); dsimp only [Mine.MyPost]) | (leave1; try dsimp only) | fail "no step"))
  ((with_reducible rename News _ _ _ _ => Nz); (with_reducible rename Fr _ _ _ _ => Fz))
  refine with_split Nz fun D2 l2 e1 e2 => ?_
  subst e1 e2
  rename (@LT.lt Nat _ I D2) ∧ _ => q1
  rename List.map _ l2 = Txt.split x "/" => hs1
  refine ⟨_, _, (D2, W.listOf (strValues l2).toArray 0) :: N0, rfl, Fz, news_sub Nz (by rw [eN0]; (intro pₘ hpₘ; (repeat (rcases List.mem_cons.mp hpₘ with hqₘ | hpₘ; (focus (rw [hqₘ]; k_mem)))); (repeat (first | exact hpₘ | apply List.mem_cons_of_mem)))), ⟨⟨Ne.symm (Nat.ne_of_lt q1.1), Ne.symm (Nat.ne_of_lt q1.2.1), Ne.symm (Nat.ne_of_lt q1.2.2.1)⟩, o4⟩, by rw [eN0]; k_mem, ?_⟩
  clear Fz Nz F2 N2 o3 o4
  clear hC hx2 ne
  refine LCg.CompRest.succ fun v I oI C oC D m₂ h tk E' hP hC hx2 F2 N2 o3 ne => ?_
  obtain rfl : v = .str y u := (Option.some.inj hP).symm
  have o4 := o3
  rw [eN0] at N2 o3
  (try simp only [LCg.Off3, and_true] at o3)
  (repeat' (first | (k_unfold; (try dsimp only)) | ((fail_if_success (with_reducible (refine Mine.stp 10 ?_ ?_; (focus ((repeat' constructor); done))))); (first | (k_end; wrow_close) | (first | (k_here; (with_reducible show wpAny _ _ (call (Value.ref 285) [Value.str _ _]) _ _ _); k_dflt (refine' Mine.c_getsep _ _ _ _ (by k_asm) (by k_asm) (by k_asm) (by k_asm) (by k_asm) (by first | exact rfl | assumption) (by ktr_room) (by ktr_units) ?_); intro v'ₘ n'ₘ h'ₘ tk'ₘ F'ₘ N'ₘ e'ₘ; obtain ⟨t'ₘ, e1ₘ, e2ₘ⟩ := e'ₘ; subst e1ₘ; subst e2ₘ; (try k_sweep)) | (k_here; (with_reducible show wpAny _ _ (call (Value.ref 271) [Value.str _ _]) _ _ _); k_dflt (refine' Mine.c_fspath _ _ _ _ (by k_asm) (by k_asm) (by k_asm) (by k_asm) (by k_asm) (by first | exact rfl | assumption) (by ktr_room) (by ktr_units) ?_); intro v'ₘ n'ₘ h'ₘ tk'ₘ F'ₘ N'ₘ e'ₘ; obtain ⟨e1ₘ, e2ₘ⟩ := e'ₘ; subst e1ₘ; subst e2ₘ; (try k_sweep)) | ((with_reducible show wpAny _ _ (call (Value.builtin "str.split") _ _) _ _ _); (k_here; (with_reducible show wpAny _ _ (call (Value.builtin "str.split") [Value.str _ _, Value.str _ _]) _ _ _); (refine KSpl.split1 (by k_asm) (by k_asm) (by decide) ?_ (by rw [sizeLine_eq]; lia)); intro D'ₘ l'ₘ h'ₘ k'ₘ e'ₘ a'ₘ F'ₘ N'ₘ l1ₘ; (try k_lt l1ₘ))) | walk1) | (dsimp only; (first | walk1 | skip)))) | ((fail_if_success (with_reducible show wpAny _ _ _ _ _ _)); dsimp only [Mine.MyPost]) | (leave1; try dsimp only) | fail "no step"))
  ((with_reducible rename News _ _ _ _ => Nz); (with_reducible rename Fr _ _ _ _ => Fz))
  refine with_split Nz fun D3 l3 e1 e2 => ?_
  subst e1 e2
  rename (@LT.lt Nat _ I D3) ∧ _ => q2
  rename List.map _ l3 = Txt.split y "/" => hs2
  refine ⟨_, _, (D3, W.listOf (strValues l3).toArray 0) :: (D2, W.listOf (strValues l2).toArray 0) :: N0, rfl, Fz, news_sub Nz (by rw [eN0]; (intro pₘ hpₘ; (repeat (rcases List.mem_cons.mp hpₘ with hqₘ | hpₘ; (focus (rw [hqₘ]; k_mem)))); (repeat (first | exact hpₘ | apply List.mem_cons_of_mem)))), ⟨⟨Ne.symm (Nat.ne_of_lt q2.1), Ne.symm (Nat.ne_of_lt q2.2.1), Ne.symm (Nat.ne_of_lt q2.2.2.1)⟩, o4⟩, by rw [eN0]; k_mem, ?_⟩
  refine LCg.CompRest.zero ?_
  clear Fz Nz F2 N2 o3 o4
  clear hC hx2 ne
  intro D h tk F2 N2 o1
  rw [eN0] at N2
  (repeat' (first | (k_unfold; (try dsimp only)) | ((fail_if_success (with_reducible (refine Mine.stp 10 ?_ ?_; (focus ((repeat' constructor); done))))); (first | (k_end; wrow_close) | (first | (k_here; (with_reducible show wpAny _ _ (call (Value.ref 285) [Value.str _ _]) _ _ _); k_dflt (refine' Mine.c_getsep _ _ _ _ (by k_asm) (by k_asm) (by k_asm) (by k_asm) (by k_asm) (by first | exact rfl | assumption) (by ktr_room) (by ktr_units) ?_); intro v'ₘ n'ₘ h'ₘ tk'ₘ F'ₘ N'ₘ e'ₘ; obtain ⟨t'ₘ, e1ₘ, e2ₘ⟩ := e'ₘ; subst e1ₘ; subst e2ₘ; (try k_sweep)) | (k_here; (with_reducible show wpAny _ _ (call (Value.ref 271) [Value.str _ _]) _ _ _); k_dflt (refine' Mine.c_fspath _ _ _ _ (by k_asm) (by k_asm) (by k_asm) (by k_asm) (by k_asm) (by first | exact rfl | assumption) (by ktr_room) (by ktr_units) ?_); intro v'ₘ n'ₘ h'ₘ tk'ₘ F'ₘ N'ₘ e'ₘ; obtain ⟨e1ₘ, e2ₘ⟩ := e'ₘ; subst e1ₘ; subst e2ₘ; (try k_sweep)) | ((with_reducible show wpAny _ _ (call (Value.builtin "str.split") _ _) _ _ _); (k_here; (with_reducible show wpAny _ _ (call (Value.builtin "str.split") [Value.str _ _, Value.str _ _]) _ _ _); (refine KSpl.split1 (by k_asm) (by k_asm) (by decide) ?_ (by rw [sizeLine_eq]; lia)); intro D'ₘ l'ₘ h'ₘ k'ₘ e'ₘ a'ₘ F'ₘ N'ₘ l1ₘ; (try k_lt l1ₘ))) | walk1) | (dsimp only; (first | walk1 | skip)))) | ((fail_if_success (with_reducible show wpAny _ _ _ _ _ _)); dsimp only [Mine.MyPost]) | (leave1; try dsimp only) | fail "no step"))
  refine wpAny_Try_except ?_
  (repeat' (first | (k_unfold; (try dsimp only)) | ((fail_if_success (with_reducible (refine Mine.stp 10 ?_ ?_; (focus ((repeat' constructor); done))))); (first | (k_end; wrow_close) | (first | (k_here; (with_reducible show wpAny _ _ (call (Value.ref 285) [Value.str _ _]) _ _ _); k_dflt (refine' Mine.c_getsep _ _ _ _ (by k_asm) (by k_asm) (by k_asm) (by k_asm) (by k_asm) (by first | exact rfl | assumption) (by ktr_room) (by ktr_units) ?_); intro v'ₘ n'ₘ h'ₘ tk'ₘ F'ₘ N'ₘ e'ₘ; obtain ⟨t'ₘ, e1ₘ, e2ₘ⟩ := e'ₘ; subst e1ₘ; subst e2ₘ; (try k_sweep)) | (k_here; (with_reducible show wpAny _ _ (call (Value.ref 271) [Value.str _ _]) _ _ _); k_dflt (refine' Mine.c_fspath _ _ _ _ (by k_asm) (by k_asm) (by k_asm) (by k_asm) (by k_asm) (by first | exact rfl | assumption) (by ktr_room) (by ktr_units) ?_); intro v'ₘ n'ₘ h'ₘ tk'ₘ F'ₘ N'ₘ e'ₘ; obtain ⟨e1ₘ, e2ₘ⟩ := e'ₘ; subst e1ₘ; subst e2ₘ; (try k_sweep)) | ((with_reducible show wpAny _ _ (call (Value.builtin "str.split") _ _) _ _ _); (k_here; (with_reducible show wpAny _ _ (call (Value.builtin "str.split") [Value.str _ _, Value.str _ _]) _ _ _); (refine KSpl.split1 (by k_asm) (by k_asm) (by decide) ?_ (by rw [sizeLine_eq]; lia)); intro D'ₘ l'ₘ h'ₘ k'ₘ e'ₘ a'ₘ F'ₘ N'ₘ l1ₘ; (try k_lt l1ₘ))) | walk1) | (dsimp only; (first | walk1 | skip)))) | ((fail_if_success (with_reducible show wpAny _ _ _ _ _ _)); dsimp only [Mine.MyPost]) | (leave1; try dsimp only) | fail "no step"))
  ((with_reducible rename News _ _ _ _ => Nz); (with_reducible rename Fr _ _ _ _ => Fz))
  k_dflt (refine setComp_tup (F₀ := Fz) (by with_unfolding_all rfl) (by decide) (by rfl) (by decide) (by rfl) ?_)
  (first | (k_here; (with_reducible show wpAny _ _ (call (Value.ref 285) [Value.str _ _]) _ _ _); k_dflt (refine' Mine.c_getsep _ _ _ _ (by k_asm) (by k_asm) (by k_asm) (by k_asm) (by k_asm) (by first | exact rfl | assumption) (by ktr_room) (by ktr_units) ?_); intro v'ₘ n'ₘ h'ₘ tk'ₘ F'ₘ N'ₘ e'ₘ; obtain ⟨t'ₘ, e1ₘ, e2ₘ⟩ := e'ₘ; subst e1ₘ; subst e2ₘ; (try k_sweep)) | (k_here; (with_reducible show wpAny _ _ (call (Value.ref 271) [Value.str _ _]) _ _ _); k_dflt (refine' Mine.c_fspath _ _ _ _ (by k_asm) (by k_asm) (by k_asm) (by k_asm) (by k_asm) (by first | exact rfl | assumption) (by ktr_room) (by ktr_units) ?_); intro v'ₘ n'ₘ h'ₘ tk'ₘ F'ₘ N'ₘ e'ₘ; obtain ⟨e1ₘ, e2ₘ⟩ := e'ₘ; subst e1ₘ; subst e2ₘ; (try k_sweep)) | ((with_reducible show wpAny _ _ (call (Value.builtin "str.split") _ _) _ _ _); (k_here; (with_reducible show wpAny _ _ (call (Value.builtin "str.split") [Value.str _ _, Value.str _ _]) _ _ _); (refine KSpl.split1 (by k_asm) (by k_asm) (by decide) ?_ (by rw [sizeLine_eq]; lia)); intro D'ₘ l'ₘ h'ₘ k'ₘ e'ₘ a'ₘ F'ₘ N'ₘ l1ₘ; (try k_lt l1ₘ))) | walk1)
  ((with_reducible rename News _ _ _ _ => Nz); (with_reducible rename Fr _ _ _ _ => Fz))
  refine with_news Nz fun N0' eN0' => ?_
  refine ⟨D1, #[.str x t, .str y u], 0, N0', rfl, rfl, Fz, by rw [eN0']; exact Nz, by rw [eN0']; k_mem, by (show 2 ≤ 100; decide), (by show 0 < 2; decide), ?_, ?_⟩
  · clear Fz Nz
    intro i v I oI C oC D oD m₂ h tk E' hP hC hx2 F2 N2
    rw [eN0'] at N2
    have hv : v = .str x t ∨ v = .str y u := by
      rcases i with _ | _ | i
      · exact .inl (Option.some.inj hP).symm
      · exact .inr (Option.some.inj hP).symm
      · cases hP
    rcases hv with rfl | rfl
    · (repeat' (first | (k_unfold; (try dsimp only)) | ((fail_if_success (with_reducible (refine Mine.stp 10 ?_ ?_; (focus ((repeat' constructor); done))))); (first | (k_end; wrow_close) | (first | (k_here; (with_reducible show wpAny _ _ (call (Value.ref 285) [Value.str _ _]) _ _ _); k_dflt (refine' Mine.c_getsep _ _ _ _ (by k_asm) (by k_asm) (by k_asm) (by k_asm) (by k_asm) (by first | exact rfl | assumption) (by ktr_room) (by ktr_units) ?_); intro v'ₘ n'ₘ h'ₘ tk'ₘ F'ₘ N'ₘ e'ₘ; obtain ⟨t'ₘ, e1ₘ, e2ₘ⟩ := e'ₘ; subst e1ₘ; subst e2ₘ; (try k_sweep)) | (k_here; (with_reducible show wpAny _ _ (call (Value.ref 271) [Value.str _ _]) _ _ _); k_dflt (refine' Mine.c_fspath _ _ _ _ (by k_asm) (by k_asm) (by k_asm) (by k_asm) (by k_asm) (by first | exact rfl | assumption) (by ktr_room) (by ktr_units) ?_); intro v'ₘ n'ₘ h'ₘ tk'ₘ F'ₘ N'ₘ e'ₘ; obtain ⟨e1ₘ, e2ₘ⟩ := e'ₘ; subst e1ₘ; subst e2ₘ; (try k_sweep)) | ((with_reducible show wpAny _ _ (call (Value.builtin "str.split") _ _) _ _ _); (k_here; (with_reducible show wpAny _ _ (call (Value.builtin "str.split") [Value.str _ _, Value.str _ _]) _ _ _); (refine KSpl.split1 (by k_asm) (by k_asm) (by decide) ?_ (by rw [sizeLine_eq]; lia)); intro D'ₘ l'ₘ h'ₘ k'ₘ e'ₘ a'ₘ F'ₘ N'ₘ l1ₘ; (try k_lt l1ₘ))) | walk1) | (dsimp only; (first | walk1 | skip)))) | ((fail_if_success (with_reducible show wpAny _ _ _ _ _ _)); dsimp only [Mine.MyPost]) | (leave1; try dsimp only) | fail "no step"))
      · rw [hsx]
      · assumption
      · rw [eN0']; assumption
    · (repeat' (first | (k_unfold; (try dsimp only)) | ((fail_if_success (with_reducible (refine Mine.stp 10 ?_ ?_; (focus ((repeat' constructor); done))))); (first | (k_end; wrow_close) | (first | (k_here; (with_reducible show wpAny _ _ (call (Value.ref 285) [Value.str _ _]) _ _ _); k_dflt (refine' Mine.c_getsep _ _ _ _ (by k_asm) (by k_asm) (by k_asm) (by k_asm) (by k_asm) (by first | exact rfl | assumption) (by ktr_room) (by ktr_units) ?_); intro v'ₘ n'ₘ h'ₘ tk'ₘ F'ₘ N'ₘ e'ₘ; obtain ⟨t'ₘ, e1ₘ, e2ₘ⟩ := e'ₘ; subst e1ₘ; subst e2ₘ; (try k_sweep)) | (k_here; (with_reducible show wpAny _ _ (call (Value.ref 271) [Value.str _ _]) _ _ _); k_dflt (refine' Mine.c_fspath _ _ _ _ (by k_asm) (by k_asm) (by k_asm) (by k_asm) (by k_asm) (by first | exact rfl | assumption) (by ktr_room) (by ktr_units) ?_); intro v'ₘ n'ₘ h'ₘ tk'ₘ F'ₘ N'ₘ e'ₘ; obtain ⟨e1ₘ, e2ₘ⟩ := e'ₘ; subst e1ₘ; subst e2ₘ; (try k_sweep)) | ((with_reducible show wpAny _ _ (call (Value.builtin "str.split") _ _) _ _ _); (k_here; (with_reducible show wpAny _ _ (call (Value.builtin "str.split") [Value.str _ _, Value.str _ _]) _ _ _); (refine KSpl.split1 (by k_asm) (by k_asm) (by decide) ?_ (by rw [sizeLine_eq]; lia)); intro D'ₘ l'ₘ h'ₘ k'ₘ e'ₘ a'ₘ F'ₘ N'ₘ l1ₘ; (try k_lt l1ₘ))) | walk1) | (dsimp only; (first | walk1 | skip)))) | ((fail_if_success (with_reducible show wpAny _ _ _ _ _ _)); dsimp only [Mine.MyPost]) | (leave1; try dsimp only) | fail "no step"))
      · rw [hsy]
      · assumption
      · rw [eN0']; assumption
  · clear Fz Nz
    intro Ds t1 ep h tk sl1 sl2 sl3 sl4 F2 N2 o2
    rw [eN0'] at N2
    (repeat' (first | (k_unfold; (try dsimp only)) | ((fail_if_success (with_reducible (refine Mine.stp 10 ?_ ?_; (focus ((repeat' constructor); done))))); (first | (k_end; wrow_close) | (first | (k_here; (with_reducible show wpAny _ _ (call (Value.ref 285) [Value.str _ _]) _ _ _); k_dflt (refine' Mine.c_getsep _ _ _ _ (by k_asm) (by k_asm) (by k_asm) (by k_asm) (by k_asm) (by first | exact rfl | assumption) (by ktr_room) (by ktr_units) ?_); intro v'ₘ n'ₘ h'ₘ tk'ₘ F'ₘ N'ₘ e'ₘ; obtain ⟨t'ₘ, e1ₘ, e2ₘ⟩ := e'ₘ; subst e1ₘ; subst e2ₘ; (try k_sweep)) | (k_here; (with_reducible show wpAny _ _ (call (Value.ref 271) [Value.str _ _]) _ _ _); k_dflt (refine' Mine.c_fspath _ _ _ _ (by k_asm) (by k_asm) (by k_asm) (by k_asm) (by k_asm) (by first | exact rfl | assumption) (by ktr_room) (by ktr_units) ?_); intro v'ₘ n'ₘ h'ₘ tk'ₘ F'ₘ N'ₘ e'ₘ; obtain ⟨e1ₘ, e2ₘ⟩ := e'ₘ; subst e1ₘ; subst e2ₘ; (try k_sweep)) | ((with_reducible show wpAny _ _ (call (Value.builtin "str.split") _ _) _ _ _); (k_here; (with_reducible show wpAny _ _ (call (Value.builtin "str.split") [Value.str _ _, Value.str _ _]) _ _ _); (refine KSpl.split1 (by k_asm) (by k_asm) (by decide) ?_ (by rw [sizeLine_eq]; lia)); intro D'ₘ l'ₘ h'ₘ k'ₘ e'ₘ a'ₘ F'ₘ N'ₘ l1ₘ; (try k_lt l1ₘ))) | walk1) | (dsimp only; (first | walk1 | skip)))) | ((fail_if_success (with_reducible show wpAny _ _ _ _ _ _)); dsimp only [Mine.MyPost]) | (leave1; try dsimp only) | fail "no step"))
    ((with_reducible rename News _ _ _ _ => Nz); (with_reducible rename Fr _ _ _ _ => Fz))
    refine assign_set1 Fz Nz (by k_mem) rfl sl1 sl2 sl3 sl4 (by rfl) (by rfl) ?_
    clear Fz Nz sl1 sl2 sl3 sl4
    intro h3 F3 N3
    (repeat' (first | (k_unfold; (try dsimp only)) | ((fail_if_success (with_reducible (refine Mine.stp 10 ?_ ?_; (focus ((repeat' constructor); done))))); (first | (k_end; wrow_close) | (first | (k_here; (with_reducible show wpAny _ _ (call (Value.ref 285) [Value.str _ _]) _ _ _); k_dflt (refine' Mine.c_getsep _ _ _ _ (by k_asm) (by k_asm) (by k_asm) (by k_asm) (by k_asm) (by first | exact rfl | assumption) (by ktr_room) (by ktr_units) ?_); intro v'ₘ n'ₘ h'ₘ tk'ₘ F'ₘ N'ₘ e'ₘ; obtain ⟨t'ₘ, e1ₘ, e2ₘ⟩ := e'ₘ; subst e1ₘ; subst e2ₘ; (try k_sweep)) | (k_here; (with_reducible show wpAny _ _ (call (Value.ref 271) [Value.str _ _]) _ _ _); k_dflt (refine' Mine.c_fspath _ _ _ _ (by k_asm) (by k_asm) (by k_asm) (by k_asm) (by k_asm) (by first | exact rfl | assumption) (by ktr_room) (by ktr_units) ?_); intro v'ₘ n'ₘ h'ₘ tk'ₘ F'ₘ N'ₘ e'ₘ; obtain ⟨e1ₘ, e2ₘ⟩ := e'ₘ; subst e1ₘ; subst e2ₘ; (try k_sweep)) | ((with_reducible show wpAny _ _ (call (Value.builtin "str.split") _ _) _ _ _); (k_here; (with_reducible show wpAny _ _ (call (Value.builtin "str.split") [Value.str _ _, Value.str _ _]) _ _ _); (refine KSpl.split1 (by k_asm) (by k_asm) (by decide) ?_ (by rw [sizeLine_eq]; lia)); intro D'ₘ l'ₘ h'ₘ k'ₘ e'ₘ a'ₘ F'ₘ N'ₘ l1ₘ; (try k_lt l1ₘ))) | walk1) | (dsimp only; (first | walk1 | skip)))) | ((fail_if_success (with_reducible show wpAny _ _ _ _ _ _)); dsimp only [Mine.MyPost]) | (leave1; try dsimp only) | fail "no step"))
    ((with_reducible rename News _ _ _ _ => Nz); (with_reducible rename Fr _ _ _ _ => Fz))
    refine with_news Nz fun N1' eN1' => ?_
    k_dflt (refine LCg.Assign_ListComp_U (F₀ := Fz) (by rfl) (by with_unfolding_all rfl) (by with_unfolding_all rfl) (by decide) (by rfl) (by decide) (by rfl) (by rfl) (by rfl) ?_)
    (first | (k_here; (with_reducible show wpAny _ _ (call (Value.ref 285) [Value.str _ _]) _ _ _); k_dflt (refine' Mine.c_getsep _ _ _ _ (by k_asm) (by k_asm) (by k_asm) (by k_asm) (by k_asm) (by first | exact rfl | assumption) (by ktr_room) (by ktr_units) ?_); intro v'ₘ n'ₘ h'ₘ tk'ₘ F'ₘ N'ₘ e'ₘ; obtain ⟨t'ₘ, e1ₘ, e2ₘ⟩ := e'ₘ; subst e1ₘ; subst e2ₘ; (try k_sweep)) | (k_here; (with_reducible show wpAny _ _ (call (Value.ref 271) [Value.str _ _]) _ _ _); k_dflt (refine' Mine.c_fspath _ _ _ _ (by k_asm) (by k_asm) (by k_asm) (by k_asm) (by k_asm) (by first | exact rfl | assumption) (by ktr_room) (by ktr_units) ?_); intro v'ₘ n'ₘ h'ₘ tk'ₘ F'ₘ N'ₘ e'ₘ; obtain ⟨e1ₘ, e2ₘ⟩ := e'ₘ; subst e1ₘ; subst e2ₘ; (try k_sweep)) | ((with_reducible show wpAny _ _ (call (Value.builtin "str.split") _ _) _ _ _); (k_here; (with_reducible show wpAny _ _ (call (Value.builtin "str.split") [Value.str _ _, Value.str _ _]) _ _ _); (refine KSpl.split1 (by k_asm) (by k_asm) (by decide) ?_ (by rw [sizeLine_eq]; lia)); intro D'ₘ l'ₘ h'ₘ k'ₘ e'ₘ a'ₘ F'ₘ N'ₘ l1ₘ; (try k_lt l1ₘ))) | walk1)
    ((with_reducible rename News _ _ _ _ => Nz); (with_reducible rename Fr _ _ _ _ => Fz))
    refine LCg.CompSrc.ledger rfl Fz (news := N1') (by rw [eN1']; exact Nz) (by rw [eN1']; k_mem) (by show 2 ≤ sizeLine; rw [sizeLine_eq]; decide) (fun g => ?_)
    clear Fz Nz
    show LCg.CompRest _ _ _ _ _ _ _ _ _ _ _ { heap := g, gens := s.gens, drawn := s.drawn, toks := _, os := s.os } _ _ _ _ _ _ _
    refine LCg.CompRest.succ fun v I oI C oC D m₂ h tk E' hP hC hx2 F2 N2 o3 ne => ?_
    show wpAny _ _ _ _ _ { heap := h, gens := s.gens, drawn := s.drawn, toks := tk, os := s.os }
    (try k_fold)
    obtain rfl : v = .ref D2 := (Option.some.inj hP).symm
    have o4 := o3
    rw [eN1'] at N2 o3
    (try simp only [LCg.Off3, and_true] at o3)
    ((with_reducible rename News _ _ _ _ => Nz); (with_reducible rename Fr _ _ _ _ => Fz))
    k_dflt (refine LCt.ListComp_T (F₀ := Fz) (by with_unfolding_all rfl) (by decide) (by rfl) (by decide) (by rfl) ?_)
    (first | (k_here; (with_reducible show wpAny _ _ (call (Value.ref 285) [Value.str _ _]) _ _ _); k_dflt (refine' Mine.c_getsep _ _ _ _ (by k_asm) (by k_asm) (by k_asm) (by k_asm) (by k_asm) (by first | exact rfl | assumption) (by ktr_room) (by ktr_units) ?_); intro v'ₘ n'ₘ h'ₘ tk'ₘ F'ₘ N'ₘ e'ₘ; obtain ⟨t'ₘ, e1ₘ, e2ₘ⟩ := e'ₘ; subst e1ₘ; subst e2ₘ; (try k_sweep)) | (k_here; (with_reducible show wpAny _ _ (call (Value.ref 271) [Value.str _ _]) _ _ _); k_dflt (refine' Mine.c_fspath _ _ _ _ (by k_asm) (by k_asm) (by k_asm) (by k_asm) (by k_asm) (by first | exact rfl | assumption) (by ktr_room) (by ktr_units) ?_); intro v'ₘ n'ₘ h'ₘ tk'ₘ F'ₘ N'ₘ e'ₘ; obtain ⟨e1ₘ, e2ₘ⟩ := e'ₘ; subst e1ₘ; subst e2ₘ; (try k_sweep)) | ((with_reducible show wpAny _ _ (call (Value.builtin "str.split") _ _) _ _ _); (k_here; (with_reducible show wpAny _ _ (call (Value.builtin "str.split") [Value.str _ _, Value.str _ _]) _ _ _); (refine KSpl.split1 (by k_asm) (by k_asm) (by decide) ?_ (by rw [sizeLine_eq]; lia)); intro D'ₘ l'ₘ h'ₘ k'ₘ e'ₘ a'ₘ F'ₘ N'ₘ l1ₘ; (try k_lt l1ₘ))) | walk1)
    refine with_news Nz fun N2' eN2' => ?_
    refine LCt.CompSrcT.ledger rfl Fz (news := N2') (by rw [eN2']; exact Nz) (by rw [eN2']; k_mem) (by have := congrArg List.length hs1; rw [sizeLine_eq]; simp [← (Strs.of_vals l2).len] at this ⊢; lia) (fun g => ?_)
    clear Fz Nz
    refine compRestT_of (strValues l2).toArray.size (fun i ys news => news = N2' ∧ Strs ys (((l2.map (·.1)).take i).filter goodC)) ?_ ?_ _ 0 [] _ (Nat.zero_add _) ⟨rfl, .nil⟩
    · intro i ys news hi hJ23 v Ii oIi Ci oCi Di m₂i h tk E' hP2 hC2 hx22 F2 N2 off ne2
      (refine (let Gk : Prop := _; (?_ : Gk)))
      obtain ⟨rfl, hys⟩ := hJ23
      obtain ⟨c, tc, rfl, hc⟩ := (Strs.of_vals l2).at (by simpa using hP2)
      have off' := off
      rw [eN2'] at N2 off
      (try simp only [LCg.Off3, and_true] at off)
      ((show Gk); k_unfold; clear Gk)
      show wpAny _ _ _ _ _ { heap := h, gens := s.gens, drawn := s.drawn, toks := tk, os := s.os }
      (try k_fold)
      (repeat' (first | (k_unfold; (try dsimp only)) | ((fail_if_success (with_reducible (refine Mine.stp 10 ?_ ?_; (focus ((repeat' constructor); done))))); (first | (k_end; wrow_close) | (first | (k_here; (with_reducible show wpAny _ _ (call (Value.ref 285) [Value.str _ _]) _ _ _); k_dflt (refine' Mine.c_getsep _ _ _ _ (by k_asm) (by k_asm) (by k_asm) (by k_asm) (by k_asm) (by first | exact rfl | assumption) (by ktr_room) (by ktr_units) ?_); intro v'ₘ n'ₘ h'ₘ tk'ₘ F'ₘ N'ₘ e'ₘ; obtain ⟨t'ₘ, e1ₘ, e2ₘ⟩ := e'ₘ; subst e1ₘ; subst e2ₘ; (try k_sweep)) | (k_here; (with_reducible show wpAny _ _ (call (Value.ref 271) [Value.str _ _]) _ _ _); k_dflt (refine' Mine.c_fspath _ _ _ _ (by k_asm) (by k_asm) (by k_asm) (by k_asm) (by k_asm) (by first | exact rfl | assumption) (by ktr_room) (by ktr_units) ?_); intro v'ₘ n'ₘ h'ₘ tk'ₘ F'ₘ N'ₘ e'ₘ; obtain ⟨e1ₘ, e2ₘ⟩ := e'ₘ; subst e1ₘ; subst e2ₘ; (try k_sweep)) | ((with_reducible show wpAny _ _ (call (Value.builtin "str.split") _ _) _ _ _); (k_here; (with_reducible show wpAny _ _ (call (Value.builtin "str.split") [Value.str _ _, Value.str _ _]) _ _ _); (refine KSpl.split1 (by k_asm) (by k_asm) (by decide) ?_ (by rw [sizeLine_eq]; lia)); intro D'ₘ l'ₘ h'ₘ k'ₘ e'ₘ a'ₘ F'ₘ N'ₘ l1ₘ; (try k_lt l1ₘ))) | walk1) | (dsimp only; (first | walk1 | skip)))) | ((fail_if_success (with_reducible show wpAny _ _ _ _ _ _)); dsimp only [Mine.MyPost]) | (leave1; try dsimp only) | fail "no step"))
      refine KXt.truthy rfl (Nat.le_trans (hcx c (by rw [← hs1]; exact List.mem_of_getElem? hc)) (by decide)) ?_
      intro k9
      cases hb : ((c.length : Int) != 0)
      · (first | (k_here; (with_reducible show wpAny _ _ (call (Value.ref 285) [Value.str _ _]) _ _ _); k_dflt (refine' Mine.c_getsep _ _ _ _ (by k_asm) (by k_asm) (by k_asm) (by k_asm) (by k_asm) (by first | exact rfl | assumption) (by ktr_room) (by ktr_units) ?_); intro v'ₘ n'ₘ h'ₘ tk'ₘ F'ₘ N'ₘ e'ₘ; obtain ⟨t'ₘ, e1ₘ, e2ₘ⟩ := e'ₘ; subst e1ₘ; subst e2ₘ; (try k_sweep)) | (k_here; (with_reducible show wpAny _ _ (call (Value.ref 271) [Value.str _ _]) _ _ _); k_dflt (refine' Mine.c_fspath _ _ _ _ (by k_asm) (by k_asm) (by k_asm) (by k_asm) (by k_asm) (by first | exact rfl | assumption) (by ktr_room) (by ktr_units) ?_); intro v'ₘ n'ₘ h'ₘ tk'ₘ F'ₘ N'ₘ e'ₘ; obtain ⟨e1ₘ, e2ₘ⟩ := e'ₘ; subst e1ₘ; subst e2ₘ; (try k_sweep)) | ((with_reducible show wpAny _ _ (call (Value.builtin "str.split") _ _) _ _ _); (k_here; (with_reducible show wpAny _ _ (call (Value.builtin "str.split") [Value.str _ _, Value.str _ _]) _ _ _); (refine KSpl.split1 (by k_asm) (by k_asm) (by decide) ?_ (by rw [sizeLine_eq]; lia)); intro D'ₘ l'ₘ h'ₘ k'ₘ e'ₘ a'ₘ F'ₘ N'ₘ l1ₘ; (try k_lt l1ₘ))) | walk1)
        (first | (k_here; (with_reducible show wpAny _ _ (call (Value.ref 285) [Value.str _ _]) _ _ _); k_dflt (refine' Mine.c_getsep _ _ _ _ (by k_asm) (by k_asm) (by k_asm) (by k_asm) (by k_asm) (by first | exact rfl | assumption) (by ktr_room) (by ktr_units) ?_); intro v'ₘ n'ₘ h'ₘ tk'ₘ F'ₘ N'ₘ e'ₘ; obtain ⟨t'ₘ, e1ₘ, e2ₘ⟩ := e'ₘ; subst e1ₘ; subst e2ₘ; (try k_sweep)) | (k_here; (with_reducible show wpAny _ _ (call (Value.ref 271) [Value.str _ _]) _ _ _); k_dflt (refine' Mine.c_fspath _ _ _ _ (by k_asm) (by k_asm) (by k_asm) (by k_asm) (by k_asm) (by first | exact rfl | assumption) (by ktr_room) (by ktr_units) ?_); intro v'ₘ n'ₘ h'ₘ tk'ₘ F'ₘ N'ₘ e'ₘ; obtain ⟨e1ₘ, e2ₘ⟩ := e'ₘ; subst e1ₘ; subst e2ₘ; (try k_sweep)) | ((with_reducible show wpAny _ _ (call (Value.builtin "str.split") _ _) _ _ _); (k_here; (with_reducible show wpAny _ _ (call (Value.builtin "str.split") [Value.str _ _, Value.str _ _]) _ _ _); (refine KSpl.split1 (by k_asm) (by k_asm) (by decide) ?_ (by rw [sizeLine_eq]; lia)); intro D'ₘ l'ₘ h'ₘ k'ₘ e'ₘ a'ₘ F'ₘ N'ₘ l1ₘ; (try k_lt l1ₘ))) | walk1)
        ((with_reducible rename News _ _ _ _ => Nz); (with_reducible rename Fr _ _ _ _ => Fz))
        refine ⟨_, _, _, rfl, Fz, by rw [eN2'] ; exact Nz, off', .inr ⟨_, by rw [eN2']; k_mem, rfl, _, rfl⟩, rfl, ?_⟩
        rw [List.take_add_one, hc, List.filter_append]
        have hg : goodC c = false := by unfold goodC; rw [show (c.length != 0) = false by simpa using hb]; rfl
        simpa [hg] using hys
      · iterate 7 (first | (k_here; (with_reducible show wpAny _ _ (call (Value.ref 285) [Value.str _ _]) _ _ _); k_dflt (refine' Mine.c_getsep _ _ _ _ (by k_asm) (by k_asm) (by k_asm) (by k_asm) (by k_asm) (by first | exact rfl | assumption) (by ktr_room) (by ktr_units) ?_); intro v'ₘ n'ₘ h'ₘ tk'ₘ F'ₘ N'ₘ e'ₘ; obtain ⟨t'ₘ, e1ₘ, e2ₘ⟩ := e'ₘ; subst e1ₘ; subst e2ₘ; (try k_sweep)) | (k_here; (with_reducible show wpAny _ _ (call (Value.ref 271) [Value.str _ _]) _ _ _); k_dflt (refine' Mine.c_fspath _ _ _ _ (by k_asm) (by k_asm) (by k_asm) (by k_asm) (by k_asm) (by first | exact rfl | assumption) (by ktr_room) (by ktr_units) ?_); intro v'ₘ n'ₘ h'ₘ tk'ₘ F'ₘ N'ₘ e'ₘ; obtain ⟨e1ₘ, e2ₘ⟩ := e'ₘ; subst e1ₘ; subst e2ₘ; (try k_sweep)) | ((with_reducible show wpAny _ _ (call (Value.builtin "str.split") _ _) _ _ _); (k_here; (with_reducible show wpAny _ _ (call (Value.builtin "str.split") [Value.str _ _, Value.str _ _]) _ _ _); (refine KSpl.split1 (by k_asm) (by k_asm) (by decide) ?_ (by rw [sizeLine_eq]; lia)); intro D'ₘ l'ₘ h'ₘ k'ₘ e'ₘ a'ₘ F'ₘ N'ₘ l1ₘ; (try k_lt l1ₘ))) | walk1)
        cases hb2 : (c != ".")
        · rw [if_neg Bool.false_ne_true]
          ((with_reducible rename News _ _ _ _ => Nz); (with_reducible rename Fr _ _ _ _ => Fz))
          refine ⟨_, _, _, rfl, Fz, by rw [eN2'] ; exact Nz, off', .inr ⟨_, by rw [eN2']; k_mem, rfl, _, rfl⟩, rfl, ?_⟩
          rw [List.take_add_one, hc, List.filter_append]
          have hg : goodC c = false := by unfold goodC; rw [hb2, Bool.and_false]
          simpa [hg] using hys
        · rw [if_pos rfl]
          iterate 3 (first | (k_here; (with_reducible show wpAny _ _ (call (Value.ref 285) [Value.str _ _]) _ _ _); k_dflt (refine' Mine.c_getsep _ _ _ _ (by k_asm) (by k_asm) (by k_asm) (by k_asm) (by k_asm) (by first | exact rfl | assumption) (by ktr_room) (by ktr_units) ?_); intro v'ₘ n'ₘ h'ₘ tk'ₘ F'ₘ N'ₘ e'ₘ; obtain ⟨t'ₘ, e1ₘ, e2ₘ⟩ := e'ₘ; subst e1ₘ; subst e2ₘ; (try k_sweep)) | (k_here; (with_reducible show wpAny _ _ (call (Value.ref 271) [Value.str _ _]) _ _ _); k_dflt (refine' Mine.c_fspath _ _ _ _ (by k_asm) (by k_asm) (by k_asm) (by k_asm) (by k_asm) (by first | exact rfl | assumption) (by ktr_room) (by ktr_units) ?_); intro v'ₘ n'ₘ h'ₘ tk'ₘ F'ₘ N'ₘ e'ₘ; obtain ⟨e1ₘ, e2ₘ⟩ := e'ₘ; subst e1ₘ; subst e2ₘ; (try k_sweep)) | ((with_reducible show wpAny _ _ (call (Value.builtin "str.split") _ _) _ _ _); (k_here; (with_reducible show wpAny _ _ (call (Value.builtin "str.split") [Value.str _ _, Value.str _ _]) _ _ _); (refine KSpl.split1 (by k_asm) (by k_asm) (by decide) ?_ (by rw [sizeLine_eq]; lia)); intro D'ₘ l'ₘ h'ₘ k'ₘ e'ₘ a'ₘ F'ₘ N'ₘ l1ₘ; (try k_lt l1ₘ))) | walk1)
          ((with_reducible rename News _ _ _ _ => Nz); (with_reducible rename Fr _ _ _ _ => Fz))
          refine ⟨_, _, _, rfl, Fz, by rw [eN2'] ; exact Nz, off', .inr ⟨_, by rw [eN2']; k_mem, rfl, _, rfl⟩, rfl, ?_⟩
          rw [List.take_add_one, hc, List.filter_append]
          have hg : goodC c = true := by unfold goodC; rw [hb2, show (c.length != 0) = true by simpa using hb]; rfl
          simpa [hg] using hys.snoc
    · intro ys news hJ24
      (refine (let Gk : Prop := _; (?_ : Gk)))
      obtain ⟨rfl, hys⟩ := hJ24
      have hys' : Strs ys [x3, x2, x1, x0] := by
        rw [← hdx, ← hs1]
        rwa [List.take_of_length_le (by simp [← (Strs.of_vals l2).len])] at hys
      clear hys
      ((show Gk); k_unfold; clear Gk)
      intro Dx h tk F2 N2 o3'
      have o3'' := o3'
      rw [eN2'] at N2 o3'
      (try simp only [LCg.Off1, and_true] at o3')
      refine ⟨_, _, (Dx, LCg.lst ys) :: N1', rfl, F2, news_sub N2 (by rw [eN1']; (intro pₘ hpₘ; (repeat (rcases List.mem_cons.mp hpₘ with hqₘ | hpₘ; (focus (rw [hqₘ]; k_mem)))); (repeat (first | exact hpₘ | apply List.mem_cons_of_mem)))), ⟨⟨Ne.symm o3'.1, Ne.symm o3'.2.1, Ne.symm o3'.2.2.1⟩, o4⟩, .inr ⟨_, by rw [eN1']; k_mem, rfl, _, rfl⟩, ?_⟩
      clear F2 N2 o3' o3'' o4 o3
      show LCg.CompRest _ _ _ _ _ _ _ _ _ _ _ { heap := _, gens := s.gens, drawn := s.drawn, toks := _, os := s.os } _ _ _ _ _ _ _
      refine LCg.CompRest.succ fun v I oI C oC D m₂ h tk E' hP hC hx2 F2 N2 o3 ne => ?_
      show wpAny _ _ _ _ _ { heap := h, gens := s.gens, drawn := s.drawn, toks := tk, os := s.os }
      (try k_fold)
      obtain rfl : v = .ref D3 := (Option.some.inj hP).symm
      have o5 := o3
      rw [eN1'] at N2 o3
      (try simp only [LCg.Off3, and_true] at o3)
      ((with_reducible rename News _ _ _ _ => Nz); (with_reducible rename Fr _ _ _ _ => Fz))
      k_dflt (refine LCt.ListComp_T (F₀ := Fz) (by with_unfolding_all rfl) (by decide) (by rfl) (by decide) (by rfl) ?_)
      (first | (k_here; (with_reducible show wpAny _ _ (call (Value.ref 285) [Value.str _ _]) _ _ _); k_dflt (refine' Mine.c_getsep _ _ _ _ (by k_asm) (by k_asm) (by k_asm) (by k_asm) (by k_asm) (by first | exact rfl | assumption) (by ktr_room) (by ktr_units) ?_); intro v'ₘ n'ₘ h'ₘ tk'ₘ F'ₘ N'ₘ e'ₘ; obtain ⟨t'ₘ, e1ₘ, e2ₘ⟩ := e'ₘ; subst e1ₘ; subst e2ₘ; (try k_sweep)) | (k_here; (with_reducible show wpAny _ _ (call (Value.ref 271) [Value.str _ _]) _ _ _); k_dflt (refine' Mine.c_fspath _ _ _ _ (by k_asm) (by k_asm) (by k_asm) (by k_asm) (by k_asm) (by first | exact rfl | assumption) (by ktr_room) (by ktr_units) ?_); intro v'ₘ n'ₘ h'ₘ tk'ₘ F'ₘ N'ₘ e'ₘ; obtain ⟨e1ₘ, e2ₘ⟩ := e'ₘ; subst e1ₘ; subst e2ₘ; (try k_sweep)) | ((with_reducible show wpAny _ _ (call (Value.builtin "str.split") _ _) _ _ _); (k_here; (with_reducible show wpAny _ _ (call (Value.builtin "str.split") [Value.str _ _, Value.str _ _]) _ _ _); (refine KSpl.split1 (by k_asm) (by k_asm) (by decide) ?_ (by rw [sizeLine_eq]; lia)); intro D'ₘ l'ₘ h'ₘ k'ₘ e'ₘ a'ₘ F'ₘ N'ₘ l1ₘ; (try k_lt l1ₘ))) | walk1)
      refine with_news Nz fun N3' eN3' => ?_
      refine LCt.CompSrcT.ledger rfl Fz (news := N3') (by rw [eN3']; exact Nz) (by rw [eN3']; k_mem) (by have := congrArg List.length hs2; rw [sizeLine_eq]; simp [← (Strs.of_vals l3).len] at this ⊢; lia) (fun g => ?_)
      clear Fz Nz
      refine compRestT_of (strValues l3).toArray.size (fun i ys news => news = N3' ∧ Strs ys (((l3.map (·.1)).take i).filter goodC)) ?_ ?_ _ 0 [] _ (Nat.zero_add _) ⟨rfl, .nil⟩
      · intro i ys news hi hJ25 v Ii oIi Ci oCi Di m₂i h tk E' hP2 hC2 hx22 F2 N2 off ne2
        (refine (let Gk : Prop := _; (?_ : Gk)))
        obtain ⟨rfl, hys⟩ := hJ25
        obtain ⟨c, tc, rfl, hc⟩ := (Strs.of_vals l3).at (by simpa using hP2)
        have off' := off
        rw [eN3'] at N2 off
        (try simp only [LCg.Off3, and_true] at off)
        ((show Gk); k_unfold; clear Gk)
        show wpAny _ _ _ _ _ { heap := h, gens := s.gens, drawn := s.drawn, toks := tk, os := s.os }
        (try k_fold)
        (repeat' (first | (k_unfold; (try dsimp only)) | ((fail_if_success (with_reducible (refine Mine.stp 10 ?_ ?_; (focus ((repeat' constructor); done))))); (first | (k_end; wrow_close) | (first | (k_here; (with_reducible show wpAny _ _ (call (Value.ref 285) [Value.str _ _]) _ _ _); k_dflt (refine' Mine.c_getsep _ _ _ _ (by k_asm) (by k_asm) (by k_asm) (by k_asm) (by k_asm) (by first | exact rfl | assumption) (by ktr_room) (by ktr_units) ?_); intro v'ₘ n'ₘ h'ₘ tk'ₘ F'ₘ N'ₘ e'ₘ; obtain ⟨t'ₘ, e1ₘ, e2ₘ⟩ := e'ₘ; subst e1ₘ; subst e2ₘ; (try k_sweep)) | (k_here; (with_reducible show wpAny _ _ (call (Value.ref 271) [Value.str _ _]) _ _ _); k_dflt (refine' Mine.c_fspath _ _ _ _ (by k_asm) (by k_asm) (by k_asm) (by k_asm) (by k_asm) (by first | exact rfl | assumption) (by ktr_room) (by ktr_units) ?_); intro v'ₘ n'ₘ h'ₘ tk'ₘ F'ₘ N'ₘ e'ₘ; obtain ⟨e1ₘ, e2ₘ⟩ := e'ₘ; subst e1ₘ; subst e2ₘ; (try k_sweep)) | ((with_reducible show wpAny _ _ (call (Value.builtin "str.split") _ _) _ _ _); (k_here; (with_reducible show wpAny _ _ (call (Value.builtin "str.split") [Value.str _ _, Value.str _ _]) _ _ _); (refine KSpl.split1 (by k_asm) (by k_asm) (by decide) ?_ (by rw [sizeLine_eq]; lia)); intro D'ₘ l'ₘ h'ₘ k'ₘ e'ₘ a'ₘ F'ₘ N'ₘ l1ₘ; (try k_lt l1ₘ))) | walk1) | (dsimp only; (first | walk1 | skip)))) | ((fail_if_success (with_reducible show wpAny _ _ _ _ _ _)); dsimp only [Mine.MyPost]) | (leave1; try dsimp only) | fail "no step"))
        refine KXt.truthy rfl (Nat.le_trans (hcy c (by rw [← hs2]; exact List.mem_of_getElem? hc)) (by decide)) ?_
        intro k9
        cases hb : ((c.length : Int) != 0)
        · (first | (k_here; (with_reducible show wpAny _ _ (call (Value.ref 285) [Value.str _ _]) _ _ _); k_dflt (refine' Mine.c_getsep _ _ _ _ (by k_asm) (by k_asm) (by k_asm) (by k_asm) (by k_asm) (by first | exact rfl | assumption) (by ktr_room) (by ktr_units) ?_); intro v'ₘ n'ₘ h'ₘ tk'ₘ F'ₘ N'ₘ e'ₘ; obtain ⟨t'ₘ, e1ₘ, e2ₘ⟩ := e'ₘ; subst e1ₘ; subst e2ₘ; (try k_sweep)) | (k_here; (with_reducible show wpAny _ _ (call (Value.ref 271) [Value.str _ _]) _ _ _); k_dflt (refine' Mine.c_fspath _ _ _ _ (by k_asm) (by k_asm) (by k_asm) (by k_asm) (by k_asm) (by first | exact rfl | assumption) (by ktr_room) (by ktr_units) ?_); intro v'ₘ n'ₘ h'ₘ tk'ₘ F'ₘ N'ₘ e'ₘ; obtain ⟨e1ₘ, e2ₘ⟩ := e'ₘ; subst e1ₘ; subst e2ₘ; (try k_sweep)) | ((with_reducible show wpAny _ _ (call (Value.builtin "str.split") _ _) _ _ _); (k_here; (with_reducible show wpAny _ _ (call (Value.builtin "str.split") [Value.str _ _, Value.str _ _]) _ _ _); (refine KSpl.split1 (by k_asm) (by k_asm) (by decide) ?_ (by rw [sizeLine_eq]; lia)); intro D'ₘ l'ₘ h'ₘ k'ₘ e'ₘ a'ₘ F'ₘ N'ₘ l1ₘ; (try k_lt l1ₘ))) | walk1)
          (first | (k_here; (with_reducible show wpAny _ _ (call (Value.ref 285) [Value.str _ _]) _ _ _); k_dflt (refine' Mine.c_getsep _ _ _ _ (by k_asm) (by k_asm) (by k_asm) (by k_asm) (by k_asm) (by first | exact rfl | assumption) (by ktr_room) (by ktr_units) ?_); intro v'ₘ n'ₘ h'ₘ tk'ₘ F'ₘ N'ₘ e'ₘ; obtain ⟨t'ₘ, e1ₘ, e2ₘ⟩ := e'ₘ; subst e1ₘ; subst e2ₘ; (try k_sweep)) | (k_here; (with_reducible show wpAny _ _ (call (Value.ref 271) [Value.str _ _]) _ _ _); k_dflt (refine' Mine.c_fspath _ _ _ _ (by k_asm) (by k_asm) (by k_asm) (by k_asm) (by k_asm) (by first | exact rfl | assumption) (by ktr_room) (by ktr_units) ?_); intro v'ₘ n'ₘ h'ₘ tk'ₘ F'ₘ N'ₘ e'ₘ; obtain ⟨e1ₘ, e2ₘ⟩ := e'ₘ; subst e1ₘ; subst e2ₘ; (try k_sweep)) | ((with_reducible show wpAny _ _ (call (Value.builtin "str.split") _ _) _ _ _); (k_here; (with_reducible show wpAny _ _ (call (Value.builtin "str.split") [Value.str _ _, Value.str _ _]) _ _ _); (refine KSpl.split1 (by k_asm) (by k_asm) (by decide) ?_ (by rw [sizeLine_eq]; lia)); intro D'ₘ l'ₘ h'ₘ k'ₘ e'ₘ a'ₘ F'ₘ N'ₘ l1ₘ; (try k_lt l1ₘ))) | walk1)
          ((with_reducible rename News _ _ _ _ => Nz); (with_reducible rename Fr _ _ _ _ => Fz))
          refine ⟨_, _, _, rfl, Fz, by rw [eN3'] ; exact Nz, off', .inr ⟨_, by rw [eN3']; k_mem, rfl, _, rfl⟩, rfl, ?_⟩
          rw [List.take_add_one, hc, List.filter_append]
          have hg : goodC c = false := by unfold goodC; rw [show (c.length != 0) = false by simpa using hb]; rfl
          simpa [hg] using hys
        · iterate 7 (first | (k_here; (with_reducible show wpAny _ _ (call (Value.ref 285) [Value.str _ _]) _ _ _); k_dflt (refine' Mine.c_getsep _ _ _ _ (by k_asm) (by k_asm) (by k_asm) (by k_asm) (by k_asm) (by first | exact rfl | assumption) (by ktr_room) (by ktr_units) ?_); intro v'ₘ n'ₘ h'ₘ tk'ₘ F'ₘ N'ₘ e'ₘ; obtain ⟨t'ₘ, e1ₘ, e2ₘ⟩ := e'ₘ; subst e1ₘ; subst e2ₘ; (try k_sweep)) | (k_here; (with_reducible show wpAny _ _ (call (Value.ref 271) [Value.str _ _]) _ _ _); k_dflt (refine' Mine.c_fspath _ _ _ _ (by k_asm) (by k_asm) (by k_asm) (by k_asm) (by k_asm) (by first | exact rfl | assumption) (by ktr_room) (by ktr_units) ?_); intro v'ₘ n'ₘ h'ₘ tk'ₘ F'ₘ N'ₘ e'ₘ; obtain ⟨e1ₘ, e2ₘ⟩ := e'ₘ; subst e1ₘ; subst e2ₘ; (try k_sweep)) | ((with_reducible show wpAny _ _ (call (Value.builtin "str.split") _ _) _ _ _); (k_here; (with_reducible show wpAny _ _ (call (Value.builtin "str.split") [Value.str _ _, Value.str _ _]) _ _ _); (refine KSpl.split1 (by k_asm) (by k_asm) (by decide) ?_ (by rw [sizeLine_eq]; lia)); intro D'ₘ l'ₘ h'ₘ k'ₘ e'ₘ a'ₘ F'ₘ N'ₘ l1ₘ; (try k_lt l1ₘ))) | walk1)
          cases hb2 : (c != ".")
          · rw [if_neg Bool.false_ne_true]
            ((with_reducible rename News _ _ _ _ => Nz); (with_reducible rename Fr _ _ _ _ => Fz))
            refine ⟨_, _, _, rfl, Fz, by rw [eN3'] ; exact Nz, off', .inr ⟨_, by rw [eN3']; k_mem, rfl, _, rfl⟩, rfl, ?_⟩
            rw [List.take_add_one, hc, List.filter_append]
            have hg : goodC c = false := by unfold goodC; rw [hb2, Bool.and_false]
            simpa [hg] using hys
          · rw [if_pos rfl]
            iterate 3 (first | (k_here; (with_reducible show wpAny _ _ (call (Value.ref 285) [Value.str _ _]) _ _ _); k_dflt (refine' Mine.c_getsep _ _ _ _ (by k_asm) (by k_asm) (by k_asm) (by k_asm) (by k_asm) (by first | exact rfl | assumption) (by ktr_room) (by ktr_units) ?_); intro v'ₘ n'ₘ h'ₘ tk'ₘ F'ₘ N'ₘ e'ₘ; obtain ⟨t'ₘ, e1ₘ, e2ₘ⟩ := e'ₘ; subst e1ₘ; subst e2ₘ; (try k_sweep)) | (k_here; (with_reducible show wpAny _ _ (call (Value.ref 271) [Value.str _ _]) _ _ _); k_dflt (refine' Mine.c_fspath _ _ _ _ (by k_asm) (by k_asm) (by k_asm) (by k_asm) (by k_asm) (by first | exact rfl | assumption) (by ktr_room) (by ktr_units) ?_); intro v'ₘ n'ₘ h'ₘ tk'ₘ F'ₘ N'ₘ e'ₘ; obtain ⟨e1ₘ, e2ₘ⟩ := e'ₘ; subst e1ₘ; subst e2ₘ; (try k_sweep)) | ((with_reducible show wpAny _ _ (call (Value.builtin "str.split") _ _) _ _ _); (k_here; (with_reducible show wpAny _ _ (call (Value.builtin "str.split") [Value.str _ _, Value.str _ _]) _ _ _); (refine KSpl.split1 (by k_asm) (by k_asm) (by decide) ?_ (by rw [sizeLine_eq]; lia)); intro D'ₘ l'ₘ h'ₘ k'ₘ e'ₘ a'ₘ F'ₘ N'ₘ l1ₘ; (try k_lt l1ₘ))) | walk1)
            ((with_reducible rename News _ _ _ _ => Nz); (with_reducible rename Fr _ _ _ _ => Fz))
            refine ⟨_, _, _, rfl, Fz, by rw [eN3'] ; exact Nz, off', .inr ⟨_, by rw [eN3']; k_mem, rfl, _, rfl⟩, rfl, ?_⟩
            rw [List.take_add_one, hc, List.filter_append]
            have hg : goodC c = true := by unfold goodC; rw [hb2, show (c.length != 0) = true by simpa using hb]; rfl
            simpa [hg] using hys.snoc
      · intro zs news hJ26
        (refine (let Gk : Prop := _; (?_ : Gk)))
        obtain ⟨rfl, hys⟩ := hJ26
        have hzs' : Strs zs [y3, y2, y1, y0] := by
          rw [← hdy, ← hs2]
          rwa [List.take_of_length_le (by simp [← (Strs.of_vals l3).len])] at hys
        clear hys
        ((show Gk); k_unfold; clear Gk)
        intro Dy h tk F2 N2 o3'
        have o3'' := o3'
        rw [eN3'] at N2 o3'
        (try simp only [LCg.Off1, and_true] at o3')
        refine ⟨_, _, (Dy, LCg.lst zs) :: (Dx, LCg.lst ys) :: N1', rfl, F2, news_sub N2 (by rw [eN1']; (intro pₘ hpₘ; (repeat (rcases List.mem_cons.mp hpₘ with hqₘ | hpₘ; (focus (rw [hqₘ]; k_mem)))); (repeat (first | exact hpₘ | apply List.mem_cons_of_mem)))), ⟨⟨Ne.symm o3'.1, Ne.symm o3'.2.1, Ne.symm o3'.2.2.1⟩, o5⟩, .inr ⟨_, by rw [eN1']; k_mem, rfl, _, rfl⟩, ?_⟩
        clear F2 N2 o3' o3'' o5 o3
        refine LCg.CompRest.zero ?_
        clear hC hx2 ne
        intro D5 h tk F2 N2 o6
        rw [eN1'] at N2
        show wpAny _ _ _ _ _ { heap := h, gens := s.gens, drawn := s.drawn, toks := tk, os := s.os }
        (try k_fold)
        (repeat' (first | (k_unfold; (try dsimp only)) | ((fail_if_success (with_reducible (refine Mine.stp 10 ?_ ?_; (focus ((repeat' constructor); done))))); (first | (k_end; wrow_close) | (first | (k_here; (with_reducible show wpAny _ _ (call (Value.ref 285) [Value.str _ _]) _ _ _); k_dflt (refine' Mine.c_getsep _ _ _ _ (by k_asm) (by k_asm) (by k_asm) (by k_asm) (by k_asm) (by first | exact rfl | assumption) (by ktr_room) (by ktr_units) ?_); intro v'ₘ n'ₘ h'ₘ tk'ₘ F'ₘ N'ₘ e'ₘ; obtain ⟨t'ₘ, e1ₘ, e2ₘ⟩ := e'ₘ; subst e1ₘ; subst e2ₘ; (try k_sweep)) | (k_here; (with_reducible show wpAny _ _ (call (Value.ref 271) [Value.str _ _]) _ _ _); k_dflt (refine' Mine.c_fspath _ _ _ _ (by k_asm) (by k_asm) (by k_asm) (by k_asm) (by k_asm) (by first | exact rfl | assumption) (by ktr_room) (by ktr_units) ?_); intro v'ₘ n'ₘ h'ₘ tk'ₘ F'ₘ N'ₘ e'ₘ; obtain ⟨e1ₘ, e2ₘ⟩ := e'ₘ; subst e1ₘ; subst e2ₘ; (try k_sweep)) | ((with_reducible show wpAny _ _ (call (Value.builtin "str.split") _ _) _ _ _); (k_here; (with_reducible show wpAny _ _ (call (Value.builtin "str.split") [Value.str _ _, Value.str _ _]) _ _ _); (refine KSpl.split1 (by k_asm) (by k_asm) (by decide) ?_ (by rw [sizeLine_eq]; lia)); intro D'ₘ l'ₘ h'ₘ k'ₘ e'ₘ a'ₘ F'ₘ N'ₘ l1ₘ; (try k_lt l1ₘ))) | walk1) | (dsimp only; (first | walk1 | skip)))) | ((fail_if_success (with_reducible show wpAny _ _ _ _ _ _)); dsimp only [Mine.MyPost]) | (leave1; try dsimp only) | fail "no step"))
        ((with_reducible rename News _ _ _ _ => Nz); (with_reducible rename Fr _ _ _ _ => Fz))
        refine min_two_of (u := .ref Dx) (v := .ref Dy) (k := 2) (bt := lexB ltS [y3, y2, y1, y0] [x3, x2, x1, x0]) rfl (News.get Nz (by k_mem)) (fun h tk Q' E' kk hq => lt_lists (l := Dy) (b := Dx) (items := zs.toArray) (items2 := ys.toArray) hzs' hys' rfl (kk _ _ (News.get Nz (by k_mem))) (kk _ _ (News.get Nz (by k_mem))) (by k_units) (hq _)) ?_
        intro r7 h7 tk7 hr7 kk
        have F7 := fr_keeps Fz kk
        have N7 := news_keeps Nz kk
        clear Fz Nz kk
        cases hlt : lexB ltS [y3, y2, y1, y0] [x3, x2, x1, x0]
        · rw [hlt] at hr7
          obtain rfl : r7 = .ref Dx := hr7
          (repeat' (first | (k_unfold; (try dsimp only)) | ((fail_if_success (with_reducible (refine Mine.stp 10 ?_ ?_; (focus ((repeat' constructor); done))))); (first | (k_end; wrow_close) | (first | (k_here; (with_reducible show wpAny _ _ (call (Value.ref 285) [Value.str _ _]) _ _ _); k_dflt (refine' Mine.c_getsep _ _ _ _ (by k_asm) (by k_asm) (by k_asm) (by k_asm) (by k_asm) (by first | exact rfl | assumption) (by ktr_room) (by ktr_units) ?_); intro v'ₘ n'ₘ h'ₘ tk'ₘ F'ₘ N'ₘ e'ₘ; obtain ⟨t'ₘ, e1ₘ, e2ₘ⟩ := e'ₘ; subst e1ₘ; subst e2ₘ; (try k_sweep)) | (k_here; (with_reducible show wpAny _ _ (call (Value.ref 271) [Value.str _ _]) _ _ _); k_dflt (refine' Mine.c_fspath _ _ _ _ (by k_asm) (by k_asm) (by k_asm) (by k_asm) (by k_asm) (by first | exact rfl | assumption) (by ktr_room) (by ktr_units) ?_); intro v'ₘ n'ₘ h'ₘ tk'ₘ F'ₘ N'ₘ e'ₘ; obtain ⟨e1ₘ, e2ₘ⟩ := e'ₘ; subst e1ₘ; subst e2ₘ; (try k_sweep)) | ((with_reducible show wpAny _ _ (call (Value.builtin "str.split") _ _) _ _ _); (k_here; (with_reducible show wpAny _ _ (call (Value.builtin "str.split") [Value.str _ _, Value.str _ _]) _ _ _); (refine KSpl.split1 (by k_asm) (by k_asm) (by decide) ?_ (by rw [sizeLine_eq]; lia)); intro D'ₘ l'ₘ h'ₘ k'ₘ e'ₘ a'ₘ F'ₘ N'ₘ l1ₘ; (try k_lt l1ₘ))) | walk1) | (dsimp only; (first | walk1 | skip)))) | ((fail_if_success (with_reducible show wpAny _ _ _ _ _ _)); dsimp only [Mine.MyPost]) | (leave1; try dsimp only) | fail "no step"))
          ((with_reducible rename News _ _ _ _ => Nz); (with_reducible rename Fr _ _ _ _ => Fz))
          refine max_two_of (u := .ref Dx) (v := .ref Dy) (k := 2) (bt := true) rfl (News.get Nz (by k_mem)) (fun h tk Q' E' kk hq => gt_lists (l := Dy) (b := Dx) (items := zs.toArray) (items2 := ys.toArray) hzs' hys' rfl (kk _ _ (News.get Nz (by k_mem))) (kk _ _ (News.get Nz (by k_mem))) (by k_units) (by rw [lexB_not (xs := [y3, y2, y1, y0]) (ys := [x3, x2, x1, x0]) rfl hXY, hlt]; exact hq _)) ?_
          intro r8 h8 tk8 hr8 kk
          obtain rfl : r8 = .ref Dy := hr8
          have F8 := fr_keeps Fz kk
          have N8 := news_keeps Nz kk
          clear Fz Nz kk
          (refine (let Gk : Prop := _; (?_ : Gk)))
          obtain ⟨tx3, tx2, tx1, tx0, rfl⟩ := strs4 hys'
          obtain ⟨ty3, ty2, ty1, ty0, rfl⟩ := strs4 hzs'
          clear hys' hzs' hs1 hs2 hcx hcy hnx hny hdx hdy
          ((show Gk); k_unfold; clear Gk)
          (repeat' (first | (k_unfold; (try dsimp only)) | ((fail_if_success (with_reducible (refine Mine.stp 4 ?_ ?_; (focus ((repeat' constructor); done))))); (first | (k_end; wrow_close) | (first | (k_here; (with_reducible show wpAny _ _ (call (Value.ref 285) [Value.str _ _]) _ _ _); k_dflt (refine' Mine.c_getsep _ _ _ _ (by k_asm) (by k_asm) (by k_asm) (by k_asm) (by k_asm) (by first | exact rfl | assumption) (by ktr_room) (by ktr_units) ?_); intro v'ₘ n'ₘ h'ₘ tk'ₘ F'ₘ N'ₘ e'ₘ; obtain ⟨t'ₘ, e1ₘ, e2ₘ⟩ := e'ₘ; subst e1ₘ; subst e2ₘ; (try k_sweep)) | (k_here; (with_reducible show wpAny _ _ (call (Value.ref 271) [Value.str _ _]) _ _ _); k_dflt (refine' Mine.c_fspath _ _ _ _ (by k_asm) (by k_asm) (by k_asm) (by k_asm) (by k_asm) (by first | exact rfl | assumption) (by ktr_room) (by ktr_units) ?_); intro v'ₘ n'ₘ h'ₘ tk'ₘ F'ₘ N'ₘ e'ₘ; obtain ⟨e1ₘ, e2ₘ⟩ := e'ₘ; subst e1ₘ; subst e2ₘ; (try k_sweep)) | ((with_reducible show wpAny _ _ (call (Value.builtin "str.split") _ _) _ _ _); (k_here; (with_reducible show wpAny _ _ (call (Value.builtin "str.split") [Value.str _ _, Value.str _ _]) _ _ _); (refine KSpl.split1 (by k_asm) (by k_asm) (by decide) ?_ (by rw [sizeLine_eq]; lia)); intro D'ₘ l'ₘ h'ₘ k'ₘ e'ₘ a'ₘ F'ₘ N'ₘ l1ₘ; (try k_lt l1ₘ))) | walk1) | (dsimp only; (first | walk1 | skip)))) | ((fail_if_success (with_reducible show wpAny _ _ _ _ _ _)); dsimp only [Mine.MyPost]) | (leave1; try dsimp only) | fail "no step"))
          ((with_reducible rename News _ _ _ _ => Nz); (with_reducible rename Fr _ _ _ _ => Fz))
          have N9 := news_pick10' Nz
          refine cp_tail (by assumption) (by assumption) (by assumption) (by first | exact rfl | assumption) (by k_room) (by k_units) hcx'.j1 hcx'.j2 hcx'.j3 hcx'.j4 hcx'.l3 hcx'.l2 hcx'.l1 hcx'.l0 (fr_map Fz (with_m4 (a := "common") (b := "s2") (c := "s1") (d := "isabs") rfl rfl rfl rfl)) N9 (by assumption) (by passes_own) (fun t' h' tk' m' F' => ?_)
          exact hret _ _ _ (fun b ob e => F'.keep b ob e) ⟨_, rfl⟩
        · rw [hlt] at hr7
          obtain rfl : r7 = .ref Dy := hr7
          (repeat' (first | (k_unfold; (try dsimp only)) | ((fail_if_success (with_reducible (refine Mine.stp 10 ?_ ?_; (focus ((repeat' constructor); done))))); (first | (k_end; wrow_close) | (first | (k_here; (with_reducible show wpAny _ _ (call (Value.ref 285) [Value.str _ _]) _ _ _); k_dflt (refine' Mine.c_getsep _ _ _ _ (by k_asm) (by k_asm) (by k_asm) (by k_asm) (by k_asm) (by first | exact rfl | assumption) (by ktr_room) (by ktr_units) ?_); intro v'ₘ n'ₘ h'ₘ tk'ₘ F'ₘ N'ₘ e'ₘ; obtain ⟨t'ₘ, e1ₘ, e2ₘ⟩ := e'ₘ; subst e1ₘ; subst e2ₘ; (try k_sweep)) | (k_here; (with_reducible show wpAny _ _ (call (Value.ref 271) [Value.str _ _]) _ _ _); k_dflt (refine' Mine.c_fspath _ _ _ _ (by k_asm) (by k_asm) (by k_asm) (by k_asm) (by k_asm) (by first | exact rfl | assumption) (by ktr_room) (by ktr_units) ?_); intro v'ₘ n'ₘ h'ₘ tk'ₘ F'ₘ N'ₘ e'ₘ; obtain ⟨e1ₘ, e2ₘ⟩ := e'ₘ; subst e1ₘ; subst e2ₘ; (try k_sweep)) | ((with_reducible show wpAny _ _ (call (Value.builtin "str.split") _ _) _ _ _); (k_here; (with_reducible show wpAny _ _ (call (Value.builtin "str.split") [Value.str _ _, Value.str _ _]) _ _ _); (refine KSpl.split1 (by k_asm) (by k_asm) (by decide) ?_ (by rw [sizeLine_eq]; lia)); intro D'ₘ l'ₘ h'ₘ k'ₘ e'ₘ a'ₘ F'ₘ N'ₘ l1ₘ; (try k_lt l1ₘ))) | walk1) | (dsimp only; (first | walk1 | skip)))) | ((fail_if_success (with_reducible show wpAny _ _ _ _ _ _)); dsimp only [Mine.MyPost]) | (leave1; try dsimp only) | fail "no step"))
          ((with_reducible rename News _ _ _ _ => Nz); (with_reducible rename Fr _ _ _ _ => Fz))
          refine max_two_of (u := .ref Dx) (v := .ref Dy) (k := 2) (bt := false) rfl (News.get Nz (by k_mem)) (fun h tk Q' E' kk hq => gt_lists (l := Dy) (b := Dx) (items := zs.toArray) (items2 := ys.toArray) hzs' hys' rfl (kk _ _ (News.get Nz (by k_mem))) (kk _ _ (News.get Nz (by k_mem))) (by k_units) (by rw [lexB_not (xs := [y3, y2, y1, y0]) (ys := [x3, x2, x1, x0]) rfl hXY, hlt]; exact hq _)) ?_
          intro r8 h8 tk8 hr8 kk
          obtain rfl : r8 = .ref Dx := hr8
          have F8 := fr_keeps Fz kk
          have N8 := news_keeps Nz kk
          clear Fz Nz kk
          (refine (let Gk : Prop := _; (?_ : Gk)))
          obtain ⟨tx3, tx2, tx1, tx0, rfl⟩ := strs4 hys'
          obtain ⟨ty3, ty2, ty1, ty0, rfl⟩ := strs4 hzs'
          clear hys' hzs' hs1 hs2 hcx hcy hnx hny hdx hdy
          ((show Gk); k_unfold; clear Gk)
          (repeat' (first | (k_unfold; (try dsimp only)) | ((fail_if_success (with_reducible (refine Mine.stp 4 ?_ ?_; (focus ((repeat' constructor); done))))); (first | (k_end; wrow_close) | (first | (k_here; (with_reducible show wpAny _ _ (call (Value.ref 285) [Value.str _ _]) _ _ _); k_dflt (refine' Mine.c_getsep _ _ _ _ (by k_asm) (by k_asm) (by k_asm) (by k_asm) (by k_asm) (by first | exact rfl | assumption) (by ktr_room) (by ktr_units) ?_); intro v'ₘ n'ₘ h'ₘ tk'ₘ F'ₘ N'ₘ e'ₘ; obtain ⟨t'ₘ, e1ₘ, e2ₘ⟩ := e'ₘ; subst e1ₘ; subst e2ₘ; (try k_sweep)) | (k_here; (with_reducible show wpAny _ _ (call (Value.ref 271) [Value.str _ _]) _ _ _); k_dflt (refine' Mine.c_fspath _ _ _ _ (by k_asm) (by k_asm) (by k_asm) (by k_asm) (by k_asm) (by first | exact rfl | assumption) (by ktr_room) (by ktr_units) ?_); intro v'ₘ n'ₘ h'ₘ tk'ₘ F'ₘ N'ₘ e'ₘ; obtain ⟨e1ₘ, e2ₘ⟩ := e'ₘ; subst e1ₘ; subst e2ₘ; (try k_sweep)) | ((with_reducible show wpAny _ _ (call (Value.builtin "str.split") _ _) _ _ _); (k_here; (with_reducible show wpAny _ _ (call (Value.builtin "str.split") [Value.str _ _, Value.str _ _]) _ _ _); (refine KSpl.split1 (by k_asm) (by k_asm) (by decide) ?_ (by rw [sizeLine_eq]; lia)); intro D'ₘ l'ₘ h'ₘ k'ₘ e'ₘ a'ₘ F'ₘ N'ₘ l1ₘ; (try k_lt l1ₘ))) | walk1) | (dsimp only; (first | walk1 | skip)))) | ((fail_if_success (with_reducible show wpAny _ _ _ _ _ _)); dsimp only [Mine.MyPost]) | (leave1; try dsimp only) | fail "no step"))
          ((with_reducible rename News _ _ _ _ => Nz); (with_reducible rename Fr _ _ _ _ => Fz))
          have N9 := news_pick10 Nz
          refine cp_tail (by assumption) (by assumption) (by assumption) (by first | exact rfl | assumption) (by k_room) (by k_units) hcy'.j1 hcy'.j2 hcy'.j3 hcy'.j4 hcy'.l3 hcy'.l2 hcy'.l1 hcy'.l0 (fr_map Fz (with_m4 (a := "common") (b := "s2") (c := "s1") (d := "isabs") rfl rfl rfl rfl)) N9 (by assumption) (by passes_own) (fun t' h' tk' m' F' => ?_)
          exact hret _ _ _ (fun b ob e => F'.keep b ob e) ⟨_, by rw [comPre_comm]⟩
end Mine
namespace Mine
open PySem PySem.W PySem.Calls PyProof.Rows
section
variable {prog : Program} {w : World} {A : Around} {E : Value → Shared → Prop} {s : Shared}
theorem item_at {value slice : Expr} {l : Addr} {vs : List Value} {k : Nat} {t : Tok} {v : Value} {Q : Value → Shared → Prop} (hl : s.heap.IsList l vs.toArray) (hx : vs[k]? = some v) (hk : vs.length ≤ 1000) (h : Q v s)
    (hs : subscripted slice false (.ref l) (.int (k : Nat) t) = operate [.ref l, .int (k : Nat) t] (getItem (.ref l) (.int (k : Nat) t)) := by with_unfolding_all rfl) :
    wpAny (model prog w) A (subscriptTail value slice (.ref l) (.int (k : Nat) t)) Q E s := by
  have hlt : k < vs.length := by
    rcases Nat.lt_or_ge k vs.length with q | q
    · exact q
    · rw [List.getElem?_eq_none q] at hx; cases hx
  exact tail_any hl.typeIs slot_list_getitem.lookup (wpAny_getItem_list hl (by lia) (by lia) (by simpa using hx) h) hs
theorem item_last {value slice : Expr} {l : Addr} {vs : List Value} {t : Tok} {v : Value} {Q : Value → Shared → Prop} (hl : s.heap.IsList l (vs ++ [v]).toArray) (hk : vs.length ≤ 1000) (h : Q v s)
    (hs : subscripted slice false (.ref l) (.int (-1) t) = operate [.ref l, .int (-1) t] (getItem (.ref l) (.int (-1) t)) := by with_unfolding_all rfl) :
    wpAny (model prog w) A (subscriptTail value slice (.ref l) (.int (-1) t)) Q E s := by
  refine tail_any hl.typeIs slot_list_getitem.lookup (wpAny_getItem_list_neg hl (by decide) (by simp; lia) (by decide) ?_ h) hs
  rw [show (-1 + ((vs ++ [v]).toArray.size : Int)).toNat = vs.length by simp; lia]
  simp
theorem eqGives_str {x y : Str} {t u : Tok} : MeetsSeq.EqGives (.str x t) (.str y u) (x == y) := by
  intro prog w A E Q s h
  exact eqBool_str h
theorem idx_strs {l : Addr} {vs : List Value} {xs : List Str} {n : Nat} {x : Str} {t : Tok} {Q : Value → Shared → Prop} (hl : s.heap.get? l = some { cls := .type "list", data := .seq vs.toArray n }) (hs : Strs vs xs) (hx : x ∈ xs) (hlen : xs.length ≤ 1000)
    (h : Q (.int (xs.idxOf x : Nat) s.toks) { s with toks := s.toks + 1 }) : wpAny (model prog w) A (call (.builtin "list.index") [.ref l, .str x t]) Q E s := by
  revert hl hs hx hlen h
  revert prog w A E s l vs xs n x t Q
  refine' no_implicit_lambda% (Mine.hk12 ?ne ?_)
  case ne => (repeat' (first | (refine Mine.nePair ?_ ?_) | exact Mine.neWorld | exact Mine.neAround | exact Mine.neShared | infer_instance))
  generalize Mine.A1 _ = prog; generalize Mine.A2 _ = w; generalize Mine.A3 _ = A; generalize Mine.A4 _ = E; generalize Mine.A5 _ = s; generalize Mine.A6 _ = l; generalize Mine.A7 _ = vs; generalize Mine.A8 _ = xs; generalize Mine.A9 _ = n; generalize Mine.A10 _ = x; generalize Mine.A11 _ = t; generalize Mine.A12 _ = Q
  intro uHk
  clear uHk
  intro hl hs hx hlen h
  have hlt := List.idxOf_lt_length_of_mem hx
  have hvl := hs.len
  refine call_meets PySem.F.slot_list_index ⟨_, hl, rfl⟩ PySem.F.entry_list_index (PySem.F.args_list_index_2 _ _)
    (MeetsSeq.list_index l vs.toArray n (.str x t) (fun v => match v with | .str y _ => y == x | _ => false) (fun y hy => ?_) (xs.idxOf x) (by simpa [hvl] using hlt) (by lia) ?_ (fun i hi hlt => ?_)) ⟨hl, h⟩
  · (refine (let Gk : Prop := _; (?_ : Gk)))
    obtain ⟨i, hi, e⟩ := List.getElem_of_mem (show y ∈ vs by simpa using hy)
    obtain ⟨z, tz, rfl, hz⟩ := hs.at (i := i) (v := y) (by rw [List.getElem?_eq_getElem hi, e])
    ((show Gk); k_unfold; clear Gk)
    exact eqGives_str
  · (refine (let Gk : Prop := _; (?_ : Gk)))
    obtain ⟨z, tz, e, hz⟩ := hs.at (i := xs.idxOf x) (v := vs.toArray[xs.idxOf x]'(by simpa [hvl] using hlt)) (by simp)
    ((show Gk); k_unfold; clear Gk)
    rw [e]
    have : xs[xs.idxOf x]? = some x := by rw [List.getElem?_eq_getElem hlt, List.getElem_idxOf]
    rw [this] at hz
    cases hz
    simp
  · (refine (let Gk : Prop := _; (?_ : Gk)))
    obtain ⟨z, tz, e, hz⟩ := hs.at (i := i) (v := vs.toArray[i]) (by simp)
    ((show Gk); k_unfold; clear Gk)
    rw [e]
    have hi' : i < xs.length := by lia
    have hz' : xs[i] = z := by rw [List.getElem?_eq_getElem hi'] at hz; exact Option.some.inj hz
    have := List.not_of_lt_findIdx (p := (· == x)) (xs := xs) (i := i) (by simpa [List.idxOf] using hlt)
    rw [hz'] at this
    simpa using this
end
noncomputable def dueNm (mine : Str) (turn : Nat) (way : Str) : Str := if turn % 2 = 1 then besideF mine way else Txt.lower (besideF mine way)
noncomputable def dueZ (mine : Str) (ws : List Str) (way : Str) : Str := ws.getD ((ws.map (besideF mine)).idxOf (besideF mine way)) way
noncomputable def dueStep (mine : Str) (ws : List Str) (st : List (Str × Str) × List Str) (turn : Nat) (way : Str) : List (Str × Str) × List Str :=
  if way = mine then st else (if dueZ mine ws way = way then st.1 ++ [(dueNm mine turn way, way)] else st.1, st.2 ++ [dueZ mine ws way])
noncomputable def dueAt (mine : Str) (ws : List Str) : Nat → List (Str × Str) × List Str
  | 0 => ([], [])
  | i + 1 => match ws[i]? with
    | some way => dueStep mine ws (dueAt mine ws i) i way
    | none => dueAt mine ws i
theorem with_led5o {h₀ h : Heap} {L a1 a2 a3 a4 a5 : Addr} {o1 o2 o3 o4 o5 : Obj} {P : Prop} (_ : News h₀ L h [(a1, o1), (a2, o2), (a3, o3), (a4, o4), (a5, o5)]) (k : ∀ (b1 b2 b3 b4 b5 : Addr) (p5 : Obj), b1 = a1 → b2 = a2 → b3 = a3 → b4 = a4 → b5 = a5 → p5 = o5 → P) : P := k a1 a2 a3 a4 a5 o5 rfl rfl rfl rfl rfl rfl
theorem with_hd {h₀ h : Heap} {L a1 : Addr} {k v : Str} {t u : Tok} {r : Led} {P : Prop} (_ : News h₀ L h ((a1, { cls := .type "tuple", data := .seq #[.str k t, .str v u] }) :: r)) (q : ∀ b1 : Addr, b1 = a1 → P) : P := q a1 rfl
theorem beside_len (x y : Str) : (besideF x y).length ≤ y.length := Txt.slice_le _ _ _
theorem beside_plain (x y : Str) (h : Plain y) : Plain (besideF x y) := by
  unfold besideF Txt.slice
  split
  · exact h
  · intro c hc
    (refine (let Gk : Prop := _; (?_ : Gk)))
    obtain ⟨i, _, e⟩ := List.mem_filterMap.mp (show c ∈ List.filterMap _ _ from hc)
    ((show Gk); k_unfold; clear Gk)
    exact h c (by simpa using Array.mem_of_getElem? e)
theorem dueZ_at {mine way : Str} {ws : List Str} (h : way ∈ ws) : ws[(ws.map (besideF mine)).idxOf (besideF mine way)]? = some (dueZ mine ws way) := by
  have hlt := List.idxOf_lt_length_of_mem (List.mem_map_of_mem (f := besideF mine) h)
  rw [List.length_map] at hlt
  unfold dueZ
  rw [List.getD_eq_getElem?_getD, List.getElem?_eq_getElem hlt]
  rfl
end Mine
theorem Mine.off16 : True := by w_top off; trivial
namespace Mine
open PySem PySem.W PySem.Calls PyProof.Rows
theorem c_due (w : World) (s : Shared) (mine : Str) (t : Tok) (o : Addr) (vs : List Value) (ws : List Str) (n : Nat) (ho : s.heap.get? o = some { cls := .type "list", data := .seq vs.toArray n }) (hws : Strs vs ws) (hlen : ws.length ≤ 20) (hm : mine.length ≤ 40) (hw : ∀ x ∈ ws, Plain x ∧ x.length ≤ 40) :
    RO w 20 321 [.str mine t, .ref o] [] s (fun v h' => ∃ D I T tvs n1 ovs n2, v = .ref D ∧ s.heap.get? D = none ∧ s.heap.get? I = none ∧ s.heap.get? T = none ∧
      h'.get? D = some { cls := .type "tuple", data := .seq #[.ref I, .ref T] } ∧ h'.get? I = some { cls := .type "list", data := .seq (List.toArray tvs) n1 } ∧ TabItems h' tvs (dueAt mine ws ws.length).1 ∧ h'.get? T = some { cls := .type "list", data := .seq (List.toArray ovs) n2 } ∧ Strs ovs (dueAt mine ws ws.length).2) := by
  revert ho hws hlen hm hw
  revert w s mine t o vs ws n
  refine' no_implicit_lambda% (Mine.hk8 ?ne ?_)
  case ne => (repeat' (first | (refine Mine.nePair ?_ ?_) | exact Mine.neWorld | exact Mine.neAround | exact Mine.neShared | infer_instance))
  generalize Mine.A1 _ = w; generalize Mine.A2 _ = s; generalize Mine.A3 _ = mine; generalize Mine.A4 _ = t; generalize Mine.A5 _ = o; generalize Mine.A6 _ = vs; generalize Mine.A7 _ = ws; generalize Mine.A8 _ = n
  intro uHk
  clear uHk
  intro ho hws hlen hm hw
  refine' no_implicit_lambda% (Mine.hk21 ?ne ?_)
  case ne => (repeat' (first | (refine Mine.nePair ?_ ?_) | exact Mine.neWorld | exact Mine.neAround | exact Mine.neShared | infer_instance))
  generalize Mine.A1 _ = p; generalize Mine.A2 _ = loose; generalize Mine.A3 _ = mean; generalize Mine.A4 _ = mg; generalize Mine.A5 _ = mb; generalize Mine.A6 _ = dp; generalize Mine.A7 _ = un; generalize Mine.A8 _ = gd; generalize Mine.A9 _ = cn; generalize Mine.A10 _ = cs; generalize Mine.A11 _ = a; generalize Mine.A12 _ = ccd; generalize Mine.A13 _ = cl; generalize Mine.A14 _ = outer; generalize Mine.A15 _ = A₀; generalize Mine.A16 _ = base; generalize Mine.A17 _ = h₀; generalize Mine.A18 _ = L; generalize Mine.A19 _ = m; generalize Mine.A20 _ = Q; generalize Mine.A21 _ = E
  intro uHk
  clear uHk
  intro B F X T hk hdp hun hret
  refine wpAny_call ?_
  (k_dflt (refine' Mine.enterROC ?k1ₘ ?k2ₘ ?k3ₘ ?k5ₘ ?kAₘ ?kFₘ ?kKₘ ?k6ₘ ?k7ₘ ?k8ₘ ?k9ₘ ?kBₘ ?kDₘ ?_ ?c2ₘ ?c3ₘ ?c4ₘ; (case kAₘ => exact rfl); (case kFₘ => exact rfl); (case kKₘ => assumption); (case k1ₘ => k_asm); (case k2ₘ => k_asm); (case k3ₘ => k_asm); (case k5ₘ => k_asm); (case k6ₘ => k_is); (case k7ₘ => k_is); (case k8ₘ => ktr_room); (case k9ₘ => first | exact BindsTo.of_eq rfl | exact binds_K (by k_in) rfl (by k_is) rfl rfl rfl); (case kBₘ => exact rfl); (case kDₘ => decide +kernel); (case c2ₘ => exact rfl); (case c3ₘ => exact rfl); (case c4ₘ => exact rfl); k_whole); intro L'ₘ h'ₘ tk'ₘ cells'ₘ F'ₘ N'ₘ Y'ₘ B'ₘ X'ₘ T'ₘ l1ₘ; clear l1ₘ; k_cells Y'ₘ; (try simp only [List.cons_append, List.nil_append] at N'ₘ); (try dsimp only); (try k_fold))
  (refine (let Akₘ : PySem.Around := _; (?_ : wpAny _ Akₘ _ _ _ _)))
  (repeat' (first | ((with_reducible show @ite Prop _ _ _ _); walk1) | (k_unfold; (try dsimp only)) | ((fail_if_success (with_reducible (refine Mine.stp 5 ?_ ?_; (focus ((repeat' constructor); done))))); (first | (k_end; wrow_close) | walk1 | (dsimp only; walk1))) | ((fail_if_success (with_reducible show wpAny _ _ _ _ _ _)); dsimp only [Mine.MyPost]) | (leave1; try dsimp only) | fail "no step"))
  ((with_reducible rename News _ _ _ _ => Nz); (with_reducible rename Fr _ _ _ _ => Fz))
  k_dflt (refine LCg.Assign_ListComp_U (F₀ := Fz) (by rfl) (by with_unfolding_all rfl) (by with_unfolding_all rfl) (by decide) (by rfl) (by decide) (by rfl) (by rfl) (by rfl) ?_)
  walk1
  ((with_reducible rename News _ _ _ _ => Nz); (with_reducible rename Fr _ _ _ _ => Fz))
  refine with_news Nz fun N0 eN0 => ?_
  refine LCg.CompSrc.base rfl Fz (news := N0) (by rw [eN0]; exact Nz) (its := vs.toArray) ⟨_, ho, rfl, n, rfl⟩ (by rw [sizeLine_eq]; simp [hws.len]; lia) (fun g => ?_)
  clear Fz Nz
  refine compRest_of vs.toArray.size (fun i ys news => news = N0 ∧ Strs ys ((ws.take i).map (besideF mine))) ?_ ?_ _ 0 [] _ (Nat.zero_add _) ⟨rfl, .nil⟩
  · intro i ys news hi hJ27 v I oI C oC D m₂ h tk E' hP hC hx2 F2 N2 off ne
    (refine (let Gk : Prop := _; (?_ : Gk)))
    obtain ⟨rfl, hys⟩ := hJ27
    obtain ⟨way, tw, rfl, hway⟩ := hws.at (by simpa using hP)
    have hmem : way ∈ ws := List.mem_of_getElem? hway
    have off' := off
    rw [eN0] at N2 off
    (try simp only [LCg.Off3, and_true] at off)
    ((show Gk); k_unfold; clear Gk)
    (repeat' (first | ((with_reducible show @ite Prop _ _ _ _); walk1) | (k_unfold; (try dsimp only)) | ((fail_if_success (with_reducible (refine Mine.stp 5 ?_ ?_; (focus ((repeat' constructor); done))))); (first | (k_end; wrow_close) | walk1 | (dsimp only; walk1))) | ((fail_if_success (with_reducible show wpAny _ _ _ _ _ _)); dsimp only [Mine.MyPost]) | (leave1; try dsimp only) | fail "no step"))
    ((with_reducible rename News _ _ _ _ => Nz); (with_reducible rename Fr _ _ _ _ => Fz); (k_dflt (refine' Mine.RO_use (c_beside w _ mine way _ _ hm (hw _ hmem).2) ?k1ₘ ?k2ₘ ?k3ₘ ?k5ₘ ?k6ₘ ?k7ₘ ?k8ₘ ?kNₘ ?_; (case k1ₘ => k_asm); (case k2ₘ => k_asm); (case k3ₘ => k_asm); (case k5ₘ => k_asm); (case k6ₘ => first | exact rfl | assumption); (case k7ₘ => ktr_room); (case k8ₘ => ktr_units); (case kNₘ => k_asm); k_whole)); intro v9 h9 tk9 F9 N9 k9 e9; clear Fz Nz)
    obtain ⟨t5, rfl⟩ := e9
    clear k9
    refine ⟨_, _, _, rfl, F9, by rw [eN0]; exact N9, off', .inl ⟨_, ho, rfl, n, rfl⟩, rfl, ?_⟩
    rw [List.take_add_one, hway, List.map_append]
    exact hys.snoc
  · intro ys news hJ28
    (refine (let Gk : Prop := _; (?_ : Gk)))
    obtain ⟨rfl, hys⟩ := hJ28
    have hys' : Strs ys (ws.map (besideF mine)) := by
      rwa [List.take_of_length_le (by simp [hws.len])] at hys
    clear hys
    ((show Gk); k_unfold; clear Gk)
    intro D h tk F2 N2 o1
    rw [eN0] at N2 o1
    show wpAny _ _ _ _ _ { heap := _, gens := s.gens, drawn := s.drawn, toks := _, os := s.os }
    (try k_fold)
    (repeat' (first | ((with_reducible show @ite Prop _ _ _ _); walk1) | (k_unfold; (try dsimp only)) | ((fail_if_success (with_reducible (refine Mine.stp 5 ?_ ?_; (focus ((repeat' constructor); done))))); (first | (k_end; wrow_close) | walk1 | (dsimp only; walk1))) | ((fail_if_success (with_reducible show wpAny _ _ _ _ _ _)); dsimp only [Mine.MyPost]) | (leave1; try dsimp only) | fail "no step"))
    show wpAny _ _ _ _ _ { heap := _, gens := s.gens, drawn := s.drawn, toks := _, os := s.os }
    (try k_fold)
    ((with_reducible rename News _ _ _ _ => Nz); (with_reducible rename Fr _ _ _ _ => Fz))
    refine with_led5o Nz fun D0 T0 I0 F0 c0 oc e1 e2 e3 e4 e5 e6 => ?_
    subst e1 e2 e3 e4 e6
    have hoff : (I0 ≠ T0 ∧ F0 ≠ T0 ∧ c0 ≠ T0) ∧ (F0 ≠ I0 ∧ c0 ≠ I0) := by
      rename (@LT.lt Nat _ I0 T0 ∧ _) => q1
      rename (@LT.lt Nat _ F0 I0 ∧ _) => q2
      rw [e5]
      exact ⟨⟨Nat.ne_of_lt q1.1, Nat.ne_of_lt q1.2.1, Nat.ne_of_lt q1.2.2⟩, Nat.ne_of_lt q2.1, Nat.ne_of_lt q2.2⟩
    have N2' := news_tail Nz
    clear Nz
    walk1
    (refine PySem.wpAny_For ?_ (by first | (intro _; rfl) | (intro xₘ; rfl)))
    (repeat' (first | ((with_reducible show @ite Prop _ _ _ _); walk1) | (k_unfold; (try dsimp only)) | ((fail_if_success (with_reducible (refine Mine.stp 5 ?_ ?_; (focus ((repeat' constructor); done))))); (first | (k_end; wrow_close) | walk1 | (dsimp only; walk1))) | ((fail_if_success (with_reducible show wpAny _ _ _ _ _ _)); dsimp only [Mine.MyPost]) | (leave1; try dsimp only) | fail "no step"))
    refine enum_make Fz N2' ho ?_
    intro h1 e it he hit hei he0 hi0 heL hiL hnew F3 N3
    clear Fz N2'
    (repeat' (first | ((with_reducible show @ite Prop _ _ _ _); walk1) | (k_unfold; (try dsimp only)) | ((fail_if_success (with_reducible (refine Mine.stp 5 ?_ ?_; (focus ((repeat' constructor); done))))); (first | (k_end; wrow_close) | walk1 | (dsimp only; walk1))) | ((fail_if_success (with_reducible show wpAny _ _ _ _ _ _)); dsimp only [Mine.MyPost]) | (leave1; try dsimp only) | fail "no step"))
    refine (let m1 : PySem.Str → Option Value := _; (fun (F3 : Fr _ _ _ m1) => (?_ : _)) F3)
    have em : m1 = m1 := rfl
    have et : m1 "folders" = some (.ref F0) := (congrFun em _).trans (by rfl)
    refine iter_enum (fun i m news => (∃ u1 u2 u3, m = fun (y : Str) => if y = "turn" then u1 else if y = "way" then u2 else if y = "folder" then u3 else m1 y) ∧
      ∃ ovs n1 tvs n2 tups, news = (T0, { cls := .type "list", data := .seq (List.toArray ovs) n1 }) :: (I0, { cls := .type "list", data := .seq (List.toArray tvs) n2 }) :: (F0, LCg.lst ys) :: (c0, oc) :: tups ∧
        Strs ovs (dueAt mine ws i).2 ∧ TabLed tups tvs (dueAt mine ws i).1 ∧ (∀ p ∈ tups, p.2.cls = .type "tuple") ∧ tvs.length ≤ i ∧ ovs.length ≤ i)
      rfl ⟨_, ho, rfl, n, rfl⟩ he hit hei he0 hi0 heL hiL hnew F3 N3 ?_ ?_ ?_
    · refine ⟨⟨_, _, _, em.symm.trans (with_m3 rfl rfl rfl)⟩, [], _, [], _, [], by rw [e5], .nil, .nil, (fun _ h => nomatch h), Nat.zero_le _, Nat.zero_le _⟩
    · intro i v m₂ news₂ h2 tk2 oe oi T' t2 hv hJ29 hnI F2 N2
      (refine (let Gk : Prop := _; (?_ : Gk)))
      obtain ⟨⟨u1, u2, u3, rfl⟩, ovs, n1, tvs, n2, tups, rfl, hO, hTT, hcls, hl1, hl2⟩ := hJ29
      obtain ⟨way, tw, rfl, hway⟩ := hws.at hv
      have hi : i < ws.length := hws.get_len hv
      have hmem : way ∈ ws := List.mem_of_getElem? hway
      obtain ⟨hwp, hw40⟩ := hw _ hmem
      have hstep : dueAt mine ws (i + 1) = dueStep mine ws (dueAt mine ws i) i way := by rw [dueAt, hway]
      clear F3 N3 he hit et
      clear em
      rw [e5] at N2
      try dsimp only [envOf] at F2 N2
      ((show Gk); k_unfold; clear Gk)
      (show wpAny _ _ _ _ _ _)
      k_fold
      iterate 18 walk1
      · rename (way != mine) = true => hne
        have hne' : way ≠ mine := by simpa using hne
        (refine (let Gk : Prop := _; (?_ : Gk)))
        obtain ⟨⟨b1, b2, b3⟩, b4, b5⟩ := hoff
        obtain ⟨fo, hfo⟩ : ∃ f, f = besideF mine way := ⟨_, rfl⟩
        obtain ⟨zz, hzz⟩ : ∃ z, z = dueZ mine ws way := ⟨_, rfl⟩
        have hfl : fo.length ≤ 40 ∧ Plain fo := by rw [hfo]; exact ⟨Nat.le_trans (beside_len _ _) hw40, beside_plain _ _ hwp⟩
        obtain ⟨tf, hyf⟩ := hys'.at' (i := i) (x := fo) (by rw [List.getElem?_map, hway, hfo]; rfl)
        ((show Gk); k_unfold; clear Gk)
        (repeat' (first | ((with_reducible show @ite Prop _ _ _ _); walk1) | (k_unfold; (try dsimp only)) | ((fail_if_success (with_reducible (refine Mine.stp 6 ?_ ?_; (focus ((repeat' constructor); done))))); (first | (k_end; wrow_close) | walk1 | (dsimp only; walk1))) | ((fail_if_success (with_reducible show wpAny _ _ _ _ _ _)); dsimp only [Mine.MyPost]) | (leave1; try dsimp only) | fail "no step"))
        ((with_reducible rename News _ _ _ _ => Nz); (with_reducible rename Fr _ _ _ _ => Fz))
        refine item_at (vs := ys) (isList_led Nz (by k_mem)) hyf (by rw [hys'.len]; simp; lia) ?_
        (repeat' (first | ((with_reducible show @ite Prop _ _ _ _); walk1) | (k_unfold; (try dsimp only)) | ((fail_if_success (with_reducible (refine Mine.stp 6 ?_ ?_; (focus ((repeat' constructor); done))))); (first | (k_end; wrow_close) | walk1 | (dsimp only; walk1))) | ((fail_if_success (with_reducible show wpAny _ _ _ _ _ _)); dsimp only [Mine.MyPost]) | (leave1; try dsimp only) | fail "no step"))
        ((with_reducible rename News _ _ _ _ => Nz); (with_reducible rename Fr _ _ _ _ => Fz))
        refine idx_strs (News.get Nz (by k_mem)) hys' (by rw [hfo]; exact List.mem_map_of_mem hmem) (by simp; lia) ?_
        (repeat' (first | ((with_reducible show @ite Prop _ _ _ _); walk1) | (k_unfold; (try dsimp only)) | ((fail_if_success (with_reducible (refine Mine.stp 6 ?_ ?_; (focus ((repeat' constructor); done))))); (first | (k_end; wrow_close) | walk1 | (dsimp only; walk1))) | ((fail_if_success (with_reducible show wpAny _ _ _ _ _ _)); dsimp only [Mine.MyPost]) | (leave1; try dsimp only) | fail "no step"))
        show wpAny _ _ _ _ _ { heap := _, gens := s.gens, drawn := s.drawn, toks := _, os := s.os }
        (try k_fold)
        ((with_reducible rename News _ _ _ _ => Nz); (with_reducible rename Fr _ _ _ _ => Fz))
        have hz0 := dueZ_at (mine := mine) hmem
        rw [← hfo, ← hzz] at hz0
        obtain ⟨tz, hz⟩ := hws.at' hz0
        refine item_at (vs := vs) ⟨_, Fz.keep _ _ ho, rfl, n, rfl⟩ hz (by rw [hws.len]; lia) ?_
        have hwz : zz.length ≤ 40 := (hw _ (List.mem_of_getElem? hz0)).2
        (repeat' (first | ((with_reducible show @ite Prop _ _ _ _); walk1) | (k_unfold; (try dsimp only)) | ((fail_if_success (with_reducible (refine Mine.stp 6 ?_ ?_; (focus ((repeat' constructor); done))))); (first | (k_end; wrow_close) | walk1 | (dsimp only; walk1))) | ((fail_if_success (with_reducible show wpAny _ _ _ _ _ _)); dsimp only [Mine.MyPost]) | (leave1; try dsimp only) | fail "no step"))
        ((with_reducible rename News _ _ _ _ => Nz); (with_reducible rename Fr _ _ _ _ => Fz))
        rw [← e5] at Nz
        have a2 : e ≠ T0 := Ne.symm (hnI _ (.head _)).1
        have a3 : it ≠ T0 := Ne.symm (hnI _ (.head _)).2
        have a4 : e ≠ I0 := Ne.symm (hnI _ (.tail _ (.head _))).1
        have a5 : it ≠ I0 := Ne.symm (hnI _ (.tail _ (.head _))).2
        have a6 : ∀ p ∈ tups, p.1 ≠ T0 := fun p hp => off_cls Nz (by revert p hp; (intro pₘ hpₘ; repeat (first | exact hpₘ | apply List.mem_cons_of_mem))) (b := T0) (o := { cls := .type "list", data := .seq (List.toArray ovs) n1 }) (by k_mem) (by rw [hcls p hp]; show Value.type "tuple" ≠ Value.type "list"; decide)
        have a7 : ∀ p ∈ tups, p.1 ≠ I0 := fun p hp => off_cls Nz (by revert p hp; (intro pₘ hpₘ; repeat (first | exact hpₘ | apply List.mem_cons_of_mem))) (b := I0) (o := { cls := .type "list", data := .seq (List.toArray tvs) n2 }) (by k_mem) (by rw [hcls p hp]; show Value.type "tuple" ≠ Value.type "list"; decide)
        have Ny := news_sub (news' := (T0, { cls := .type "list", data := .seq (List.toArray ovs) n1 }) :: (I0, { cls := .type "list", data := .seq (List.toArray tvs) n2 }) :: (F0, LCg.lst ys) :: (e, oe) :: (it, oi) :: (c0, oc) :: tups) Nz (by (intro pₘ hpₘ; (repeat (rcases List.mem_cons.mp hpₘ with hqₘ | hpₘ; (focus (rw [hqₘ]; k_mem)))); (repeat (first | exact hpₘ | apply List.mem_cons_of_mem))))
        refine append_headL Fz Ny (by (intro pₘ hpₘ; (repeat (rcases List.mem_cons.mp hpₘ with hqₘ | hpₘ; (focus (rw [hqₘ]; assumption)))); (first | (apply_assumption; exact hpₘ) | (exact absurd hpₘ (List.not_mem_nil))))) (by lia) (fun h11 F11 N11 => ?_)
        clear Fz Nz Ny
        try dsimp only
        (repeat' (first | ((with_reducible show @ite Prop _ _ _ _); walk1) | (k_unfold; (try dsimp only)) | ((fail_if_success (with_reducible (refine Mine.stp 6 ?_ ?_; (focus ((repeat' constructor); done))))); (first | (k_end; wrow_close) | walk1 | (dsimp only; walk1))) | ((fail_if_success (with_reducible show wpAny _ _ _ _ _ _)); dsimp only [Mine.MyPost]) | (leave1; try dsimp only) | fail "no step"))
        show wpAny _ _ _ _ _ { heap := _, gens := s.gens, drawn := s.drawn, toks := _, os := s.os }
        (try k_fold)
        ((with_reducible rename News _ _ _ _ => Nz); (with_reducible rename Fr _ _ _ _ => Fz))
        refine item_last (vs := ovs) (isList_led Nz (by k_mem)) (by lia) ?_
        try dsimp only
        (repeat' (first | ((with_reducible show @ite Prop _ _ _ _); walk1) | (k_unfold; (try dsimp only)) | ((fail_if_success (with_reducible (refine Mine.stp 6 ?_ ?_; (focus ((repeat' constructor); done))))); (first | (k_end; wrow_close) | walk1 | (dsimp only; walk1))) | ((fail_if_success (with_reducible show wpAny _ _ _ _ _ _)); dsimp only [Mine.MyPost]) | (leave1; try dsimp only) | fail "no step"))
        · ((with_reducible rename News _ _ _ _ => Nz); (with_reducible rename Fr _ _ _ _ => Fz))
          rename @LT.lt Nat _ T0 _ ∧ _ => q1
          refine with_hd Nz fun Dn eDn => ?_
          subst eDn
          have c1 : Dn ≠ I0 := Nat.ne_of_gt q1.2.1
          have c2 : Dn ≠ T0 := Nat.ne_of_gt q1.1
          have c3 : Dn ≠ e := Nat.ne_of_gt q1.2.2.2.1
          have c4 : Dn ≠ it := Nat.ne_of_gt q1.2.2.2.2.1
          have b6 : T0 ≠ I0 := Ne.symm b1
          have Ny := news_sub (news' := (I0, { cls := .type "list", data := .seq (List.toArray tvs) n2 }) :: (Dn, { cls := .type "tuple", data := .seq #[.str fo _, .str way tw] }) :: (T0, { cls := .type "list", data := .seq (List.toArray (ovs ++ [.str zz tz])) (n1 + 1) }) :: (F0, LCg.lst ys) :: (e, oe) :: (it, oi) :: (c0, oc) :: tups) Nz (by (intro pₘ hpₘ; (repeat (rcases List.mem_cons.mp hpₘ with hqₘ | hpₘ; (focus (rw [hqₘ]; k_mem)))); (repeat (first | exact hpₘ | apply List.mem_cons_of_mem))))
          refine append_headL Fz Ny (by (intro pₘ hpₘ; (repeat (rcases List.mem_cons.mp hpₘ with hqₘ | hpₘ; (focus (rw [hqₘ]; assumption)))); (first | (apply_assumption; exact hpₘ) | (exact absurd hpₘ (List.not_mem_nil))))) (by lia) (fun h12 F12 N12 => ?_)
          clear Fz Nz Ny
          try dsimp only
          (repeat' (first | ((with_reducible show @ite Prop _ _ _ _); walk1) | (k_unfold; (try dsimp only)) | ((fail_if_success (with_reducible (refine Mine.stp 6 ?_ ?_; (focus ((repeat' constructor); done))))); (first | (k_end; wrow_close) | walk1 | (dsimp only; walk1))) | ((fail_if_success (with_reducible show wpAny _ _ _ _ _ _)); dsimp only [Mine.MyPost]) | (leave1; try dsimp only) | fail "no step"))
          have hst2 : dueAt mine ws (i + 1) = ((dueAt mine ws i).1 ++ [(fo, way)], (dueAt mine ws i).2 ++ [zz]) := by
            rw [hstep]
            unfold dueStep
            have ez : dueZ mine ws way = way := by rw [← hzz]; simpa using (by assumption : (zz == way) = true)
            have en : dueNm mine i way = fo := by unfold dueNm; rw [if_pos (fmod2_odd (by assumption)), hfo]
            rw [if_neg hne', if_pos ez, en, hzz]
          refine MyEnd.intro (news' := (T0, { cls := .type "list", data := .seq (List.toArray (ovs ++ [.str zz tz])) (n1 + 1) }) :: (I0, { cls := .type "list", data := .seq (List.toArray (tvs ++ [Value.ref Dn])) (n2 + 1) }) :: (F0, LCg.lst ys) :: (c0, oc) :: (Dn, { cls := .type "tuple", data := .seq #[.str fo _, .str way tw] }) :: tups) (by assumption) (by assumption)
            ⟨⟨_, _, _, by exact Mine.map3 (a := "turn") (b := "way") (c := "folder") (by (repeat (first | exact Mine.Off.refl | (refine Mine.Off.upd (by first | exact .head _ | exact .tail _ (.head _) | exact .tail _ (.tail _ (.head _)) | exact .tail _ (.tail _ (.tail _ (.head _))) | exact .tail _ (.tail _ (.tail _ (.tail _ (.head _)))) | exact .tail _ (.tail _ (.tail _ (.tail _ (.tail _ (.head _)))))) ?_))))⟩, _, _, _, _, (Dn, { cls := .type "tuple", data := .seq #[.str fo _, .str way tw] }) :: tups, rfl, ?_, ?_, ?_, by simp; lia, by simp; lia⟩ (by (intro pₘ hpₘ; rcases List.mem_cons.mp hpₘ with hqₘ | hpₘ; (focus (rw [hqₘ]; k_mem)); rw [List.mem_singleton.mp hpₘ]; k_mem)) (by (intro pₘ hpₘ; (repeat (rcases List.mem_cons.mp hpₘ with hqₘ | hpₘ; (focus (rw [hqₘ]; k_mem)))); (repeat (first | exact hpₘ | apply List.mem_cons_of_mem)))) ?_
          · rw [hst2]; exact hO.snoc
          · rw [hst2]; exact TabLed.snoc (.head _) (hTT.mono fun p hp => .tail _ hp)
          · intro p hp
            rcases List.mem_cons.mp hp with hp | hp
            · rw [hp]
            · exact hcls p hp
          · intro p hp q hq
            have hne3 : p.1 ≠ e ∧ p.1 ≠ it := by
              simp only [List.mem_cons] at hp
              rcases hp with hp | hp | hp | hp | hp | hp
              · rw [hp]; exact ⟨Ne.symm a2, Ne.symm a3⟩
              · rw [hp]; exact ⟨Ne.symm a4, Ne.symm a5⟩
              · rw [hp]; exact hnI _ (.tail _ (.tail _ (.head _)))
              · rw [hp]; exact hnI _ (.tail _ (.tail _ (.tail _ (.head _))))
              · rw [hp]; exact ⟨c3, c4⟩
              · exact hnI _ (.tail _ (.tail _ (.tail _ (.tail _ hp))))
            rcases List.mem_cons.mp hq with hq | hq
            · rw [hq]; exact hne3.1
            · rw [List.mem_singleton.mp hq]; exact hne3.2
        · ((with_reducible rename News _ _ _ _ => Nz); (with_reducible rename Fr _ _ _ _ => Fz))
          rename @LT.lt Nat _ T0 _ ∧ _ => q1
          refine with_hd Nz fun Dn eDn => ?_
          subst eDn
          have c1 : Dn ≠ I0 := Nat.ne_of_gt q1.2.1
          have c2 : Dn ≠ T0 := Nat.ne_of_gt q1.1
          have c3 : Dn ≠ e := Nat.ne_of_gt q1.2.2.2.1
          have c4 : Dn ≠ it := Nat.ne_of_gt q1.2.2.2.2.1
          have b6 : T0 ≠ I0 := Ne.symm b1
          have Ny := news_sub (news' := (I0, { cls := .type "list", data := .seq (List.toArray tvs) n2 }) :: (Dn, { cls := .type "tuple", data := .seq #[.str (Txt.lower fo) _, .str way tw] }) :: (T0, { cls := .type "list", data := .seq (List.toArray (ovs ++ [.str zz tz])) (n1 + 1) }) :: (F0, LCg.lst ys) :: (e, oe) :: (it, oi) :: (c0, oc) :: tups) Nz (by (intro pₘ hpₘ; (repeat (rcases List.mem_cons.mp hpₘ with hqₘ | hpₘ; (focus (rw [hqₘ]; k_mem)))); (repeat (first | exact hpₘ | apply List.mem_cons_of_mem))))
          refine append_headL Fz Ny (by (intro pₘ hpₘ; (repeat (rcases List.mem_cons.mp hpₘ with hqₘ | hpₘ; (focus (rw [hqₘ]; assumption)))); (first | (apply_assumption; exact hpₘ) | (exact absurd hpₘ (List.not_mem_nil))))) (by lia) (fun h12 F12 N12 => ?_)
          clear Fz Nz Ny
          try dsimp only
          (repeat' (first | ((with_reducible show @ite Prop _ _ _ _); walk1) | (k_unfold; (try dsimp only)) | ((fail_if_success (with_reducible (refine Mine.stp 6 ?_ ?_; (focus ((repeat' constructor); done))))); (first | (k_end; wrow_close) | walk1 | (dsimp only; walk1))) | ((fail_if_success (with_reducible show wpAny _ _ _ _ _ _)); dsimp only [Mine.MyPost]) | (leave1; try dsimp only) | fail "no step"))
          have hst2 : dueAt mine ws (i + 1) = ((dueAt mine ws i).1 ++ [((Txt.lower fo), way)], (dueAt mine ws i).2 ++ [zz]) := by
            rw [hstep]
            unfold dueStep
            have ez : dueZ mine ws way = way := by rw [← hzz]; simpa using (by assumption : (zz == way) = true)
            have en : dueNm mine i way = (Txt.lower fo) := by unfold dueNm; rw [if_neg (fmod2_even (by assumption)), hfo]
            rw [if_neg hne', if_pos ez, en, hzz]
          refine MyEnd.intro (news' := (T0, { cls := .type "list", data := .seq (List.toArray (ovs ++ [.str zz tz])) (n1 + 1) }) :: (I0, { cls := .type "list", data := .seq (List.toArray (tvs ++ [Value.ref Dn])) (n2 + 1) }) :: (F0, LCg.lst ys) :: (c0, oc) :: (Dn, { cls := .type "tuple", data := .seq #[.str (Txt.lower fo) _, .str way tw] }) :: tups) (by assumption) (by assumption)
            ⟨⟨_, _, _, by exact Mine.map3 (a := "turn") (b := "way") (c := "folder") (by (repeat (first | exact Mine.Off.refl | (refine Mine.Off.upd (by first | exact .head _ | exact .tail _ (.head _) | exact .tail _ (.tail _ (.head _)) | exact .tail _ (.tail _ (.tail _ (.head _))) | exact .tail _ (.tail _ (.tail _ (.tail _ (.head _)))) | exact .tail _ (.tail _ (.tail _ (.tail _ (.tail _ (.head _)))))) ?_))))⟩, _, _, _, _, (Dn, { cls := .type "tuple", data := .seq #[.str (Txt.lower fo) _, .str way tw] }) :: tups, rfl, ?_, ?_, ?_, by simp; lia, by simp; lia⟩ (by (intro pₘ hpₘ; rcases List.mem_cons.mp hpₘ with hqₘ | hpₘ; (focus (rw [hqₘ]; k_mem)); rw [List.mem_singleton.mp hpₘ]; k_mem)) (by (intro pₘ hpₘ; (repeat (rcases List.mem_cons.mp hpₘ with hqₘ | hpₘ; (focus (rw [hqₘ]; k_mem)))); (repeat (first | exact hpₘ | apply List.mem_cons_of_mem)))) ?_
          · rw [hst2]; exact hO.snoc
          · rw [hst2]; exact TabLed.snoc (.head _) (hTT.mono fun p hp => .tail _ hp)
          · intro p hp
            rcases List.mem_cons.mp hp with hp | hp
            · rw [hp]
            · exact hcls p hp
          · intro p hp q hq
            have hne3 : p.1 ≠ e ∧ p.1 ≠ it := by
              simp only [List.mem_cons] at hp
              rcases hp with hp | hp | hp | hp | hp | hp
              · rw [hp]; exact ⟨Ne.symm a2, Ne.symm a3⟩
              · rw [hp]; exact ⟨Ne.symm a4, Ne.symm a5⟩
              · rw [hp]; exact hnI _ (.tail _ (.tail _ (.head _)))
              · rw [hp]; exact hnI _ (.tail _ (.tail _ (.tail _ (.head _))))
              · rw [hp]; exact ⟨c3, c4⟩
              · exact hnI _ (.tail _ (.tail _ (.tail _ (.tail _ hp))))
            rcases List.mem_cons.mp hq with hq | hq
            · rw [hq]; exact hne3.1
            · rw [List.mem_singleton.mp hq]; exact hne3.2
        · have hst2 : dueAt mine ws (i + 1) = ((dueAt mine ws i).1, (dueAt mine ws i).2 ++ [zz]) := by
            rw [hstep]
            unfold dueStep
            have ez : dueZ mine ws way ≠ way := by rw [← hzz]; simpa using (by assumption : (zz == way) = false)
            rw [if_neg hne', if_neg ez, hzz]
          refine MyEnd.intro (news' := (T0, { cls := .type "list", data := .seq (List.toArray (ovs ++ [.str zz tz])) (n1 + 1) }) :: (I0, { cls := .type "list", data := .seq (List.toArray tvs) n2 }) :: (F0, LCg.lst ys) :: (c0, oc) :: tups) (by assumption) (by assumption)
            ⟨⟨_, _, _, by exact Mine.map3 (a := "turn") (b := "way") (c := "folder") (by (repeat (first | exact Mine.Off.refl | (refine Mine.Off.upd (by first | exact .head _ | exact .tail _ (.head _) | exact .tail _ (.tail _ (.head _)) | exact .tail _ (.tail _ (.tail _ (.head _))) | exact .tail _ (.tail _ (.tail _ (.tail _ (.head _)))) | exact .tail _ (.tail _ (.tail _ (.tail _ (.tail _ (.head _)))))) ?_))))⟩, _, _, _, _, tups, rfl, ?_, ?_, hcls, by lia, by simp; lia⟩ (by (intro pₘ hpₘ; rcases List.mem_cons.mp hpₘ with hqₘ | hpₘ; (focus (rw [hqₘ]; k_mem)); rw [List.mem_singleton.mp hpₘ]; k_mem)) (by (intro pₘ hpₘ; (repeat (rcases List.mem_cons.mp hpₘ with hqₘ | hpₘ; (focus (rw [hqₘ]; k_mem)))); (repeat (first | exact hpₘ | apply List.mem_cons_of_mem)))) ?_
          · rw [hst2]; exact hO.snoc
          · rw [hst2]; exact hTT
          · intro p hp q hq
            have hne3 : p.1 ≠ e ∧ p.1 ≠ it := by
              simp only [List.mem_cons] at hp
              rcases hp with hp | hp | hp | hp | hp
              · rw [hp]; exact ⟨Ne.symm a2, Ne.symm a3⟩
              · rw [hp]; exact ⟨Ne.symm a4, Ne.symm a5⟩
              · rw [hp]; exact hnI _ (.tail _ (.tail _ (.head _)))
              · rw [hp]; exact hnI _ (.tail _ (.tail _ (.tail _ (.head _))))
              · exact hnI _ (.tail _ (.tail _ (.tail _ (.tail _ hp))))
            rcases List.mem_cons.mp hq with hq | hq
            · rw [hq]; exact hne3.1
            · rw [List.mem_singleton.mp hq]; exact hne3.2
      · rename (way != mine) = false => hne
        (repeat' (first | ((with_reducible show @ite Prop _ _ _ _); walk1) | (k_unfold; (try dsimp only)) | ((fail_if_success (with_reducible (refine Mine.stp 6 ?_ ?_; (focus ((repeat' constructor); done))))); (first | (k_end; wrow_close) | walk1 | (dsimp only; walk1))) | ((fail_if_success (with_reducible show wpAny _ _ _ _ _ _)); dsimp only [Mine.MyPost]) | (leave1; try dsimp only) | fail "no step"))
        refine MyEnd.intro (by assumption) (by assumption) ⟨⟨_, _, _, by exact Mine.map3 (a := "turn") (b := "way") (c := "folder") (by (repeat (first | exact Mine.Off.refl | (refine Mine.Off.upd (by first | exact .head _ | exact .tail _ (.head _) | exact .tail _ (.tail _ (.head _)) | exact .tail _ (.tail _ (.tail _ (.head _))) | exact .tail _ (.tail _ (.tail _ (.tail _ (.head _)))) | exact .tail _ (.tail _ (.tail _ (.tail _ (.tail _ (.head _)))))) ?_))))⟩, ovs, _, tvs, _, tups, by rw [e5], ?_, ?_, hcls, by lia, by lia⟩ (by (intro pₘ hpₘ; rcases List.mem_cons.mp hpₘ with hqₘ | hpₘ; (focus (rw [hqₘ]; k_mem)); rw [List.mem_singleton.mp hpₘ]; k_mem)) (by (intro pₘ hpₘ; (repeat (rcases List.mem_cons.mp hpₘ with hqₘ | hpₘ; (focus (rw [hqₘ]; k_mem)))); (repeat (first | exact hpₘ | apply List.mem_cons_of_mem)))) ?_
        all_goals (first | (rw [hstep]; unfold dueStep; rw [if_pos (by simpa using hne)]; assumption) | skip)
        intro p hp q hq
        rw [← e5] at hp
        rcases List.mem_cons.mp hq with hq | hq
        · rw [hq]; exact (hnI p hp).1
        · rw [List.mem_singleton.mp hq]; exact (hnI p hp).2
    · intro m₂ news₂ h2 tk2 hJ30 F2 N2
      (refine (let Gk : Prop := _; (?_ : Gk)))
      obtain ⟨⟨u1, u2, u3, rfl⟩, ovs, n1, tvs, n2, tups, rfl, hO, hTT, hcls, hl1, hl2⟩ := hJ30
      clear F3 N3 he hit et
      clear em
      try dsimp only [envOf] at F2 N2
      ((show Gk); k_unfold; clear Gk)
      (repeat' (first | ((with_reducible show @ite Prop _ _ _ _); walk1) | (k_unfold; (try dsimp only)) | ((fail_if_success (with_reducible (refine Mine.stp 6 ?_ ?_; (focus ((repeat' constructor); done))))); (first | (k_end; wrow_close) | walk1 | (dsimp only; walk1))) | ((fail_if_success (with_reducible show wpAny _ _ _ _ _ _)); dsimp only [Mine.MyPost]) | (leave1; try dsimp only) | fail "no step"))
      ((with_reducible rename News _ _ _ _ => Nz); (with_reducible rename Fr _ _ _ _ => Fz))
      rw [hws.len] at hO hTT
      refine hret _ _ _ (fun b ob e => Fz.keep b ob e) ⟨_, I0, T0, tvs, n2, ovs, n1, rfl, (Nz _ (.head _)).2.2, (Nz _ (.tail _ (.tail _ (.head _)))).2.2, (Nz _ (.tail _ (.head _))).2.2,
        (Nz _ (.head _)).1, (Nz _ (.tail _ (.tail _ (.head _)))).1, hTT.items Nz (by (intro pₘ hpₘ; repeat (first | exact hpₘ | apply List.mem_cons_of_mem))), (Nz _ (.tail _ (.head _))).1, hO⟩
end Mine
local macro_rules | `(tactic| walk_at "execs cons") => `(tactic| ((fail_if_success (with_reducible show wpAny _ _ (execs (Stmt.For _ _ _ _ _ :: _) _) _ _ _)); (first | k_gentoks | ((with_reducible refine PySem.wpAny_execs_cons ?_); (try dsimp only); (try k_fold)))))
namespace Mine
open PySem PySem.W PySem.Calls PyProof.Rows
section
variable {prog : Program} {w : World} {A : Around} {E : Value → Shared → Prop} {s : Shared} {env : Env} {h₀ : Heap} {target : Expr} {body : List Stmt} {Q : Flow → Shared → Prop}
theorem lst_is {h : Heap} {l : Addr} {vs : List Value} {n : Nat} (e : h.get? l = some { cls := .type "list", data := .seq vs.toArray n }) : h.IsList l vs.toArray := ⟨_, e, rfl, n, rfl⟩
theorem isList_fun {h : Heap} {l : Addr} {vs us : Array Value} {n : Nat} (e : h.get? l = some { cls := .type "list", data := .seq vs n }) : h.IsList l vs := ⟨_, e, rfl, n, rfl⟩
theorem iter_listL {l : Addr} {vs : List Value} {n : Nat} {m₀ : Str → Option Value} {news : Led} (J : Nat → (Str → Option Value) → Led → Prop)
    (hh : A.handled = none) (F : Fr h₀ env.locals s.heap m₀) (N : News h₀ env.locals s.heap ((l, { cls := .type "list", data := .seq vs.toArray n }) :: news)) (hln : ∀ p ∈ news, p.1 ≠ l) (hj : J 0 m₀ news)
    (turn : ∀ i v m₁ news₁ h tk I o, vs[i]? = some v → J i m₁ news₁ → (∀ p ∈ news₁, p.1 ≠ I ∧ p.1 ≠ l) → Fr h₀ env.locals h m₁ → News h₀ env.locals h ((I, o) :: (l, { cls := .type "list", data := .seq vs.toArray n }) :: news₁) →
      wpAny (model prog w) A (assign target env v) (fun _ s₂ => wpAny (model prog w) A (execs body env) (MyPost h₀ env.locals [(I, o), (l, { cls := .type "list", data := .seq vs.toArray n })] (J (i + 1)) s Q) E s₂) E { s with heap := h, toks := tk })
    (done : ∀ m₁ news₁ h tk, J vs.length m₁ news₁ → Fr h₀ env.locals h m₁ → News h₀ env.locals h news₁ → Q .next { s with heap := h, toks := tk })
    (hE : PassesOwn (model prog w) A env E := by passes_own) :
    wpAny (model prog w) A (pyIter (.ref l)) (fun it s₂ => MyLoop prog w A env target body Q E it s₂) E s := by
  revert J hh F N hln hj turn done hE
  revert prog w A E s env h₀ target body Q l vs n m₀ news
  iterate 1 refine no_implicit_lambda% (Mine.pad1 ?_)
  refine' no_implicit_lambda% (Mine.hk16 ?ne ?_)
  case ne => (repeat' (first | (refine Mine.nePair ?_ ?_) | exact Mine.neWorld | exact Mine.neAround | exact Mine.neShared | infer_instance))
  generalize Mine.A2 _ = prog; generalize Mine.A3 _ = w; generalize Mine.A4 _ = A; generalize Mine.A5 _ = E; generalize Mine.A6 _ = s; generalize Mine.A7 _ = env; generalize Mine.A8 _ = h₀; generalize Mine.A9 _ = target; generalize Mine.A10 _ = body; generalize Mine.A11 _ = Q; generalize Mine.A12 _ = l; generalize Mine.A13 _ = vs; generalize Mine.A14 _ = n; generalize Mine.A15 _ = m₀; generalize Mine.A16 _ = news
  intro uHk
  clear uHk
  intro J hh F N hln hj turn done hE
  have hg := (N _ (.head _)).1
  have hlL := (N _ (.head _)).2.1
  have hl0 := (N _ (.head _)).2.2
  have hls : s.heap.IsList l vs.toArray := lst_is hg
  have hlt : l < s.heap.objs.size := Heap.lt_size hg
  have hne : l ≠ s.heap.objs.size := Nat.ne_of_lt hlt
  have hI : h₀.get? s.heap.objs.size = none := next_is_new F
  refine wpAny_pyIter_list hls ?_
  have W0 := Walks.list (prog := prog) (w := w) hh s.heap.objs.size l hne vs.toArray
  have W : Itr prog w A target s.heap.objs.size [s.heap.objs.size, l] [s.heap.objs.size, l] vs.length (fun i v fr => vs[i]? = some v ∧ fr = []) (fun i h => h.IsListIter s.heap.objs.size l i ∧ h.get? l = some { cls := .type "list", data := .seq vs.toArray n }) := by
    refine ⟨fun b hb => hb, fun i h h' st k => ?_, fun i s' Q' E' hi st k => ?_, fun s' Q' E' st k => ?_⟩
    · (refine (let Gk : Prop := _; (?_ : Gk)))
      obtain ⟨o, ho, hc, hd⟩ := st.1
      ((show Gk); k_unfold; clear Gk)
      exact ⟨⟨o, k _ (.head _) _ ho, hc, hd⟩, k _ (.tail _ (.head _)) _ st.2⟩
    · refine W0.item i s' _ _ (by simpa using hi) ⟨st.1, lst_is st.2⟩ fun v h' tk hP st' hk' => ?_
      have hgl : h'.get? l = some { cls := .type "list", data := .seq vs.toArray n } := hk' _ _ (by simpa using hne) st.2
      exact letGo_listiter st'.1 (k v [] h' tk ⟨by simpa using hP, rfl⟩ (fun _ hp => nomatch hp) ⟨st'.1, hgl⟩ (fun b o hb e => hk' b o (fun q => hb (by rw [List.mem_singleton.mp q]; exact .head _)) e))
    · refine W0.done s' _ _ ⟨by simpa using st.1, lst_is st.2⟩ fun h' tk hk' => k h' tk fun b o hb e => hk' b o (fun q => hb (by rw [List.mem_singleton.mp q]; exact .head _)) e
  have gI : ∀ i (h : Heap), (h.IsListIter s.heap.objs.size l i ∧ h.get? l = some { cls := .type "list", data := .seq vs.toArray n }) → ∃ o, h.get? s.heap.objs.size = some o := fun i h st => let ⟨o, ho, _⟩ := st.1; ⟨o, ho⟩
  refine forLoop_my (s := { s with heap := s.heap.push { cls := .type "list_iterator", data := .fields #[.ref l, .int 0 0] } }) (news := news) W ?_ ?_ ?_
    ⟨⟨_, Heap.get?_push_size _ rfl, rfl, rfl⟩, Heap.get?_push_of_some _ hg⟩ (F.push _) (fun p hp => ⟨Heap.get?_push_of_some _ (N p (.tail _ hp)).1, (N p (.tail _ hp)).2⟩)
    (fun h => match h.get? s.heap.objs.size with | some o => [(s.heap.objs.size, o), (l, { cls := .type "list", data := .seq vs.toArray n })] | none => []) ?_ ?_ J hj ?_ ?_ ?_ hE
  · intro hm
    rcases List.mem_cons.mp hm with e | hm
    · exact absurd F.ns.lt (e ▸ Nat.lt_irrefl _)
    · exact hlL (List.mem_singleton.mp hm).symm
  · intro b hb
    rcases List.mem_cons.mp hb with e | hb
    · rw [e]; exact hI
    · rw [List.mem_singleton.mp hb]; exact hl0
  · intro p hp hw
    rcases List.mem_cons.mp hw with e | hw
    · exact absurd (Heap.lt_size (N p (.tail _ hp)).1) (e ▸ Nat.lt_irrefl _)
    · exact hln p hp (List.mem_singleton.mp hw)
  · intro i h st
    obtain ⟨o, ho⟩ := gI i h st
    rw [ho]
    refine ⟨fun p hp => ?_, fun b hb => ?_⟩
    · rcases List.mem_cons.mp hp with e | hp
      · rw [e]; exact ⟨ho, hI, .head _⟩
      · rw [List.mem_singleton.mp hp]; exact ⟨st.2, hl0, .tail _ (.head _)⟩
    · rcases List.mem_cons.mp hb with e | hb
      · exact ⟨o, by rw [e]; exact .head _⟩
      · exact ⟨_, by rw [List.mem_singleton.mp hb]; exact .tail _ (.head _)⟩
  · intro i h h' st k k' hp
    obtain ⟨o, ho⟩ := gI i h st
    rw [ho] at hp
    refine ⟨st.1.at fun o' e => ?_, hp (l, _) (.tail _ (.head _))⟩
    rw [ho] at e; cases e
    exact hp (s.heap.objs.size, o) (.head _)
  · intro i v fr m₁ news₁ h₁ tk₁ hin hJ31 st hJ hoff F₁ N₁
    (refine (let Gk : Prop := _; (?_ : Gk)))
    obtain ⟨hP, rfl⟩ := hJ31
    obtain ⟨o, hg⟩ := gI _ _ st
    ((show Gk); k_unfold; clear Gk)
    simp only [hg] at hoff N₁ ⊢
    exact turn i v m₁ news₁ h₁ tk₁ s.heap.objs.size o hP hJ (fun p hp => ⟨hoff p hp (s.heap.objs.size, o) (.head _), hoff p hp (l, _) (.tail _ (.head _))⟩) F₁ (by simpa using N₁)
  · intro i h st p hp
    obtain ⟨o, ho⟩ := gI i h st
    rw [ho] at hp
    rcases List.mem_cons.mp hp with e | hp
    · rw [e]; exact .head _
    · rw [List.mem_singleton.mp hp]; exact .tail _ (.head _)
  · intro h' tk m' news' hJ F' N'
    exact done m' news' h' tk hJ F' N'
end
end Mine
theorem Mine.off17 : True := by w_top off; trivial
namespace Mine
open PySem PySem.W PySem.Calls PyProof.Rows
theorem strs_of {vs : List Value} {xs : List Str} (H : StrsAre vs xs) : Strs vs xs := by
  induction H with
  | nil => exact .nil
  | cons _ _ _ ih => exact .cons ih
noncomputable def farOf (c : List (Str × Int)) (x : Str) : Int := kdpLook c x 0
noncomputable def topStmtF (i : Nat) : Stmt := match PySem.Challenge.pw_rt0090_01.main.body.drop i with | x :: _ => x | [] => .Break ⟨0, 0, 0, 0⟩
noncomputable def nthStmtF (b : List Stmt) (i : Nat) : Stmt := match b.drop i with | x :: _ => x | [] => .Break ⟨0, 0, 0, 0⟩
noncomputable def defBodyF (x : Stmt) : List Stmt := match x with | .FunctionDef _ _ b _ _ _ _ _ _ _ => b | _ => []
noncomputable def defScopeF (x : Stmt) : Scope := match x with | .FunctionDef _ _ _ _ _ _ sc _ _ _ => sc | _ => ⟨.function, [], false, false, []⟩
noncomputable def fdScope : Scope := defScopeF (topStmtF 33)
noncomputable def fdBest : Stmt := nthStmtF (defBodyF (topStmtF 33)) 0
noncomputable def lamQual : Str := (envOfC "_law_found" fdScope 0 328 (.ref 327)).qual ++ "<lambda>"
noncomputable def LamLed (lam : Led) : Prop := lam = [(323, tabObj #[])] ∨ ∃ c' oc vs t, lam = [(c', oc), (323, tabObj #[rawInt 257, rawInt 30, .ref c'])] ∧ oc.data = .fields vs ∧ vs[1]? = some (.str lamQual t)
theorem found_best {w : World} {p : Program} {loose : List Str} {mean : ExcName → Option Value} {mg mb : Str → Option Value} {dp un : Nat} {gd : Option (List Code)} {cn : Str} {cs : Scope} {a : Addr} {ccd : Value} {cl : List (Str × Addr)} {outer : List Env} {base h₀ : Heap} {L L' : Addr} {m0 : Str → Option Value} {s : Shared} {Q : Flow → Shared → Prop} {E : Value → Shared → Prop} {o1 : Obj} {far : Addr} {c : List (Str × Int)} {lam : Led}
    (B : Below (ktrTop dp un gd cn cs L a ccd cl outer) base (envX cn cs L a ccd cl :: outer) h₀) (X : (hd.heap_39 w.params).In h₀) (T : Top p loose mean mg mb h₀) (hk : cs.kind = .function) (hdp : dp + 20 < recursionLimit) (hun : un + 400 < cLine) (C : CodeHd h₀ 327 323)
    (F : Fr h₀ L' s.heap m0) (N : News h₀ L' s.heap ((L' + 1, o1) :: lam)) (hlam : LamLed lam) (ho1 : o1.data = Data.cell (some (.ref far))) (hS : StrTab PySem.Challenge.pw_rt0090_01 w h₀ far (kdpD c)) (hlen : c.length ≤ 16777216) (hne : 0 < c.length)
    (hin : ∀ (i : Nat) (x : Str), (c.map (·.1))[i]? = some x → kdpHas c x = true) (hL9 : ∀ p ∈ lam, p.1 < L')
    (hE : PassesOwn (model PySem.Challenge.pw_rt0090_01 w) ((ktrTop dp un gd cn cs L a ccd cl outer).deeper (envOfC "_law_found" fdScope L' 328 (.ref 327))) (envOfC "_law_found" fdScope L' 328 (.ref 327)) E)
    (hret : ∀ b t h' tk lam', (b ∈ c.map (·.1)) → (∀ y ∈ c.map (·.1), farOf c b ≤ farOf c y) → LamLed lam' → (∀ p ∈ lam, p.1 ≠ 323 → p ∈ lam') → Fr h₀ L' h' (fun y => if y = "best" then some (.str b t) else m0 y) → News h₀ L' h' ((L' + 1, o1) :: lam') → Q .next { s with heap := h', toks := tk }) :
    wpAny (model PySem.Challenge.pw_rt0090_01 w) ((ktrTop dp un gd cn cs L a ccd cl outer).deeper (envOfC "_law_found" fdScope L' 328 (.ref 327))) (exec fdBest (envOfC "_law_found" fdScope L' 328 (.ref 327))) Q E s := by
  revert B X T hk hdp hun C F N hlam ho1 hS hlen hne hin hL9 hE hret
  revert w p loose mean mg mb dp un gd cn cs a ccd cl outer base h₀ L L' m0 s Q E o1 far c lam
  iterate 1 refine no_implicit_lambda% (Mine.pad1 ?_)
  refine' no_implicit_lambda% (Mine.hk28 ?ne ?_)
  case ne => (repeat' (first | (refine Mine.nePair ?_ ?_) | exact Mine.neWorld | exact Mine.neAround | exact Mine.neShared | infer_instance))
  generalize Mine.A2 _ = w; generalize Mine.A3 _ = p; generalize Mine.A4 _ = loose; generalize Mine.A5 _ = mean; generalize Mine.A6 _ = mg; generalize Mine.A7 _ = mb; generalize Mine.A8 _ = dp; generalize Mine.A9 _ = un; generalize Mine.A10 _ = gd; generalize Mine.A11 _ = cn; generalize Mine.A12 _ = cs; generalize Mine.A13 _ = a; generalize Mine.A14 _ = ccd; generalize Mine.A15 _ = cl; generalize Mine.A16 _ = outer; generalize Mine.A17 _ = base; generalize Mine.A18 _ = h₀; generalize Mine.A19 _ = L; generalize Mine.A20 _ = L'; generalize Mine.A21 _ = m0; generalize Mine.A22 _ = s; generalize Mine.A23 _ = Q; generalize Mine.A24 _ = E; generalize Mine.A25 _ = o1; generalize Mine.A26 _ = far; generalize Mine.A27 _ = c; generalize Mine.A28 _ = lam
  intro uHk
  clear uHk
  intro B X T hk hdp hun C F N hlam ho1 hS hlen hne hin hL9 hE hret
  revert hE
  conv in (occs := *) fdScope => all_goals whnf
  conv in fdBest => whnf
  intro hE
  (refine (let Akₘ : PySem.Around := _; (?_ : wpAny _ Akₘ _ _ _ _)))
  rcases hlam with rfl | ⟨c', oc, vs, t, rfl, hd1, hd2⟩
  · have l0 := hL9
    replace l0 := ltN (show 323 < L' from l0 (323, tabObj #[]) (.head _))
    have l00 : @LT.lt Nat _ 323 (L' + 1) := Nat.lt_succ_of_lt l0
    clear hL9
    (repeat' (first | ((with_reducible show @ite Prop _ _ _ _); walk1) | (k_unfold; (try dsimp only)) | ((fail_if_success (with_reducible (refine Mine.stp 7 ?_ ?_; (focus ((repeat' constructor); done))))); (first | (k_end; wrow_close) | walk1 | (dsimp only; walk1))) | ((fail_if_success (with_reducible show wpAny _ _ _ _ _ _)); dsimp only [Mine.MyPost]) | (leave1; try dsimp only) | fail "no step"))
    ((with_reducible rename News _ _ _ _ => Nz); (with_reducible rename Fr _ _ _ _ => Fz))
    refine kdz_list (by rfl) Fz Nz (hS.keep Fz.keep) hlen fun Bl n h1 tk1 us F1 N1 l1 hus => ?_
    k_lt l1
    clear Fz Nz
    (repeat' (first | ((with_reducible show @ite Prop _ _ _ _); walk1) | (k_unfold; (try dsimp only)) | ((fail_if_success (with_reducible (refine Mine.stp 7 ?_ ?_; (focus ((repeat' constructor); done))))); (first | (k_end; wrow_close) | walk1 | (dsimp only; walk1))) | ((fail_if_success (with_reducible show wpAny _ _ _ _ _ _)); dsimp only [Mine.MyPost]) | (leave1; try dsimp only) | fail "no step"))
    try dsimp only
    ((with_reducible rename News _ _ _ _ => Nz); (with_reducible rename Fr _ _ _ _ => Fz))
    have hus' := strs_of hus
    refine kmk_min (l := Bl) (vs := us) (fun i => farOf c (((c.map (·.1))[i]?).getD Str.empty)) (by rfl) Fz Nz (fun h F N => ⟨_, (N (Bl, W.listOf us.toArray n) (by k_mem)).1, rfl, n, rfl⟩) (by rw [hus'.len, List.length_map]; exact hne) (fun i v hv h tk own F N => ?_) (fun i v h' tk' hv hbest F N => ?_)
    · simp only [List.cons_append, List.nil_append] at N
      clear Fz Nz
      (refine (let Gk : Prop := _; (?_ : Gk)))
      obtain ⟨x, t, rfl, hx⟩ := hus'.at hv
      ((show Gk); k_unfold; clear Gk)
      try dsimp only
      (repeat' (first | ((with_reducible show @ite Prop _ _ _ _); walk1) | (k_unfold; (try dsimp only)) | ((fail_if_success (with_reducible (refine Mine.stp 7 ?_ ?_; (focus ((repeat' constructor); done))))); (first | (k_end; wrow_close) | walk1 | (dsimp only; walk1))) | ((fail_if_success (with_reducible show wpAny _ _ _ _ _ _)); dsimp only [Mine.MyPost]) | (leave1; try dsimp only) | fail "no step"))
      ((with_reducible rename News _ _ _ _ => Nz); (with_reducible rename Fr _ _ _ _ => Fz))
      rename Fr h₀ _ _ _ => FG
      refine kdp_item ((hS.keep FG.keep).keep Fz.keep) (hin i x hx) (fun t7 => ?_)
      (repeat' (first | ((with_reducible show @ite Prop _ _ _ _); walk1) | (k_unfold; (try dsimp only)) | ((fail_if_success (with_reducible (refine Mine.stp 7 ?_ ?_; (focus ((repeat' constructor); done))))); (first | (k_end; wrow_close) | walk1 | (dsimp only; walk1))) | ((fail_if_success (with_reducible show wpAny _ _ _ _ _ _)); dsimp only [Mine.MyPost]) | (leave1; try dsimp only) | fail "no step"))
      rw [show farOf c ((List.map (fun x => x.1) c)[i]?.getD Str.empty) = kdpLook c x 0 by rw [hx]; rfl]
      exact KskEnd.intro (by assumption) (by assumption) (fun p hp => by simpa using hp)
    · dsimp only
      clear Fz Nz
      (refine (let Gk : Prop := _; (?_ : Gk)))
      obtain ⟨x, t, rfl, hx⟩ := hus'.at hv
      ((show Gk); k_unfold; clear Gk)
      (repeat' (first | ((with_reducible show @ite Prop _ _ _ _); walk1) | (k_unfold; (try dsimp only)) | ((fail_if_success (with_reducible (refine Mine.stp 7 ?_ ?_; (focus ((repeat' constructor); done))))); (first | (k_end; wrow_close) | walk1 | (dsimp only; walk1))) | ((fail_if_success (with_reducible show wpAny _ _ _ _ _ _)); dsimp only [Mine.MyPost]) | (leave1; try dsimp only) | fail "no step"))
      ((with_reducible rename News _ _ _ _ => Nz); (with_reducible rename Fr _ _ _ _ => Fz))
      refine hret x _ _ _ _ (List.mem_of_getElem? hx) (fun y hy => ?_) (.inr ⟨_, _, _, _, rfl, by assumption, by assumption⟩) (fun p hp hn => absurd (by rw [List.mem_singleton.mp hp]) hn) Fz (news_sub Nz (by (intro pₘ hpₘ; (repeat (rcases List.mem_cons.mp hpₘ with hqₘ | hpₘ; (focus (rw [hqₘ]; k_mem)))); (repeat (first | exact hpₘ | apply List.mem_cons_of_mem)))))
      (refine (let Gk : Prop := _; (?_ : Gk)))
      obtain ⟨j, hj, e⟩ := List.getElem_of_mem hy
      have := (hbest j (by rw [hus'.len]; exact hj)).1
      rw [hx, List.getElem?_eq_getElem hj, e] at this
      ((show Gk); k_unfold; clear Gk)
      exact this
  · have l0 := hL9
    replace l0 := ltN (show 323 < L' from l0 (323, tabObj _) (.tail _ (.head _)))
    have l01 := ltN (show c' < L' from hL9 (c', oc) (.head _))
    have l02 : @LT.lt Nat _ c' (L' + 1) := Nat.lt_succ_of_lt l01
    have l00 : @LT.lt Nat _ 323 (L' + 1) := Nat.lt_succ_of_lt l0
    clear hL9
    (repeat' (first | ((with_reducible show @ite Prop _ _ _ _); walk1) | (k_unfold; (try dsimp only)) | ((fail_if_success (with_reducible (refine Mine.stp 7 ?_ ?_; (focus ((repeat' constructor); done))))); (first | (k_end; wrow_close) | walk1 | (dsimp only; walk1))) | ((fail_if_success (with_reducible show wpAny _ _ _ _ _ _)); dsimp only [Mine.MyPost]) | (leave1; try dsimp only) | fail "no step"))
    ((with_reducible rename News _ _ _ _ => Nz); (with_reducible rename Fr _ _ _ _ => Fz))
    refine kdz_list (by rfl) Fz Nz (hS.keep Fz.keep) hlen fun Bl n h1 tk1 us F1 N1 l1 hus => ?_
    k_lt l1
    clear Fz Nz
    (repeat' (first | ((with_reducible show @ite Prop _ _ _ _); walk1) | (k_unfold; (try dsimp only)) | ((fail_if_success (with_reducible (refine Mine.stp 7 ?_ ?_; (focus ((repeat' constructor); done))))); (first | (k_end; wrow_close) | walk1 | (dsimp only; walk1))) | ((fail_if_success (with_reducible show wpAny _ _ _ _ _ _)); dsimp only [Mine.MyPost]) | (leave1; try dsimp only) | fail "no step"))
    try dsimp only
    ((with_reducible rename News _ _ _ _ => Nz); (with_reducible rename Fr _ _ _ _ => Fz))
    have hus' := strs_of hus
    refine kmk_min (l := Bl) (vs := us) (fun i => farOf c (((c.map (·.1))[i]?).getD Str.empty)) (by rfl) Fz Nz (fun h F N => ⟨_, (N (Bl, W.listOf us.toArray n) (by k_mem)).1, rfl, n, rfl⟩) (by rw [hus'.len, List.length_map]; exact hne) (fun i v hv h tk own F N => ?_) (fun i v h' tk' hv hbest F N => ?_)
    · simp only [List.cons_append, List.nil_append] at N
      clear Fz Nz
      (refine (let Gk : Prop := _; (?_ : Gk)))
      obtain ⟨x, t, rfl, hx⟩ := hus'.at hv
      ((show Gk); k_unfold; clear Gk)
      try dsimp only
      (repeat' (first | ((with_reducible show @ite Prop _ _ _ _); walk1) | (k_unfold; (try dsimp only)) | ((fail_if_success (with_reducible (refine Mine.stp 7 ?_ ?_; (focus ((repeat' constructor); done))))); (first | (k_end; wrow_close) | walk1 | (dsimp only; walk1))) | ((fail_if_success (with_reducible show wpAny _ _ _ _ _ _)); dsimp only [Mine.MyPost]) | (leave1; try dsimp only) | fail "no step"))
      ((with_reducible rename News _ _ _ _ => Nz); (with_reducible rename Fr _ _ _ _ => Fz))
      rename Fr h₀ _ _ _ => FG
      refine kdp_item ((hS.keep FG.keep).keep Fz.keep) (hin i x hx) (fun t7 => ?_)
      (repeat' (first | ((with_reducible show @ite Prop _ _ _ _); walk1) | (k_unfold; (try dsimp only)) | ((fail_if_success (with_reducible (refine Mine.stp 7 ?_ ?_; (focus ((repeat' constructor); done))))); (first | (k_end; wrow_close) | walk1 | (dsimp only; walk1))) | ((fail_if_success (with_reducible show wpAny _ _ _ _ _ _)); dsimp only [Mine.MyPost]) | (leave1; try dsimp only) | fail "no step"))
      rw [show farOf c ((List.map (fun x => x.1) c)[i]?.getD Str.empty) = kdpLook c x 0 by rw [hx]; rfl]
      exact KskEnd.intro (by assumption) (by assumption) (fun p hp => by simpa using hp)
    · dsimp only
      clear Fz Nz
      (refine (let Gk : Prop := _; (?_ : Gk)))
      obtain ⟨x, t, rfl, hx⟩ := hus'.at hv
      ((show Gk); k_unfold; clear Gk)
      (repeat' (first | ((with_reducible show @ite Prop _ _ _ _); walk1) | (k_unfold; (try dsimp only)) | ((fail_if_success (with_reducible (refine Mine.stp 7 ?_ ?_; (focus ((repeat' constructor); done))))); (first | (k_end; wrow_close) | walk1 | (dsimp only; walk1))) | ((fail_if_success (with_reducible show wpAny _ _ _ _ _ _)); dsimp only [Mine.MyPost]) | (leave1; try dsimp only) | fail "no step"))
      ((with_reducible rename News _ _ _ _ => Nz); (with_reducible rename Fr _ _ _ _ => Fz))
      refine hret x _ _ _ _ (List.mem_of_getElem? hx) (fun y hy => ?_) (.inr ⟨_, _, _, _, rfl, by assumption, by assumption⟩) (fun p hp _ => hp) Fz (news_sub Nz (by (intro pₘ hpₘ; (repeat (rcases List.mem_cons.mp hpₘ with hqₘ | hpₘ; (focus (rw [hqₘ]; k_mem)))); (repeat (first | exact hpₘ | apply List.mem_cons_of_mem)))))
      (refine (let Gk : Prop := _; (?_ : Gk)))
      obtain ⟨j, hj, e⟩ := List.getElem_of_mem hy
      have := (hbest j (by rw [hus'.len]; exact hj)).1
      rw [hx, List.getElem?_eq_getElem hj, e] at this
      ((show Gk); k_unfold; clear Gk)
      exact this
end Mine
namespace Mine
open PySem PySem.W PySem.Calls PyProof.Rows
noncomputable def TabObj (w : World) (h : Heap) (x : Addr) (items : List (Str × Str)) : Prop := ∃ d l tk n vs, h.get? x = some (instObj 171 d) ∧
  h.get? d = some (dictOf [{ hash := PyData.keyHash w.params "_headers", key := .str "_headers" tk, val := .ref l }] 1) ∧ h.get? l = some { cls := .type "list", data := .seq (List.toArray vs) n } ∧ TabItems h vs items
noncomputable def nearF (c : List (Str × Int)) (items : List (Str × Str)) (a : Str) : Str := items.foldl (fun near kv => if farOf c kv.2 < farOf c near then kv.2 else near) a
noncomputable def goF (c : List (Str × Int)) (tabs : Str → List (Str × Str)) (a : Str) : Nat → Str
  | 0 => a
  | k + 1 => nearF c (tabs (goF c tabs a k)) (goF c tabs a k)
structure FoundOk (w : World) (h : Heap) (tb far : Addr) (kvs : List (Str × Value)) (c : List (Str × Int)) (ws : List Str) (tabs : Str → List (Str × Str)) (best : Str) : Prop where
  fr : StrTab PySem.Challenge.pw_rt0090_01 w h far (kdpD c)
  tb : h.DictOf (PySem.strKind PySem.Challenge.pw_rt0090_01 w) tb kvs
  nm : c.map (·.1) = ws
  len : ws.length ≤ 20
  wok : ∀ x ∈ ws, Plain x ∧ x.length ≤ 40 ∧ kdpHas c x = true
  obj : ∀ x ∈ ws, ∃ a, valueAt kvs x = some (.ref a) ∧ TabObj w h a (tabs x)
  tok : ∀ x ∈ ws, (tabs x).length ≤ 20 ∧ ∀ kv ∈ tabs x, kv.1.length ≤ 40 ∧ kv.2 ∈ ws
  bin : best ∈ ws
  bst : ∀ y ∈ ws, farOf c best ≤ farOf c y ∧ (farOf c y = farOf c best → y = best)
  go : ∀ x ∈ ws, nearF c (tabs x) x = x ∨ lookF (tabs x) (Txt.lower (besideF x best)) = some (nearF c (tabs x) x)
theorem TabObj.keeps {w : World} {h h' : Heap} {x : Addr} {items : List (Str × Str)} (k : ∀ b o, h.get? b = some o → (∀ vs, o.data ≠ .fields vs) → h'.get? b = some o) (H : TabObj w h x items) : TabObj w h' x items := by
  (refine (let Gk : Prop := _; (?_ : Gk)))
  obtain ⟨d, l, tk, n, vs, h1, h2, h3, h4⟩ := H
  ((show Gk); k_unfold; clear Gk)
  exact ⟨d, l, tk, n, vs, k _ _ h1 (fun vs q => nomatch q), k _ _ h2 (fun vs q => nomatch q), k _ _ h3 (fun vs q => nomatch q), h4.mono fun a _ _ _ e => k _ _ e (fun vs q => nomatch q)⟩
theorem FoundOk.keeps {w : World} {h h' : Heap} {tb far : Addr} {kvs : List (Str × Value)} {c : List (Str × Int)} {ws : List Str} {tabs : Str → List (Str × Str)} {best : Str} (k : ∀ b o, h.get? b = some o → (∀ vs, o.data ≠ .fields vs) → h'.get? b = some o) (H : FoundOk w h tb far kvs c ws tabs best) : FoundOk w h' tb far kvs c ws tabs best := by
  (refine (let Gk : Prop := _; (?_ : Gk)))
  obtain ⟨a1, a2, a3, a4, a5, a6, a7, a8, a9, a10⟩ := H
  ((show Gk); k_unfold; clear Gk)
  refine ⟨?_, ?_, a3, a4, a5, fun x hx => ?_, a7, a8, a9, a10⟩
  · (refine (let Gk : Prop := _; (?_ : Gk)))
    obtain ⟨lo, fk, hd, hf⟩ := a1
    ((show Gk); k_unfold; clear Gk)
    refine ⟨lo, fk, ?_, hf⟩
    (refine (let Gk : Prop := _; (?_ : Gk)))
    obtain ⟨o, ho, hi⟩ := Heap.dictOf_iff.mp hd
    obtain ⟨es, ep, _, hdt, _⟩ := id hi
    ((show Gk); k_unfold; clear Gk)
    exact Heap.dictOf_iff.mpr ⟨o, k _ _ ho (fun vs q => by rw [hdt] at q; cases q), hi⟩
  · (refine (let Gk : Prop := _; (?_ : Gk)))
    obtain ⟨o, ho, hi⟩ := Heap.dictOf_iff.mp a2
    obtain ⟨es, ep, _, hdt, _⟩ := id hi
    ((show Gk); k_unfold; clear Gk)
    exact Heap.dictOf_iff.mpr ⟨o, k _ _ ho (fun vs q => by rw [hdt] at q; cases q), hi⟩
  · (refine (let Gk : Prop := _; (?_ : Gk)))
    obtain ⟨a, e1, e2⟩ := a6 x hx
    ((show Gk); k_unfold; clear Gk)
    exact ⟨a, e1, e2.keeps k⟩
theorem LamLed.data {lam : Led} (H : LamLed lam) : ∀ p ∈ lam, ∃ vs, p.2.data = .fields vs := by
  rcases H with rfl | ⟨c', oc, vs, t, rfl, hd, _⟩
  · intro p hp
    rw [List.mem_singleton.mp hp]
    exact ⟨_, rfl⟩
  · intro p hp
    rcases List.mem_cons.mp hp with rfl | hp
    · exact ⟨_, hd⟩
    · rw [List.mem_singleton.mp hp]
      exact ⟨_, rfl⟩
theorem hide_data {h : Heap} {lam : Led} (hg : ∀ p ∈ lam, h.get? p.1 = some p.2) (hf : ∀ p ∈ lam, ∃ vs, p.2.data = .fields vs) : ∀ b o, h.get? b = some o → (∀ vs, o.data ≠ .fields vs) → (hideAll h (lam.map (·.1))).get? b = some o := fun b o e hd =>
  hideAll_get _ e fun hm => by
    (refine (let Gk : Prop := _; (?_ : Gk)))
    obtain ⟨p, hp, rfl⟩ := List.mem_map.mp hm
    rw [hg p hp] at e
    ((show Gk); k_unfold; clear Gk)
    cases e
    obtain ⟨vs, hv⟩ := hf p hp
    exact hd vs hv
theorem near_mem {c : List (Str × Int)} {ws : List Str} {items : List (Str × Str)} {a : Str} (ha : a ∈ ws) (h : ∀ kv ∈ items, kv.2 ∈ ws) : nearF c items a ∈ ws := by
  induction items generalizing a with
  | nil => exact ha
  | cons kv r ih =>
    unfold nearF
    rw [List.foldl_cons]
    refine ih ?_ fun k hk => h k (.tail _ hk)
    split
    · exact h kv (.head _)
    · exact ha
theorem near_step {c : List (Str × Int)} {items : List (Str × Str)} {a : Str} {i : Nat} {kv : Str × Str} (h : items[i]? = some kv) : nearF c (items.take (i + 1)) a = if farOf c kv.2 < farOf c (nearF c (items.take i) a) then kv.2 else nearF c (items.take i) a := by
  rw [List.take_add_one, h]
  unfold nearF
  rw [List.foldl_append]
  rfl
theorem fresh_of {h₀ h : Heap} {L : Addr} {m : Str → Option Value} {news : Led} (F : Fr h₀ L h m) (N : News h₀ L h news) : ∀ D, h.get? D = none → D ≠ L ∧ h₀.get? D = none ∧ ∀ p ∈ news, p.1 ≠ D := fun _ hD =>
  ⟨fr_ne F hD, base_none F hD, fun p hp => Ne.symm (get_ne hD (N p hp).1)⟩
theorem tb_item {prog : Program} {w : World} {A : Around} {E : Value → Shared → Prop} {s : Shared} {d : Addr} {kvs : List (Str × Value)} {k : Str} {t : Tok} {v : Value} {value slice : PySem.Expr} {Q : Value → Shared → Prop} (hD : s.heap.DictOf (PySem.strKind prog w) d kvs) (hl : valueAt kvs k = some v) (h : Q v { s with toks := s.toks + 1 })
    (hs : subscripted slice false (.ref d) (.str k t) = operate [.ref d, .str k t] (getItem (.ref d) (.str k t)) := by with_unfolding_all rfl) (hg : ∀ r, letTemporaryGo value (.ref d) r = pure () := by intro _; with_unfolding_all rfl) :
    wpAny (model prog w) A (subscriptTail value slice (.ref d) (.str k t)) Q E s :=
  subscriptTail_builtin hD.typeIs slot_dict_getitem.lookup (wpAny_getItem_of (strKind_is _ _ _ _) hD.mapOf hl h) hs hg
end Mine
theorem Mine.off18 : True := by w_top off; trivial
namespace Mine
open PySem PySem.W PySem.Calls PyProof.Rows
theorem c_found (w : World) (s : Shared) (tb far : Addr) (kvs : List (Str × Value)) (c : List (Str × Int)) (ws : List Str) (tabs : Str → List (Str × Str)) (best at0 : Str) (t : Tok) (H0 : FoundOk w s.heap tb far kvs c ws tabs best) (h0 : at0 ∈ ws) (hend : goF c tabs at0 4 = best) {lam : Led} (hlam : LamLed lam)
    {p : Program} {loose : List Str} {mean : ExcName → Option Value} {mg mb : Str → Option Value} {dp un : Nat} {gd : Option (List Code)} {cn : Str} {cs : Scope} {a : Addr} {ccd : Value} {cl : List (Str × Addr)} {outer : List Env} {A₀ : Around} {base h₀ : Heap} {L : Addr} {m : Str → Option Value} {Q E : Value → Shared → Prop}
    (B : Below A₀ base outer h₀) (F : Fr h₀ L s.heap m) (X : (Mine.pre.hd.heap_39 w.params).In h₀) (T : Top p loose mean mg mb h₀) (hk : cs.kind = .function) (hdp : dp + 40 < recursionLimit) (hun : un + 800 < cLine) (C : CodeHd h₀ 327 323) (N : News h₀ L s.heap lam)
    (hret : ∀ h' tk' lam', LamLed lam' → (∀ b o, b ≠ 323 → s.heap.get? b = some o → h'.get? b = some o) → News h₀ L h' lam' → (∀ p ∈ lam', p ∈ lam ∨ p.1 = 323 ∨ s.heap.get? p.1 = none) → Q (.bool true) { s with heap := h', toks := tk' }) :
    wpAny (model PySem.Challenge.pw_rt0090_01 w) (ktrTop dp un gd cn cs L a ccd cl outer) (call (.ref 328) [.ref tb, .ref far, .str at0 t]) Q E s := by
  revert tabs H0 h0 hend hlam B F X T hk hdp hun C N hret
  revert w s tb far kvs c ws best at0 t lam p loose mean mg mb dp un gd cn cs a ccd cl outer A₀ base h₀ L m Q E
  iterate 2 refine no_implicit_lambda% (Mine.pad1 ?_)
  refine' no_implicit_lambda% (Mine.hk34 ?ne ?_)
  case ne => (repeat' (first | (refine Mine.nePair ?_ ?_) | exact Mine.neWorld | exact Mine.neAround | exact Mine.neShared | infer_instance))
  generalize Mine.A3 _ = w; generalize Mine.A4 _ = s; generalize Mine.A5 _ = tb; generalize Mine.A6 _ = far; generalize Mine.A7 _ = kvs; generalize Mine.A8 _ = c; generalize Mine.A9 _ = ws; generalize Mine.A10 _ = best; generalize Mine.A11 _ = at0; generalize Mine.A12 _ = t; generalize Mine.A13 _ = lam; generalize Mine.A14 _ = p; generalize Mine.A15 _ = loose; generalize Mine.A16 _ = mean; generalize Mine.A17 _ = mg; generalize Mine.A18 _ = mb; generalize Mine.A19 _ = dp; generalize Mine.A20 _ = un; generalize Mine.A21 _ = gd; generalize Mine.A22 _ = cn; generalize Mine.A23 _ = cs; generalize Mine.A24 _ = a; generalize Mine.A25 _ = ccd; generalize Mine.A26 _ = cl; generalize Mine.A27 _ = outer; generalize Mine.A28 _ = A₀; generalize Mine.A29 _ = base; generalize Mine.A30 _ = h₀; generalize Mine.A31 _ = L; generalize Mine.A32 _ = m; generalize Mine.A33 _ = Q; generalize Mine.A34 _ = E
  intro uHk
  clear uHk
  intro tabs H0 h0 hend hlam B F X T hk hdp hun C N hret
  have H := H0.keeps (hide_data (fun p hp => (N p hp).1) hlam.data)
  have C' : CodeHd (hideAll s.heap (lam.map (·.1))) 327 323 := C.keeps fun b o e => hideAll_get _ (F.keep _ _ e) fun hm => by
    (refine (let Gk : Prop := _; (?_ : Gk)))
    obtain ⟨p, hp, rfl⟩ := List.mem_map.mp hm
    rw [(N p hp).2.2] at e; cases e
  refine wpAny_call ?_
  (k_dflt (refine' Mine.enterGC _ ?k1ₘ ?k2ₘ ?k3ₘ ?k4ₘ ?k5ₘ ?kAₘ ?kFₘ ?kKₘ ?k6ₘ ?k7ₘ ?k8ₘ ?k9ₘ ?kBₘ ?kDₘ ?_ ?c2ₘ ?c3ₘ ?c4ₘ; (case kAₘ => exact rfl); (case kFₘ => exact rfl); (case kKₘ => assumption); (case k1ₘ => k_asm); (case k2ₘ => k_asm); (case k3ₘ => k_asm); (case k4ₘ => assumption); (case k5ₘ => k_asm); (case k6ₘ => k_is); (case k7ₘ => k_is); (case k8ₘ => ktr_room); (case k9ₘ => first | exact BindsTo.of_eq rfl | exact binds_K (by k_in) rfl (by k_is) rfl rfl rfl); (case kBₘ => exact rfl); (case kDₘ => decide +kernel); (case c2ₘ => exact rfl); (case c3ₘ => exact rfl); (case c4ₘ => exact rfl); k_whole); intro L'ₘ h'ₘ tk'ₘ cells'ₘ F'ₘ N'ₘ Y'ₘ B'ₘ X'ₘ T'ₘ l1ₘ; k_cells Y'ₘ; (try simp only [List.cons_append, List.nil_append] at N'ₘ); (try dsimp only); (try k_fold))
  (refine (let Akₘ : PySem.Around := _; (?_ : wpAny _ Akₘ _ _ _ _)))
  walk1
  ((with_reducible rename News _ _ _ _ => Nz); (with_reducible rename Fr _ _ _ _ => Fz))
  refine found_best (by assumption) (by assumption) (by assumption) (by first | exact rfl | assumption) (by k_room) (by k_units) C' Fz Nz hlam (by assumption) H.fr (by rw [← List.length_map (f := Prod.fst), H.nm]; have := H.len; lia) (by rw [← List.length_map (f := Prod.fst), H.nm]; exact List.length_pos_of_mem h0) (fun i x e => (H.wok _ (by rw [← H.nm]; exact List.mem_of_getElem? e)).2.2) (by assumption) (by passes_own) (fun b tb' h1 tk1 lam1 hb1 hb2 hlam1 hkl F1 N1 => ?_)
  have hbe : b = best := by
    rw [H.nm] at hb1 hb2
    exact (H.bst b hb1).2 (Int.le_antisymm (hb2 _ H.bin) (H.bst b hb1).1)
  subst hbe
  clear Fz Nz hb1 hb2
  try dsimp only
  walk1
  (refine PySem.wpAny_For ?_ (by first | (intro _; rfl) | (intro xₘ; rfl)))
  (repeat' (first | ((with_reducible show @ite Prop _ _ _ _); walk1) | (k_unfold; (try dsimp only)) | ((fail_if_success (with_reducible (refine Mine.stp 7 ?_ ?_; (focus ((repeat' constructor); done))))); (first | (k_end; wrow_close) | walk1 | (dsimp only; walk1))) | ((fail_if_success (with_reducible show wpAny _ _ _ _ _ _)); dsimp only [Mine.MyPost]) | (leave1; try dsimp only) | fail "no step"))
  ((with_reducible rename News _ _ _ _ => Nz); (with_reducible rename Fr _ _ _ _ => Fz))
  refine (let m1 : PySem.Str → Option Value := _; (fun (Fz : Fr _ _ _ m1) => (?_ : _)) Fz)
  have em : m1 = m1 := rfl
  refine with_news Nz fun NN eN => ?_
  have N2 := Nz
  rw [← eN] at N2
  clear Nz
  refine iter_range (n := 4) (fun k m news => (∃ uN uS uW ta, m = (fun (y : Str) => if y = "at" then some (.str (goF c tabs at0 k) ta) else if y = "near" then uN else if y = "step" then uS else if y = "way" then uW else m1 y) ∧ goF c tabs at0 k ∈ ws) ∧ news = NN)
    rfl (by assumption) (by decide) (by decide) Fz N2 ?_ ?_ ?_
  · refine ⟨⟨_, _, _, _, em.symm.trans (with_m4 (a := "at") (b := "near") (c := "step") (d := "way") ((congrFun em _).trans (by rfl)) rfl rfl rfl), h0⟩, rfl⟩
  · intro k tt m₄ news₄ h3 tk3 I o4 hk3 hJ32 hoff F8 N8
    (refine (let Gk : Prop := _; (?_ : Gk)))
    obtain ⟨⟨uN, uS, uW, ta, rfl, hat⟩, rfl⟩ := hJ32
    clear Fz N2
    have hat40 := (H.wok _ hat).2.1
    have hgo : goF c tabs at0 (k + 1) = nearF c (tabs (goF c tabs at0 k)) (goF c tabs at0 k) := rfl
    obtain ⟨x, hx1, d, l, tkx, n9, tvs, hx2, hx3, hx4, hx5⟩ := H.obj _ hat
    have htok := H.tok _ hat
    have hgo2 := H.go _ hat
    rw [← hgo] at hgo2
    obtain ⟨na, hna⟩ : ∃ z, z = goF c tabs at0 (k + 1) := ⟨_, rfl⟩
    ((show Gk); k_unfold; clear Gk)
    rw [← hna] at hgo hgo2 ⊢
    obtain ⟨at1, hat1⟩ : ∃ z, z = goF c tabs at0 k := ⟨_, rfl⟩
    obtain ⟨its, hits⟩ : ∃ z, z = tabs at1 := ⟨_, rfl⟩
    rw [← hat1] at hat hat40 hgo F8 hx1 hx5 htok hgo2
    rw [← hits] at hgo hx5 htok hgo2
    clear em
    try dsimp only [envOf] at F8 N8
    rw [eN] at N8 hoff
    (show wpAny _ _ _ _ _ _)
    k_fold
    (repeat' (first | ((with_reducible show @ite Prop _ _ _ _); walk1) | (k_unfold; (try dsimp only)) | ((fail_if_success (with_reducible (refine Mine.stp 7 ?_ ?_; (focus ((repeat' constructor); done))))); (first | (k_end; wrow_close) | walk1 | (dsimp only; walk1))) | ((fail_if_success (with_reducible show wpAny _ _ _ _ _ _)); dsimp only [Mine.MyPost]) | (leave1; try dsimp only) | fail "no step"))
    skip; walk1
    walk1
    (refine PySem.wpAny_For ?_ (by first | (intro _; rfl) | (intro xₘ; rfl)))
    (repeat' (first | ((with_reducible show @ite Prop _ _ _ _); walk1) | (k_unfold; (try dsimp only)) | ((fail_if_success (with_reducible (refine Mine.stp 7 ?_ ?_; (focus ((repeat' constructor); done))))); (first | (k_end; wrow_close) | walk1 | (dsimp only; walk1))) | ((fail_if_success (with_reducible show wpAny _ _ _ _ _ _)); dsimp only [Mine.MyPost]) | (leave1; try dsimp only) | fail "no step"))
    ((with_reducible rename News _ _ _ _ => Nz); (with_reducible rename Fr _ _ _ _ => Fz))
    refine tb_item (H.tb.keep Fz.keep) hx1 ?_
    (repeat' (first | ((with_reducible show @ite Prop _ _ _ _); walk1) | (k_unfold; (try dsimp only)) | ((fail_if_success (with_reducible (refine Mine.stp 7 ?_ ?_; (focus ((repeat' constructor); done))))); (first | (k_end; wrow_close) | walk1 | (dsimp only; walk1))) | ((fail_if_success (with_reducible show wpAny _ _ _ _ _ _)); dsimp only [Mine.MyPost]) | (leave1; try dsimp only) | fail "no step"))
    dsimp only [List.append_nil]
    ((with_reducible rename News _ _ _ _ => Nz); (with_reducible rename Fr _ _ _ _ => Fz))
    have hx5' := hx5.mono fun a _ _ _ e => Fz.keep _ _ e
    have hfresh := fresh_of Fz Nz
    ((with_reducible rename News _ _ _ _ => Nz); (with_reducible rename Fr _ _ _ _ => Fz); (k_dflt (refine' Mine.RO_use (c_values w _ x d l tkx n9 tvs its (Fz.keep _ _ hx2) (Fz.keep _ _ hx3) (Fz.keep _ _ hx4) hx5' (by rw [hx5.len]; exact htok.1)) ?k1ₘ ?k2ₘ ?k3ₘ ?k5ₘ ?k6ₘ ?k7ₘ ?k8ₘ ?kNₘ ?_; (case k1ₘ => k_asm); (case k2ₘ => k_asm); (case k3ₘ => k_asm); (case k5ₘ => k_asm); (case k6ₘ => first | exact rfl | assumption); (case k7ₘ => ktr_room); (case k8ₘ => ktr_units); (case kNₘ => k_asm); k_whole)); intro v9 h9 tk9 F9 N9 k9 e9; clear Fz Nz)
    (refine (let Gk : Prop := _; (?_ : Gk)))
    obtain ⟨D, us, rfl, hus, hD0, hD1⟩ := e9
    obtain ⟨hf1, hf2, hDI⟩ := hfresh D hD0
    have N10 := news_put hD1 hf1 hf2 N9
    clear k9 N9 hx5' hfresh hf1 hf2 hD0 hD1
    ((show Gk); k_unfold; clear Gk)
    (repeat' (first | ((with_reducible show @ite Prop _ _ _ _); walk1) | (k_unfold; (try dsimp only)) | ((fail_if_success (with_reducible (refine Mine.stp 7 ?_ ?_; (focus ((repeat' constructor); done))))); (first | (k_end; wrow_close) | walk1 | (dsimp only; walk1))) | ((fail_if_success (with_reducible show wpAny _ _ _ _ _ _)); dsimp only [Mine.MyPost]) | (leave1; try dsimp only) | fail "no step"))
    ((with_reducible rename News _ _ _ _ => Nz); (with_reducible rename Fr _ _ _ _ => Fz))
    refine (let m3 : PySem.Str → Option Value := _; (fun (Fz : Fr _ _ _ m3) => (?_ : _)) Fz)
    have em3 : m3 = m3 := rfl
    refine iter_listL (l := D) (vs := us) (n := us.length) (news := (I, o4) :: news₄) (fun i m news => (∃ uW tn, m = (fun (y : Str) => if y = "near" then some (.str (nearF c (its.take i) at1) tn) else if y = "way" then uW else m3 y)) ∧ news = (I, o4) :: news₄) rfl Fz (by rw [eN]; exact Nz) (by rw [eN]; exact hDI) ?_ ?_ ?_
    · exact ⟨⟨_, _, em3.symm.trans (with_m2 (a := "near") (b := "way") ((congrFun em3 _).trans (by rfl)) rfl)⟩, rfl⟩
    · intro i v m₅ news₅ h5 tk5 I5 o5 hv hJ33 hoff5 F10 N10
      (refine (let Gk : Prop := _; (?_ : Gk)))
      obtain ⟨⟨uW5, tn5, rfl⟩, rfl⟩ := hJ33
      obtain ⟨z, tz, rfl, hz⟩ := hus.at hv
      obtain ⟨kv, hkv, rfl⟩ : ∃ kv, its[i]? = some kv ∧ kv.2 = z := by
        rw [List.getElem?_map] at hz
        cases e : its[i]? with
        | none => rw [e] at hz; cases hz
        | some kv => rw [e] at hz; exact ⟨kv, rfl, Option.some.inj hz⟩
      have hzw := (htok.2 kv (List.mem_of_getElem? hkv)).2
      have hnw := near_mem (c := c) (items := its.take i) hat fun kv hk => (htok.2 kv (List.mem_of_mem_take hk)).2
      have hstep := near_step (c := c) (a := at1) hkv
      obtain ⟨nr, hnr⟩ : ∃ z, z = nearF c (its.take i) at1 := ⟨_, rfl⟩
      rw [← hnr] at hnw hstep F10
      clear Fz Nz
      clear em3
      try dsimp only [envOf] at F10 N10
      rw [eN] at N10
      ((show Gk); k_unfold; clear Gk)
      (show wpAny _ _ _ _ _ _)
      k_fold
      (repeat' (first | ((with_reducible show @ite Prop _ _ _ _); walk1) | (k_unfold; (try dsimp only)) | ((fail_if_success (with_reducible (refine Mine.stp 7 ?_ ?_; (focus ((repeat' constructor); done))))); (first | (k_end; wrow_close) | walk1 | (dsimp only; walk1))) | ((fail_if_success (with_reducible show wpAny _ _ _ _ _ _)); dsimp only [Mine.MyPost]) | (leave1; try dsimp only) | fail "no step"))
      ((with_reducible rename News _ _ _ _ => Nz); (with_reducible rename Fr _ _ _ _ => Fz))
      refine kdp_item (H.fr.keep Fz.keep) (H.wok _ hzw).2.2 (fun t7 => ?_)
      try dsimp only
      (repeat' (first | ((with_reducible show @ite Prop _ _ _ _); walk1) | (k_unfold; (try dsimp only)) | ((fail_if_success (with_reducible (refine Mine.stp 7 ?_ ?_; (focus ((repeat' constructor); done))))); (first | (k_end; wrow_close) | walk1 | (dsimp only; walk1))) | ((fail_if_success (with_reducible show wpAny _ _ _ _ _ _)); dsimp only [Mine.MyPost]) | (leave1; try dsimp only) | fail "no step"))
      ((with_reducible rename News _ _ _ _ => Nz); (with_reducible rename Fr _ _ _ _ => Fz))
      refine kdp_item (H.fr.keep Fz.keep) (H.wok _ hnw).2.2 (fun t8 => ?_)
      try dsimp only
      (repeat' (first | ((with_reducible show @ite Prop _ _ _ _); walk1) | (k_unfold; (try dsimp only)) | ((fail_if_success (with_reducible (refine Mine.stp 7 ?_ ?_; (focus ((repeat' constructor); done))))); (first | (k_end; wrow_close) | walk1 | (dsimp only; walk1))) | ((fail_if_success (with_reducible show wpAny _ _ _ _ _ _)); dsimp only [Mine.MyPost]) | (leave1; try dsimp only) | fail "no step"))
      · ((with_reducible rename News _ _ _ _ => Nz); (with_reducible rename Fr _ _ _ _ => Fz))
        refine MyEnd.intro Fz Nz ⟨⟨_, _, by rw [hstep, if_pos (show farOf c kv.2 < farOf c nr by assumption)]; exact Mine.map2 (a := "near") (b := "way") (by (repeat (first | exact Mine.Off.refl | (refine Mine.Off.upd (by first | exact .head _ | exact .tail _ (.head _) | exact .tail _ (.tail _ (.head _)) | exact .tail _ (.tail _ (.tail _ (.head _))) | exact .tail _ (.tail _ (.tail _ (.tail _ (.head _)))) | exact .tail _ (.tail _ (.tail _ (.tail _ (.tail _ (.head _)))))) ?_))))⟩, rfl⟩ (by (intro pₘ hpₘ; rcases List.mem_cons.mp hpₘ with hqₘ | hpₘ; (focus (rw [hqₘ]; k_mem)); rw [List.mem_singleton.mp hpₘ]; k_mem)) (by rw [eN]; (intro pₘ hpₘ; (repeat (rcases List.mem_cons.mp hpₘ with hqₘ | hpₘ; (focus (rw [hqₘ]; k_mem)))); (repeat (first | exact hpₘ | apply List.mem_cons_of_mem)))) ?_
        intro p hp q hq
        rcases List.mem_cons.mp hq with hq | hq
        · rw [hq]; exact (hoff5 p hp).1
        · rw [List.mem_singleton.mp hq]; exact (hoff5 p hp).2
      · ((with_reducible rename News _ _ _ _ => Nz); (with_reducible rename Fr _ _ _ _ => Fz))
        refine MyEnd.intro Fz Nz ⟨⟨_, _, by rw [hstep, if_neg (show ¬ farOf c kv.2 < farOf c nr by assumption), hnr]; exact Mine.map2 (a := "near") (b := "way") (by (repeat (first | exact Mine.Off.refl | (refine Mine.Off.upd (by first | exact .head _ | exact .tail _ (.head _) | exact .tail _ (.tail _ (.head _)) | exact .tail _ (.tail _ (.tail _ (.head _))) | exact .tail _ (.tail _ (.tail _ (.tail _ (.head _)))) | exact .tail _ (.tail _ (.tail _ (.tail _ (.tail _ (.head _)))))) ?_))))⟩, rfl⟩ (by (intro pₘ hpₘ; rcases List.mem_cons.mp hpₘ with hqₘ | hpₘ; (focus (rw [hqₘ]; k_mem)); rw [List.mem_singleton.mp hpₘ]; k_mem)) (by rw [eN]; (intro pₘ hpₘ; (repeat (rcases List.mem_cons.mp hpₘ with hqₘ | hpₘ; (focus (rw [hqₘ]; k_mem)))); (repeat (first | exact hpₘ | apply List.mem_cons_of_mem)))) ?_
        intro p hp q hq
        rcases List.mem_cons.mp hq with hq | hq
        · rw [hq]; exact (hoff5 p hp).1
        · rw [List.mem_singleton.mp hq]; exact (hoff5 p hp).2
    · intro m₅ news₅ h5 tk5 hJ34 F10 N10
      (refine (let Gk : Prop := _; (?_ : Gk)))
      obtain ⟨⟨uW5, tn5, rfl⟩, rfl⟩ := hJ34
      clear Fz Nz
      clear em3
      try dsimp only [envOf] at F10 N10
      rw [eN] at N10
      rw [List.take_of_length_le (by rw [hus.len, List.length_map]; exact Nat.le_refl _), ← hgo] at F10
      have hnw : na ∈ ws := by rw [hgo]; exact near_mem hat fun kv hk => (htok.2 kv hk).2
      have hn40 := (H.wok _ hnw).2.1
      ((show Gk); k_unfold; clear Gk)
      try dsimp only
      (repeat' (first | ((with_reducible show @ite Prop _ _ _ _); walk1) | (k_unfold; (try dsimp only)) | ((fail_if_success (with_reducible (refine Mine.stp 7 ?_ ?_; (focus ((repeat' constructor); done))))); (first | (k_end; wrow_close) | walk1 | (dsimp only; walk1))) | ((fail_if_success (with_reducible show wpAny _ _ _ _ _ _)); dsimp only [Mine.MyPost]) | (leave1; try dsimp only) | fail "no step"))
      · rename (na != at1) = true => hne
        have hlk : lookF its (Txt.lower (besideF at1 b)) = some na := by
          rcases hgo2 with q | q
          · rw [q] at hne; simp at hne
          · exact q
        have hbw := H.wok _ H.bin
        obtain ⟨fo, hfo⟩ : ∃ z, z = besideF at1 b := ⟨_, rfl⟩
        have hfp : Plain fo ∧ fo.length ≤ 40 := by rw [hfo]; exact ⟨beside_plain _ _ hbw.1, Nat.le_trans (beside_len _ _) hbw.2.1⟩
        rw [← hfo] at hlk
        have hlp : Plain (Txt.lower fo) ∧ (Txt.lower fo).length ≤ 40 := ⟨plain_lower hfp.1, by rw [len_lower_plain hfp.1]; exact hfp.2⟩
        ((with_reducible rename News _ _ _ _ => Nz); (with_reducible rename Fr _ _ _ _ => Fz))
        refine tb_item (H.tb.keep Fz.keep) hx1 ?_
        try dsimp only
        (repeat' (first | ((with_reducible show @ite Prop _ _ _ _); walk1) | (k_unfold; (try dsimp only)) | ((fail_if_success (with_reducible (refine Mine.stp 7 ?_ ?_; (focus ((repeat' constructor); done))))); (first | (k_end; wrow_close) | walk1 | (dsimp only; walk1))) | ((fail_if_success (with_reducible show wpAny _ _ _ _ _ _)); dsimp only [Mine.MyPost]) | (leave1; try dsimp only) | fail "no step"))
        ((with_reducible rename News _ _ _ _ => Nz); (with_reducible rename Fr _ _ _ _ => Fz); (k_dflt (refine' Mine.RO_use (c_beside w _ at1 b _ _ hat40 hbw.2.1) ?k1ₘ ?k2ₘ ?k3ₘ ?k5ₘ ?k6ₘ ?k7ₘ ?k8ₘ ?kNₘ ?_; (case k1ₘ => k_asm); (case k2ₘ => k_asm); (case k3ₘ => k_asm); (case k5ₘ => k_asm); (case k6ₘ => first | exact rfl | assumption); (case k7ₘ => ktr_room); (case k8ₘ => ktr_units); (case kNₘ => k_asm); k_whole)); intro v9 h9 tk9 F9 N9 k9 e9; clear Fz Nz)
        obtain ⟨t5, rfl⟩ := e9
        rw [← hfo]
        clear k9
        (repeat' (first | ((with_reducible show @ite Prop _ _ _ _); walk1) | (k_unfold; (try dsimp only)) | ((fail_if_success (with_reducible (refine Mine.stp 7 ?_ ?_; (focus ((repeat' constructor); done))))); (first | (k_end; wrow_close) | walk1 | (dsimp only; walk1))) | ((fail_if_success (with_reducible show wpAny _ _ _ _ _ _)); dsimp only [Mine.MyPost]) | (leave1; try dsimp only) | fail "no step"))
        ((with_reducible rename News _ _ _ _ => Nz); (with_reducible rename Fr _ _ _ _ => Fz))
        have hx5' := hx5.mono fun a _ _ _ e => Fz.keep _ _ e
        ((with_reducible rename News _ _ _ _ => Nz); (with_reducible rename Fr _ _ _ _ => Fz); (k_dflt (refine' Mine.RO_use (c_get w _ x d l tkx n9 tvs its (Fz.keep _ _ hx2) (Fz.keep _ _ hx3) (Fz.keep _ _ hx4) hx5' _ _ hlp.1 hlp.2 (fun kv hk => (htok.2 kv hk).1)) ?k1ₘ ?k2ₘ ?k3ₘ ?k5ₘ ?k6ₘ ?k7ₘ ?k8ₘ ?kNₘ ?_; (case k1ₘ => k_asm); (case k2ₘ => k_asm); (case k3ₘ => k_asm); (case k5ₘ => k_asm); (case k6ₘ => first | exact rfl | assumption); (case k7ₘ => ktr_room); (case k8ₘ => ktr_units); (case kNₘ => k_asm); k_whole)); intro v9 h9 tk9 F9 N9 k9 e9; clear Fz Nz)
        rw [hlk] at e9
        obtain ⟨t6, rfl⟩ := e9
        clear k9 hx5'
        (repeat' (first | ((with_reducible show @ite Prop _ _ _ _); walk1) | (k_unfold; (try dsimp only)) | ((fail_if_success (with_reducible (refine Mine.stp 7 ?_ ?_; (focus ((repeat' constructor); done))))); (first | (k_end; wrow_close) | walk1 | (dsimp only; walk1))) | ((fail_if_success (with_reducible show wpAny _ _ _ _ _ _)); dsimp only [Mine.MyPost]) | (leave1; try dsimp only) | fail "no step"))
        · rename (na != na) = true => hab
          simp at hab
        · ((with_reducible rename News _ _ _ _ => Nz); (with_reducible rename Fr _ _ _ _ => Fz))
          refine MyEnd.intro Fz Nz ⟨⟨_, _, _, _, by exact Mine.map4 (a := "at") (b := "near") (c := "step") (d := "way") (by (repeat (first | exact Mine.Off.refl | (refine Mine.Off.upd (by first | exact .head _ | exact .tail _ (.head _) | exact .tail _ (.tail _ (.head _)) | exact .tail _ (.tail _ (.tail _ (.head _))) | exact .tail _ (.tail _ (.tail _ (.tail _ (.head _)))) | exact .tail _ (.tail _ (.tail _ (.tail _ (.tail _ (.head _)))))) ?_)))), hnw⟩, rfl⟩ (by (intro pₘ hpₘ; rw [List.mem_singleton.mp hpₘ]; k_mem)) (by rw [eN]; (intro pₘ hpₘ; (repeat (rcases List.mem_cons.mp hpₘ with hqₘ | hpₘ; (focus (rw [hqₘ]; k_mem)))); (repeat (first | exact hpₘ | apply List.mem_cons_of_mem)))) ?_
          intro p hp q hq
          rw [List.mem_singleton.mp hq]
          exact hoff p (by rw [← eN]; exact hp)
      · ((with_reducible rename News _ _ _ _ => Nz); (with_reducible rename Fr _ _ _ _ => Fz))
        refine MyEnd.intro Fz Nz ⟨⟨_, _, _, _, by exact Mine.map4 (a := "at") (b := "near") (c := "step") (d := "way") (by (repeat (first | exact Mine.Off.refl | (refine Mine.Off.upd (by first | exact .head _ | exact .tail _ (.head _) | exact .tail _ (.tail _ (.head _)) | exact .tail _ (.tail _ (.tail _ (.head _))) | exact .tail _ (.tail _ (.tail _ (.tail _ (.head _)))) | exact .tail _ (.tail _ (.tail _ (.tail _ (.tail _ (.head _)))))) ?_)))), hnw⟩, rfl⟩ (by (intro pₘ hpₘ; rw [List.mem_singleton.mp hpₘ]; k_mem)) (by rw [eN]; (intro pₘ hpₘ; (repeat (rcases List.mem_cons.mp hpₘ with hqₘ | hpₘ; (focus (rw [hqₘ]; k_mem)))); (repeat (first | exact hpₘ | apply List.mem_cons_of_mem)))) ?_
        intro p hp q hq
        rw [List.mem_singleton.mp hq]
        exact hoff p (by rw [← eN]; exact hp)
  · intro m₄ news₄ h3 tk3 hJ35 F8 N8
    (refine (let Gk : Prop := _; (?_ : Gk)))
    obtain ⟨⟨uN, uS, uW, ta, rfl, hat⟩, rfl⟩ := hJ35
    clear Fz N2
    clear em
    try dsimp only [envOf] at F8 N8
    rw [eN] at N8
    rw [hend] at F8 hat
    have hat40 := (H.wok _ hat).2.1
    ((show Gk); k_unfold; clear Gk)
    try dsimp only
    (repeat' (first | ((with_reducible show @ite Prop _ _ _ _); walk1) | (k_unfold; (try dsimp only)) | ((fail_if_success (with_reducible (refine Mine.stp 7 ?_ ?_; (focus ((repeat' constructor); done))))); (first | (k_end; wrow_close) | walk1 | (dsimp only; walk1))) | ((fail_if_success (with_reducible show wpAny _ _ _ _ _ _)); dsimp only [Mine.MyPost]) | (leave1; try dsimp only) | fail "no step"))
    rw [beq_self_eq_true]
    ((with_reducible rename News _ _ _ _ => Nz); (with_reducible rename Fr _ _ _ _ => Fz))
    have Nl := news_tail Nz
    have h3 : ∀ p ∈ lam1, p ∈ lam ∨ p.1 = 323 ∨ s.heap.get? p.1 = none := fun p hp => by
      have hn := (Nl p hp).2.2
      cases e : s.heap.get? p.1 with
      | none => exact .inr (.inr rfl)
      | some o =>
        by_cases hm : p.1 ∈ lam.map (·.1)
        · (refine (let Gk : Prop := _; (?_ : Gk)))
          obtain ⟨q, hq, hqe⟩ := List.mem_map.mp hm
          ((show Gk); k_unfold; clear Gk)
          by_cases h9 : p.1 = 323
          · exact .inr (.inl h9)
          · have := (Nl q (hkl q hq (by rw [hqe]; exact h9))).1
            rw [hqe, (Nl p hp).1] at this
            have e2 : p = q := Prod.ext hqe.symm (Option.some.inj this)
            exact .inl (e2 ▸ hq)
        · rw [hideAll_get _ e hm] at hn
          cases hn
    have h323 : ∃ o, (323, o) ∈ lam := by
      rcases hlam with rfl | ⟨c', oc, vs, t, rfl, hd, _⟩
      · exact ⟨_, .head _⟩
      · exact ⟨_, .tail _ (.head _)⟩
    refine hret _ _ lam1 hlam1 (fun b o hb e => ?_) (fun p hp => ⟨(Nl p hp).1, ?_⟩) h3
    · by_cases hm : b ∈ lam.map (·.1)
      · (refine (let Gk : Prop := _; (?_ : Gk)))
        obtain ⟨q, hq, rfl⟩ := List.mem_map.mp hm
        have e2 := (N q hq).1
        rw [e] at e2
        ((show Gk); k_unfold; clear Gk)
        cases e2
        exact (Nl q (hkl q hq hb)).1
      · exact Fz.keep _ _ (hideAll_get _ e hm)
    · rcases h3 p hp with q | q | q
      · exact (N p q).2
      · obtain ⟨o, ho⟩ := h323
        rw [q]; exact (N _ ho).2
      · exact ⟨fr_ne F q, base_none F q⟩
end Mine
theorem Mine.off19 : True := by w_top off; trivial
namespace Mine
open PySem PySem.W PySem.Calls PyProof.Rows
theorem nodup_len {α : Type} [DecidableEq α] {js ts : List α} (hn : js.Nodup) (hs : ∀ x ∈ js, x ∈ ts) : js.length ≤ ts.length := by
  induction js generalizing ts with
  | nil => exact Nat.zero_le _
  | cons a r ih =>
    have ha := hs a (.head _)
    have hn' := List.nodup_cons.mp hn
    have := ih (ts := ts.erase a) hn'.2 fun x hx => (List.mem_erase_of_ne fun q => hn'.1 (by rw [← q]; exact hx)).mpr (hs x (.tail _ hx))
    rw [List.length_erase_of_mem ha] at this
    have hp := List.length_pos_of_mem ha
    simp only [List.length_cons]
    lia
theorem visited_len {c : Int} {ts : List Int} (hl : ts.length < 81) : ∀ j : Nat, (∀ i, i < j → (c + (i : Nat)) % 81 ∈ ts) → j ≤ ts.length := by
  intro j h
  rcases Nat.lt_or_ge ts.length j with q | q
  · exfalso
    have := nodup_len (js := (List.range (ts.length + 1)).map fun i : Nat => (c + (i : Nat)) % 81) (ts := ts) ?_ ?_
    · simp at this; lia
    · rw [List.nodup_iff_pairwise_ne, List.pairwise_map]
      refine List.Pairwise.imp_of_mem ?_ List.pairwise_lt_range
      intro a b ha hb hab
      simp only [List.mem_range] at ha hb
      lia
    · intro x hx
      (refine (let Gk : Prop := _; (?_ : Gk)))
      obtain ⟨i, hi, rfl⟩ := List.mem_map.mp hx
      ((show Gk); k_unfold; clear Gk)
      exact h i (by have := List.mem_range.mp hi; lia)
  · exact q
structure WhEnd (I : Nat → Shared → Prop) (n : Nat) (s : Shared) : Prop where
  out : ∃ m, m < n ∧ I m s
noncomputable def WhPost (I : Nat → Shared → Prop) (n : Nat) (R : Result → Shared → Prop) (f : Flow) (s₃ : Shared) : Prop := match f with
  | .brk => R (.ok .next) s₃
  | .ret v => R (.ok (.ret v)) s₃
  | _ => WhEnd I n s₃
theorem my_while {prog : Program} {w : World} {A : Around} {R : Result → Shared → Prop} {s : Shared} {test : Expr} {body : List Stmt} {env : Env} (I : Nat → Shared → Prop)
    (turn : ∀ n s, I n s → wpAny (model prog w) A (isTrue test env (eval test env)) (fun b s₂ =>
        if b then wpAny (model prog w) A (execs body env) (WhPost I n R) (notedBy (model prog w) A env fun e s' => R (.error e) s') s₂ else R (.ok .next) s₂)
        (notedBy (model prog w) A env fun e s' => R (.error e) s') s)
    (n : Nat) (h : I n s) : codeAny (model prog w) A (.whileLoop test body [] env) R s := by
  refine codeAny_whileLoop I (fun n s hI => ?_) n h
  refine wpAny_mono (turn n s hI) (fun b s₂ h₂ => ?_) fun _ _ e => e
  cases b with
  | false =>
    simp only [Bool.false_eq_true, if_false] at h₂ ⊢
    exact wpAny_execs_nil h₂
  | true =>
    simp only [if_true] at h₂ ⊢
    refine wpAny_mono h₂ (fun f s₃ h₃ => ?_) fun _ _ e => e
    cases f with
    | next => exact h₃.out
    | cont => exact h₃.out
    | brk => exact h₃
    | ret v => exact h₃
theorem with_hdL {h₀ h : Heap} {L a1 : Addr} {o : Obj} {r : Led} {P : Prop} (_ : News h₀ L h ((a1, o) :: r)) (q : ∀ b1 : Addr, b1 = a1 → P) : P := q a1 rfl
theorem fr_mapR {h₀ h : Heap} {L : Addr} {m m' : Str → Option Value} (F : Fr h₀ L h m) (e : m = m') : Fr h₀ L h m' := e ▸ F
noncomputable def lrScope : Scope := defScopeF (topStmtF 34)
noncomputable def lrStmt (i : Nat) : Stmt := nthStmtF (defBodyF (topStmtF 34)) i
noncomputable def lrThirds : Stmt := lrStmt 1
theorem run_thirds {w : World} {p : Program} {loose : List Str} {mean : ExcName → Option Value} {mg mb : Str → Option Value} {dp un : Nat} {gd : Option (List Code)} {cn : Str} {cs : Scope} {a : Addr} {ccd : Value} {cl : List (Str × Addr)} {outer : List Env} {base h₀ : Heap} {L L' : Addr} {m0 : Str → Option Value} {s : Shared} {Q : Flow → Shared → Prop} {E : Value → Shared → Prop} {o1 o2 o3 o4 : Obj} {oc th : Addr} {lam : Led} {n : Nat} {c0 c1 c2 c3 c4 c5 c6 c7 c8 : Int} {t0 t1 t2 t3 t4 t5 t6 t7 t8 : Tok}
    (B : Below (ktrTop dp un gd cn cs L a ccd cl outer) base (envX cn cs L a ccd cl :: outer) h₀) (X : (hd.heap_39 w.params).In h₀) (T : Top p loose mean mg mb h₀) (hk : cs.kind = .function) (hdp : dp + 80 < recursionLimit) (hun : un + 1600 < cLine)
    (ho : h₀.get? oc = some { cls := .type "list", data := .seq #[.int c0 t0, .int c1 t1, .int c2 t2, .int c3 t3, .int c4 t4, .int c5 t5, .int c6 t6, .int c7 t7, .int c8 t8] n })
    (F : Fr h₀ L' s.heap (fun y => if y = "thirds" then some (.ref th) else m0 y)) (N : News h₀ L' s.heap ((th, W.listOf #[] 0) :: (L' + 1 + 1 + 1 + 1, o4) :: (L' + 1 + 1 + 1, o3) :: (L' + 1 + 1, o2) :: (L' + 1, o1) :: lam)) (h0 : 0 ≤ c0) (h1 : 0 ≤ c1) (h2 : 0 ≤ c2) (h3 : 0 ≤ c3) (h4 : 0 ≤ c4) (ho1 : o1.data = Data.cell (some (.ref oc)))
    (hthl : ∀ p ∈ (L' + 1 + 1 + 1 + 1, o4) :: (L' + 1 + 1 + 1, o3) :: (L' + 1 + 1, o2) :: (L' + 1, o1) :: lam, @LT.lt Nat _ p.1 th)
    (hret : ∀ uC vs ts k h' tk, IntsAre vs ts → ts.length = 5 → ts.Nodup → (∀ x ∈ ts, 0 ≤ x ∧ x < 81) → Fr h₀ L' h' (fun y => if y = "cell" then uC else if y = "thirds" then some (.ref th) else m0 y) → News h₀ L' h' ((th, { cls := .type "list", data := .seq (List.toArray vs) k }) :: (L' + 1 + 1 + 1 + 1, o4) :: (L' + 1 + 1 + 1, o3) :: (L' + 1 + 1, o2) :: (L' + 1, o1) :: lam) → Q .next { s with heap := h', toks := tk })
    (hE : PassesOwn (model PySem.Challenge.pw_rt0090_01 w) ((ktrTop dp un gd cn cs L a ccd cl outer).deeper (envOfC "_law_run" lrScope L' 333 (.ref 332))) (envOfC "_law_run" lrScope L' 333 (.ref 332)) E) :
    wpAny (model PySem.Challenge.pw_rt0090_01 w) ((ktrTop dp un gd cn cs L a ccd cl outer).deeper (envOfC "_law_run" lrScope L' 333 (.ref 332))) (exec lrThirds (envOfC "_law_run" lrScope L' 333 (.ref 332))) Q E s := by
  revert B X T hk hdp hun ho F N h0 h1 h2 h3 h4 ho1 hthl hret hE
  revert w p loose mean mg mb dp un gd cn cs a ccd cl outer base h₀ L L' m0 s Q E o1 o2 o3 o4 oc th lam n c0 c1 c2 c3 c4 c5 c6 c7 c8 t0 t1 t2 t3 t4 t5 t6 t7 t8
  iterate 10 refine no_implicit_lambda% (Mine.pad1 ?_)
  refine' no_implicit_lambda% (Mine.hk59 ?ne ?_)
  case ne => (repeat' (first | (refine Mine.nePair ?_ ?_) | exact Mine.neWorld | exact Mine.neAround | exact Mine.neShared | infer_instance))
  generalize Mine.A11 _ = w; generalize Mine.A12 _ = p; generalize Mine.A13 _ = loose; generalize Mine.A14 _ = mean; generalize Mine.A15 _ = mg; generalize Mine.A16 _ = mb; generalize Mine.A17 _ = dp; generalize Mine.A18 _ = un; generalize Mine.A19 _ = gd; generalize Mine.A20 _ = cn; generalize Mine.A21 _ = cs; generalize Mine.A22 _ = a; generalize Mine.A23 _ = ccd; generalize Mine.A24 _ = cl; generalize Mine.A25 _ = outer; generalize Mine.A26 _ = base; generalize Mine.A27 _ = h₀; generalize Mine.A28 _ = L; generalize Mine.A29 _ = L'; generalize Mine.A30 _ = m0; generalize Mine.A31 _ = s; generalize Mine.A32 _ = Q; generalize Mine.A33 _ = E; generalize Mine.A34 _ = o1; generalize Mine.A35 _ = o2; generalize Mine.A36 _ = o3; generalize Mine.A37 _ = o4; generalize Mine.A38 _ = oc; generalize Mine.A39 _ = th; generalize Mine.A40 _ = lam; generalize Mine.A41 _ = n; generalize Mine.A42 _ = c0; generalize Mine.A43 _ = c1; generalize Mine.A44 _ = c2; generalize Mine.A45 _ = c3; generalize Mine.A46 _ = c4; generalize Mine.A47 _ = c5; generalize Mine.A48 _ = c6; generalize Mine.A49 _ = c7; generalize Mine.A50 _ = c8; generalize Mine.A51 _ = t0; generalize Mine.A52 _ = t1; generalize Mine.A53 _ = t2; generalize Mine.A54 _ = t3; generalize Mine.A55 _ = t4; generalize Mine.A56 _ = t5; generalize Mine.A57 _ = t6; generalize Mine.A58 _ = t7; generalize Mine.A59 _ = t8
  intro uHk
  clear uHk
  intro B X T hk hdp hun ho F N h0 h1 h2 h3 h4 ho1 hthl hret hE
  revert hE
  conv in (occs := *) lrScope => all_goals whnf
  conv in lrThirds => whnf
  intro hE
  (refine (let Akₘ : PySem.Around := _; (?_ : wpAny _ Akₘ _ _ _ _)))
  (refine PySem.wpAny_For ?_ (by first | (intro _; rfl) | (intro xₘ; rfl)))
  (repeat' (first | ((with_reducible show @ite Prop _ _ _ _); walk1) | (k_unfold; (try dsimp only)) | ((fail_if_success (with_reducible (refine Mine.stp 8 ?_ ?_; (focus ((repeat' constructor); done))))); (first | ((fail_if_success (with_reducible show @Exists _ _)); k_end; wrow_close) | walk1 | (dsimp only; walk1))) | ((fail_if_success (with_reducible show wpAny _ _ _ _ _ _)); dsimp only [Mine.MyPost]) | (leave1; try dsimp only) | fail "no step"))
  (k_here; k_dflt (refine' kms_slice_lit ?Fₘ ?Nₘ ?lₘ ?pₘ ?qₘ ?eₘ ?_ ?sₘ ?tₘ ?zₘ; (case Fₘ => k_asm); (case Nₘ => k_asm); (case lₘ => exact Mine.list_base (by k_asm) (by assumption)); (case pₘ => kmk_part); (case qₘ => kmk_part); (case eₘ => rfl); (case sₘ => with_unfolding_all rfl); (case tₘ => kmk_pure); (case zₘ => rw [sizeLine_eq]; simp)); intro D'ₘ h'ₘ F'ₘ N'ₘ l1ₘ; (try k_lt l1ₘ))
  try dsimp only
  ((with_reducible rename News _ _ _ _ => Nz); (with_reducible rename Fr _ _ _ _ => Fz))
  have Nz' := Nz
  refine with_hdL Nz fun D eD => ?_
  rw [← eD] at Nz'
  rename _ ∧ _ => l1
  rw [← eD] at l1
  rw [← eD]
  clear Nz
  refine with_map Fz fun m1 em => ?_
  have hrest : ∀ p ∈ (L' + 1 + 1 + 1 + 1, o4) :: (L' + 1 + 1 + 1, o3) :: (L' + 1 + 1, o2) :: (L' + 1, o1) :: lam, p.1 ≠ D ∧ p.1 ≠ th := fun p hp => ⟨by
      have h1 := hthl p hp
      have h2 := l1.1
      exact Nat.ne_of_lt (Nat.lt_trans h1 h2), Nat.ne_of_lt (hthl p hp)⟩
  obtain ⟨rest, hr⟩ : ∃ r, r = (L' + 1 + 1 + 1 + 1, o4) :: (L' + 1 + 1 + 1, o3) :: (L' + 1 + 1, o2) :: (L' + 1, o1) :: lam := ⟨_, rfl⟩
  rw [← hr] at Nz' hrest
  have hthD : th ≠ D := Nat.ne_of_lt l1.1
  refine iter_listL (l := D) (vs := [.int c0 t0, .int c1 t1, .int c2 t2, .int c3 t3, .int c4 t4]) (n := 0) (news := (th, W.listOf #[] 0) :: rest) (fun i m news => (∃ uC, m = fun (y : Str) => if y = "cell" then uC else m1 y) ∧
    ∃ vs ts k, news = (th, { cls := .type "list", data := .seq (List.toArray vs) k }) :: rest ∧ IntsAre vs ts ∧ ts.length = i ∧ ts.Nodup ∧ ∀ x ∈ ts, 0 ≤ x ∧ x < 81) rfl Fz Nz' ?_ ?_ ?_ ?_
  · intro p hp
    rcases List.mem_cons.mp hp with hp | hp
    · rw [hp]; exact hthD
    · exact (hrest p hp).1
  · exact ⟨⟨_, em.symm.trans (with_m1 (a := "cell") rfl)⟩, [], [], 0, rfl, .nil, rfl, .nil, fun _ h => nomatch h⟩
  · intro i v m₁ news₁ h₁ tk₁ I oI hv hJ36 hoff F2 N2
    (refine (let Gk : Prop := _; (?_ : Gk)))
    obtain ⟨⟨uC, rfl⟩, vs, ts, k, rfl, hvs, hts, hnd, hlt⟩ := hJ36
    have hi5 : i < 5 := by
      rcases Nat.lt_or_ge i 5 with q | q
      · exact q
      · rw [List.getElem?_eq_none (by simpa using q)] at hv; cases hv
    obtain ⟨ci, ti, rfl, hci⟩ : ∃ ci ti, v = .int ci ti ∧ 0 ≤ ci := by
      have : i = 0 ∨ i = 1 ∨ i = 2 ∨ i = 3 ∨ i = 4 := by lia
      rcases this with rfl | rfl | rfl | rfl | rfl <;> cases hv
      · exact ⟨_, _, rfl, h0⟩
      · exact ⟨_, _, rfl, h1⟩
      · exact ⟨_, _, rfl, h2⟩
      · exact ⟨_, _, rfl, h3⟩
      · exact ⟨_, _, rfl, h4⟩
    clear Fz Nz'
    ((show Gk); k_unfold; clear Gk)
    subst em
    dsimp only [envOf] at F2 N2
    (show wpAny _ _ _ _ _ _)
    k_fold
    (repeat' (first | ((with_reducible show @ite Prop _ _ _ _); walk1) | (k_unfold; (try dsimp only)) | ((fail_if_success (with_reducible (refine Mine.stp 8 ?_ ?_; (focus ((repeat' constructor); done))))); (first | ((fail_if_success (with_reducible show @Exists _ _)); k_end; wrow_close) | walk1 | (dsimp only; walk1))) | ((fail_if_success (with_reducible show wpAny _ _ _ _ _ _)); dsimp only [Mine.MyPost]) | (leave1; try dsimp only) | fail "no step"))
    ((with_reducible rename News _ _ _ _ => Nz); (with_reducible rename Fr _ _ _ _ => Fz))
    refine wpAny_execs_cons (wpAny_While ?_)
    refine with_map Fz fun m2 em2 => ?_
    have N3 := Nz
    obtain ⟨nw, hnw⟩ : ∃ z, z = (I, oI) :: (D, { cls := .type "list", data := .seq (List.toArray [.int c0 t0, .int c1 t1, .int c2 t2, .int c3 t3, .int c4 t4]) 0 }) :: (th, { cls := .type "list", data := .seq (List.toArray vs) k }) :: rest := ⟨_, rfl⟩
    rw [← hnw] at N3
    refine my_while (fun n s' => ∃ (j : Nat) (h : Heap) (tk t : Nat), n + j = 81 ∧ s' = { heap := h, gens := s.gens, drawn := s.drawn, toks := tk, os := s.os } ∧ (∀ i, i < j → (ci + (i : Nat)) % 81 ∈ ts) ∧ Fr h₀ L' h (fun (y : Str) => if y = "cell" then some (.int (ci + (j : Nat)) t) else m2 y) ∧ News h₀ L' h nw) ?_ 81 ?_
    · intro n s' hJ37
      (refine (let Gk : Prop := _; (?_ : Gk)))
      obtain ⟨j, h, tk, t, hnj, rfl, hvis, F4, N4⟩ := hJ37
      clear Fz N3 Nz
      have hj := visited_len (by lia) j hvis
      rw [hnw] at N4
      ((show Gk); k_unfold; clear Gk)
      subst em2
      dsimp only [envOf] at F4 N4
      (repeat' (first | ((with_reducible show @ite Prop _ _ _ _); walk1) | (k_unfold; (try dsimp only)) | ((fail_if_success (with_reducible (refine Mine.stp 8 ?_ ?_; (focus ((repeat' constructor); done))))); (first | ((fail_if_success (with_reducible show @Exists _ _)); k_end; wrow_close) | walk1 | (dsimp only; walk1))) | ((fail_if_success (with_reducible show wpAny _ _ _ _ _ _)); dsimp only [Mine.MyPost]) | (leave1; try dsimp only) | fail "no step"))
      try dsimp only
      ((with_reducible rename News _ _ _ _ => Nz); (with_reducible rename Fr _ _ _ _ => Fz))
      refine in_list_ints (lst_is (News.get Nz (by k_mem))) hvs ?_
      have hem : (ci + (j : Nat)).fmod 81 = (ci + (j : Nat)) % 81 := Int.fmod_eq_emod_of_nonneg _ (by decide)
      cases hb : ts.any (· == (ci + (j : Nat)).fmod 81)
      · (repeat' (first | ((with_reducible show @ite Prop _ _ _ _); walk1) | (k_unfold; (try dsimp only)) | ((fail_if_success (with_reducible (refine Mine.stp 8 ?_ ?_; (focus ((repeat' constructor); done))))); (first | ((fail_if_success (with_reducible show @Exists _ _)); k_end; wrow_close) | walk1 | (dsimp only; walk1))) | ((fail_if_success (with_reducible show wpAny _ _ _ _ _ _)); dsimp only [Mine.MyPost]) | (leave1; try dsimp only) | fail "no step"))
        ((with_reducible rename News _ _ _ _ => Nz); (with_reducible rename Fr _ _ _ _ => Fz))
        rw [hr] at Nz
        have Ny := Nz
        rw [← hr] at Ny
        have Nw := news_sub (news' := (th, { cls := .type "list", data := .seq (List.toArray vs) k }) :: (I, oI) :: (D, { cls := .type "list", data := .seq (List.toArray [.int c0 t0, .int c1 t1, .int c2 t2, .int c3 t3, .int c4 t4]) 0 }) :: rest) Ny (by (intro pₘ hpₘ; (repeat (rcases List.mem_cons.mp hpₘ with hqₘ | hpₘ; (focus (rw [hqₘ]; k_mem)))); (repeat (first | exact hpₘ | apply List.mem_cons_of_mem))))
        refine append_headL Fz Nw ?_ (by rw [hvs.length]; lia) (fun h11 F11 N11 => ?_)
        · intro p hp
          rcases List.mem_cons.mp hp with hp | hp
          · rw [hp]; exact Ne.symm (hoff _ (.head _)).1
          · rcases List.mem_cons.mp hp with hp | hp
            · rw [hp]; exact Ne.symm hthD
            · exact (hrest p hp).2
        · clear Fz Nz Ny Nw
          try dsimp only
          (repeat' (first | ((with_reducible show @ite Prop _ _ _ _); walk1) | (k_unfold; (try dsimp only)) | ((fail_if_success (with_reducible (refine Mine.stp 8 ?_ ?_; (focus ((repeat' constructor); done))))); (first | ((fail_if_success (with_reducible show @Exists _ _)); k_end; wrow_close) | walk1 | (dsimp only; walk1))) | ((fail_if_success (with_reducible show wpAny _ _ _ _ _ _)); dsimp only [Mine.MyPost]) | (leave1; try dsimp only) | fail "no step"))
          ((with_reducible rename News _ _ _ _ => Nz); (with_reducible rename Fr _ _ _ _ => Fz))
          have hnot : (ci + (j : Nat)).fmod 81 ∉ ts := fun hm => by
            have : ts.any (· == (ci + (j : Nat)).fmod 81) = true := List.any_eq_true.mpr ⟨_, hm, beq_self_eq_true _⟩
            rw [hb] at this; cases this
          refine MyEnd.intro (news' := (th, { cls := .type "list", data := .seq (List.toArray (vs ++ [.int ((ci + (j : Nat)).fmod 81) _])) (k + 1) }) :: rest) Fz Nz ⟨⟨_, by exact Mine.map1 (a := "cell") (by (repeat (first | exact Mine.Off.refl | (refine Mine.Off.upd (by first | exact .head _ | exact .tail _ (.head _) | exact .tail _ (.tail _ (.head _)) | exact .tail _ (.tail _ (.tail _ (.head _))) | exact .tail _ (.tail _ (.tail _ (.tail _ (.head _)))) | exact .tail _ (.tail _ (.tail _ (.tail _ (.tail _ (.head _)))))) ?_))))⟩, _, ts ++ [(ci + (j : Nat)).fmod 81], _, rfl, hvs.append (.cons _ _ .nil), by simp [hts], ?_, ?_⟩ (by (intro pₘ hpₘ; rcases List.mem_cons.mp hpₘ with hqₘ | hpₘ; (focus (rw [hqₘ]; k_mem)); rw [List.mem_singleton.mp hpₘ]; k_mem)) (by (intro pₘ hpₘ; (repeat (rcases List.mem_cons.mp hpₘ with hqₘ | hpₘ; (focus (rw [hqₘ]; k_mem)))); (repeat (first | exact hpₘ | apply List.mem_cons_of_mem)))) ?_
          · rw [List.nodup_append]
            exact ⟨hnd, by simp, fun a ha b hb q => hnot (by rw [← List.mem_singleton.mp hb, ← q]; exact ha)⟩
          · intro x hx
            rcases List.mem_append.mp hx with hx | hx
            · exact hlt x hx
            · rw [List.mem_singleton.mp hx, hem]
              exact ⟨Int.emod_nonneg _ (by decide), Int.emod_lt_of_pos _ (by decide)⟩
          · intro p hp q hq
            have : p.1 ≠ I ∧ p.1 ≠ D := by
              rcases List.mem_cons.mp hp with hp | hp
              · rw [hp]; exact hoff (th, { cls := .type "list", data := .seq vs.toArray k }) (.head _)
              · exact hoff p (.tail _ hp)
            rcases List.mem_cons.mp hq with hq | hq
            · rw [hq]; exact this.1
            · rw [List.mem_singleton.mp hq]; exact this.2
      · (repeat' (first | ((with_reducible show @ite Prop _ _ _ _); walk1) | (k_unfold; (try dsimp only)) | ((fail_if_success (with_reducible (refine Mine.stp 8 ?_ ?_; (focus ((repeat' constructor); done))))); (first | ((fail_if_success (with_reducible show @Exists _ _)); k_end; wrow_close) | walk1 | (dsimp only; walk1))) | ((fail_if_success (with_reducible show wpAny _ _ _ _ _ _)); dsimp only [Mine.MyPost]) | (leave1; try dsimp only) | fail "no step"))
        ((with_reducible rename News _ _ _ _ => Nz); (with_reducible rename Fr _ _ _ _ => Fz))
        show WhEnd _ _ _
        refine ⟨n - 1, by lia, j + 1, _, _, _, by lia, rfl, fun i hi => ?_, fr_mapR Fz (by rw [show ci + ((j + 1 : Nat) : Int) = ci + (j : Nat) + 1 by lia]; exact Mine.map1 (a := "cell") (by (repeat (first | exact Mine.Off.refl | (refine Mine.Off.upd (by first | exact .head _ | exact .tail _ (.head _) | exact .tail _ (.tail _ (.head _)) | exact .tail _ (.tail _ (.tail _ (.head _))) | exact .tail _ (.tail _ (.tail _ (.tail _ (.head _)))) | exact .tail _ (.tail _ (.tail _ (.tail _ (.tail _ (.head _)))))) ?_))))), by rw [hnw]; exact Nz⟩
        rcases Nat.lt_succ_iff_lt_or_eq.mp hi with q | rfl
        · exact hvis i q
        · rw [hem] at hb
          (refine (let Gk : Prop := _; (?_ : Gk)))
          obtain ⟨x, hx, e⟩ := List.any_eq_true.mp hb
          ((show Gk); k_unfold; clear Gk)
          rw [← beq_iff_eq.mp e]; exact hx
    · exact ⟨0, _, _, ti, rfl, rfl, fun _ h => absurd h (Nat.not_lt_zero _), fr_mapR Fz (by subst em2; rw [show ci + ((0 : Nat) : Int) = ci by lia]; exact Mine.map1 (a := "cell") (by (repeat (first | exact Mine.Off.refl | (refine Mine.Off.upd (by first | exact .head _ | exact .tail _ (.head _) | exact .tail _ (.tail _ (.head _)) | exact .tail _ (.tail _ (.tail _ (.head _))) | exact .tail _ (.tail _ (.tail _ (.tail _ (.head _)))) | exact .tail _ (.tail _ (.tail _ (.tail _ (.tail _ (.head _)))))) ?_))))), N3⟩
  · intro m₁ news₁ h tk hJ38 F2 N2
    (refine (let Gk : Prop := _; (?_ : Gk)))
    obtain ⟨⟨uC, rfl⟩, vs, ts, k, rfl, hvs, hts, hnd, hlt⟩ := hJ38
    ((show Gk); k_unfold; clear Gk)
    subst em
    dsimp only [envOf] at F2 N2
    rw [hr] at N2
    exact hret uC vs ts k _ _ hvs hts hnd hlt F2 N2
end Mine
namespace Mine
open PySem PySem.W PySem.Calls PyProof.Rows PySem.Spec
noncomputable def Off4 (I C X D : Addr) : Led → Prop
  | [] => True
  | p :: r => ((@Ne Nat p.1 I) ∧ (@Ne Nat p.1 C) ∧ (@Ne Nat p.1 X) ∧ (@Ne Nat p.1 D)) ∧ Off4 I C X D r
theorem Off4.mem {I C X D : Addr} {l : Led} (x : Off4 I C X D l) : ∀ p ∈ l, p.1 ≠ I ∧ p.1 ≠ C ∧ p.1 ≠ X ∧ p.1 ≠ D := by
  induction l with
  | nil => exact fun _ h => nomatch h
  | cons q r ih =>
    intro p h
    rcases List.mem_cons.mp h with rfl | h
    · exact x.1
    · exact ih x.2 p h
theorem Off4.of {I C X D : Addr} {l : Led} (h : ∀ p ∈ l, p.1 ≠ I ∧ p.1 ≠ C ∧ p.1 ≠ X ∧ p.1 ≠ D) : Off4 I C X D l := by
  induction l with
  | nil => exact trivial
  | cons q r ih => exact ⟨h _ List.mem_cons_self, ih fun p hp => h p (List.mem_cons_of_mem _ hp)⟩
theorem Off4.one {I C X D : Addr} {l : Led} (x : Off4 I C X D l) : LCg.Off1 D l := by
  induction l with
  | nil => exact trivial
  | cons q r ih => exact ⟨x.1.2.2.2, ih x.2⟩
structure CellEnd (h₀ : Heap) (L : Addr) (m : Str → Option Value) (s₁ : Shared) (I : Addr) (oI : Obj) (C : Addr) (oC : Obj) (X : Addr) (oX : Obj) (D : Addr) (oD : Obj) (S : Led → Prop) (rest : Value → Led → Prop) (y : Value) (s₂ : Shared) : Prop where
  out : ∃ h' tk news', s₂ = { s₁ with heap := h', toks := tk } ∧ Fr h₀ L h' m ∧ News h₀ L h' ((I, oI) :: (C, oC) :: (X, oX) :: (D, oD) :: news') ∧ Off4 I C X D news' ∧ S news' ∧ rest y news'
section
variable {prog : Program} {w : World} {A : Around} {E : Value → Shared → Prop} {s : Shared} {h₀ : Heap} {L : Addr} {m : Str → Option Value} {env : Env}
theorem wpAny_compEnv_cell {M : Model} {scope : Scope} {cl : List (Str × Addr)} {x : Str} {Q : Env → Shared → Prop} (hcs : ∀ n, cellsFrom n scope.names cl = (x, n) :: cl) (hpc : ∀ h, pushCells h scope.names = h.push { cls := .type "cell", data := .cell none })
    (h : Q { scope, locals := s.heap.objs.size, globals := env.globals, cells := (x, s.heap.objs.size + 1) :: cl, qual := env.qual, func := none, code := env.code, frame := env.frame, builtins := env.builtins }
      { s with heap := (s.heap.push { cls := .type "dict", data := .dict #[] }).push { cls := .type "cell", data := .cell none } }) :
    wpAny M A (newFunctionEnv scope env.globals cl [] env.qual none .none (some env)) Q E s := by
  simp only [newFunctionEnv, Option.isSome_some, if_true]
  refine wpAny_bind (wpAny_alloc ?_)
  refine wpAny_bind (wpAny_layCells _ (fun name kind cells => by cases hkc : kind == NameKind.cell <;> simp [hkc]) _ _ _ _ ?_)
  rw [hcs, hpc]
  rw [show ({ s with heap := s.heap.push { cls := .type "dict", data := .dict #[] } } : Shared).heap.objs.size = s.heap.objs.size + 1 from Heap.size_push ..]
  exact wpAny_bind (wpAny_pure (wpAny_pure h))
theorem block_cell {elt iter : Expr} {x : Str} {px : Pos} {scope : Scope} {cl : List (Str × Addr)} {pos : Pos} {s₂ : Shared} {I ax : Addr} {its : Array Value} {k : Nat} {news : Led} {RR : Value → Addr → Result → Shared → Prop} (hh : A.handled = none)
    (hcs : ∀ n, cellsFrom n scope.names cl = (x, n) :: cl) (hpc : ∀ h, pushCells h scope.names = h.push { cls := .type "cell", data := .cell none }) (hkind : scope.kind = .function) (hx : ∀ cl C, Env.kindOf (compEnvC scope cl C env) x = some .cell)
    (hit : s₂.heap.IsListIter I ax 0) (hsz : its.size ≤ sizeLine) (F : Fr h₀ L s₂.heap m) (N : News h₀ L s₂.heap news) (hm : (ax, ({ cls := .type "list", data := .seq its k } : Obj)) ∈ news) (hIL : L ≠ I) (hI₀ : h₀.get? I = none) (off : ∀ p ∈ news, p.1 ≠ I)
    (J : Nat → List Value → Led → Prop) (h0 : J 0 [] news)
    (step : ∀ i ys news₁, i < its.size → J i ys news₁ → ∀ v, its[i]? = some v → ∀ I oI C oC X oX D h tk (E' : Value → Shared → Prop), LCg.NsObj oC (fun _ => none) → oX.data = .cell (some v) → Fr h₀ L h m → News h₀ L h ((I, oI) :: (C, oC) :: (X, oX) :: (D, LCg.lst ys) :: news₁) → Off4 I C X D news₁ → (ax, ({ cls := .type "list", data := .seq its k } : Obj)) ∈ news₁ →
      ((@Ne Nat I C) ∧ (@Ne Nat I X) ∧ (@Ne Nat I D) ∧ (@Ne Nat C X) ∧ (@Ne Nat C D) ∧ (@Ne Nat X D)) →
      wpAny (model prog w) A (eval elt (compEnvC scope ((x, X) :: cl) C env)) (CellEnd h₀ L m { s₂ with heap := h, toks := tk } I oI C oC X oX D (LCg.lst ys) (fun nw => (ax, ({ cls := .type "list", data := .seq its k } : Obj)) ∈ nw) (fun y news' => J (i + 1) (ys ++ [y]) news')) E' { s₂ with heap := h, toks := tk })
    (hRR : ∀ D C h tk m' ys news', Fr h₀ L h m → News h₀ L h ((D, LCg.lst ys) :: news') → LCg.Off1 D news' → h.Ns C m' → h₀.get? C = none → h₀.get? D = none → C ≠ L → D ≠ L → C ≠ D → (∀ p ∈ news', p.1 ≠ C) → J its.size ys news' → RR (.ref D) C (.ok .next) { s₂ with heap := h, toks := tk }) :
    wpAny (model prog w) A (newList []) (fun acc s₃ => wpAny (model prog w) A (newFunctionEnv scope env.globals cl [] env.qual none .none (some env)) (fun cenv s₄ =>
      codeAny (model prog w) A (.compStart (.ListComp elt [⟨.Name x px, iter, [], 0⟩] scope pos) 0 (.ref I) acc { cenv with scope := relabel scope env }) (RR acc cenv.locals) s₄) E s₃) E s₂ := by
  revert RR hh hcs hpc hkind hx hit hsz F N hm hIL hI₀ off J h0 step hRR
  revert prog w A E h₀ L m env elt iter x px scope cl pos s₂ I ax its k news
  refine' no_implicit_lambda% (Mine.hk21 ?ne ?_)
  case ne => (repeat' (first | (refine Mine.nePair ?_ ?_) | exact Mine.neWorld | exact Mine.neAround | exact Mine.neShared | infer_instance))
  generalize Mine.A1 _ = prog; generalize Mine.A2 _ = w; generalize Mine.A3 _ = A; generalize Mine.A4 _ = E; generalize Mine.A5 _ = h₀; generalize Mine.A6 _ = L; generalize Mine.A7 _ = m; generalize Mine.A8 _ = env; generalize Mine.A9 _ = elt; generalize Mine.A10 _ = iter; generalize Mine.A11 _ = x; generalize Mine.A12 _ = px; generalize Mine.A13 _ = scope; generalize Mine.A14 _ = cl; generalize Mine.A15 _ = pos; generalize Mine.A16 _ = s₂; generalize Mine.A17 _ = I; generalize Mine.A18 _ = ax; generalize Mine.A19 _ = its; generalize Mine.A20 _ = k; generalize Mine.A21 _ = news
  intro uHk
  clear uHk
  intro RR hh hcs hpc hkind hx hit hsz F N hm hIL hI₀ off J h0 step hRR
  refine wpAny_newObj_type (wpAny_compEnv_cell hcs hpc ?_)
  try dsimp only
  generalize hH2 : s₂.heap.push { cls := .type "list", dict := none, data := .seq ([] : List Value).toArray } = H2
  have hD : H2.objs.size = s₂.heap.objs.size + 1 := by rw [← hH2, Heap.size_push]
  generalize hH3 : H2.push { cls := .type "dict", data := .dict #[] } = H3
  have hH3s : H3.objs.size = H2.objs.size + 1 := by rw [← hH3, Heap.size_push]
  generalize hH4 : H3.push { cls := .type "cell", data := .cell none } = H4
  generalize hDn : s₂.heap.objs.size = Dn
  generalize hCn : H2.objs.size = Cn
  obtain ⟨Xn, hXn⟩ : ∃ z : Nat, z = Cn + 1 := ⟨_, rfl⟩
  have e1 : Cn = Dn + 1 := by rw [← hCn, ← hDn]; exact hD
  have e2 : Xn = Dn + 1 + 1 := by rw [hXn, e1]
  have hIlt : I < Dn := by
    (refine (let Gk : Prop := _; (?_ : Gk)))
    obtain ⟨o, e, _⟩ := hit
    ((show Gk); k_unfold; clear Gk)
    rw [← hDn]; exact Heap.lt_size e
  have up2 : ∀ b o, s₂.heap.get? b = some o → H4.get? b = some o := fun b o e => by
    rw [← hH4, ← hH3, ← hH2]
    exact Heap.get?_push_of_some _ (Heap.get?_push_of_some _ (Heap.get?_push_of_some _ e))
  have gD : H4.get? Dn = some (LCg.lst []) := by
    rw [← hH4, ← hH3, ← hH2]
    exact Heap.get?_push_of_some _ (Heap.get?_push_of_some _ (hDn ▸ Heap.get?_push_size _ rfl))
  have gC : H4.Ns Cn (fun _ => none) := by
    have := (Heap.Ns.new H2 (.type "dict")).keeps (h' := H4) (fun b o e => by rw [← hH4]; rw [hH3] at e; exact Heap.get?_push_of_some _ e)
    rw [hCn] at this
    exact this
  have gX : H4.IsCell Xn none := by
    refine ⟨{ cls := .type "cell", data := .cell none }, ?_, rfl⟩
    rw [← hH4, hXn, ← hCn, ← hH3s]
    exact Heap.get?_push_size _ rfl
  have fresh : ∀ a : Addr, Dn ≤ a → s₂.heap.get? a = none := fun a ha => by
    cases e : s₂.heap.get? a with
    | none => rfl
    | some o' => exact absurd (Heap.lt_size e) (Nat.not_lt.mpr (by rw [hDn]; exact ha))
  have fresh₀ : ∀ a : Addr, Dn ≤ a → h₀.get? a = none := fun a ha => by
    cases e : h₀.get? a with
    | none => rfl
    | some o' => have := F.keep a o' e; rw [fresh a ha] at this; cases this
  have hD₀ : h₀.get? Dn = none := fresh₀ _ (Nat.le_refl _)
  have hC₀ : h₀.get? Cn = none := fresh₀ _ (by lia)
  have hX₀ : h₀.get? Xn = none := fresh₀ _ (by lia)
  have hLlt : L < Dn := by rw [← hDn]; exact F.ns.lt
  have nDL : Dn ≠ L := Nat.ne_of_gt hLlt
  have nCL : Cn ≠ L := Nat.ne_of_gt (by rw [e1]; exact Nat.lt_succ_of_lt hLlt)
  have nXL : Xn ≠ L := Nat.ne_of_gt (by rw [e2]; exact Nat.lt_succ_of_lt (Nat.lt_succ_of_lt hLlt))
  have nIC : I ≠ Cn := Nat.ne_of_lt (by rw [e1]; exact Nat.lt_succ_of_lt hIlt)
  have nIX : I ≠ Xn := Nat.ne_of_lt (by rw [e2]; exact Nat.lt_succ_of_lt (Nat.lt_succ_of_lt hIlt))
  have nID : I ≠ Dn := Nat.ne_of_lt hIlt
  have nCX : Cn ≠ Xn := by lia
  have nCD : Cn ≠ Dn := by lia
  have nXD : Xn ≠ Dn := by lia
  have off₀ : Off4 I Cn Xn Dn news := Off4.of fun p hp => by
    have hlt : p.1 < Dn := by rw [← hDn]; exact Heap.lt_size (N p hp).1
    exact ⟨off p hp, Nat.ne_of_lt (by rw [e1]; exact Nat.lt_succ_of_lt hlt), Nat.ne_of_lt (by rw [e2]; exact Nat.lt_succ_of_lt (Nat.lt_succ_of_lt hlt)), Nat.ne_of_lt hlt⟩
  have hax : ax < Dn := by rw [← hDn]; exact Heap.lt_size (N _ hm).1
  have naC : ax ≠ Cn := Nat.ne_of_lt (by rw [e1]; exact Nat.lt_succ_of_lt hax)
  have naX : ax ≠ Xn := Nat.ne_of_lt (by rw [e2]; exact Nat.lt_succ_of_lt (Nat.lt_succ_of_lt hax))
  have naD : ax ≠ Dn := Nat.ne_of_lt hax
  have naI : ax ≠ I := off _ hm
  have W := Walks.list (prog := prog) (w := w) hh I ax naI its
  have loop : ∀ s₃ : Shared, s₃ = { s₂ with heap := H4 } →
      codeAny (model prog w) A (.compLoop (.ListComp elt [⟨.Name x px, iter, [], 0⟩] scope pos) 0 (.ref I) (.ref Dn) (compEnvC scope ((x, Xn) :: cl) Cn env))
        (RR (.ref Dn) Cn) s₃ := by
    rintro s₃ rfl
    refine codeAny_compLoop_tests
      (fun k' s' => ∃ h' tk i ys news' v₀, s' = { s₂ with heap := h', toks := tk } ∧ i ≤ its.size ∧ k' = its.size + 1 - i ∧ ys.length = i ∧ h'.IsListIter I ax i ∧ Fr h₀ L h' m ∧ h'.Ns Cn (fun _ => none) ∧ h'.IsCell Xn v₀ ∧ News h₀ L h' ((Dn, LCg.lst ys) :: news') ∧
        Off4 I Cn Xn Dn news' ∧ (ax, ({ cls := .type "list", data := .seq its k } : Obj)) ∈ news' ∧ J i ys news') ?_ (its.size + 1)
      ⟨H4, _, 0, [], news, none, rfl, Nat.zero_le _, rfl, rfl, ?_, F.keeps up2, gC, gX, fun p hp => ?_, off₀, hm, h0⟩
    · intro k' s' hJ40
      (refine (let Gk : Prop := _; (?_ : Gk)))
      obtain ⟨h', tk, i, ys, news', v₀, rfl, hi, rfl, hyl, hst', F', hn', hX', N', off', hm', hJ'⟩ := hJ40
      have off3 := off'.mem
      have hls : h'.IsList ax its := ⟨_, (N' _ (.tail _ hm')).1, rfl, _, rfl⟩
      ((show Gk); k_unfold; clear Gk)
      by_cases hlt : i < its.size
      · refine W.item i _ _ _ hlt ⟨hst', hls⟩ fun v h₂ tk₂ hPv hst₂ hk₂ => ?_
        have hX2 : h₂.IsCell Xn v₀ := by obtain ⟨o, e, r⟩ := hX'; exact ⟨o, hk₂ _ _ (by simpa using Ne.symm nIX) e, r⟩
        have hn2 : h₂.Ns Cn (fun _ => none) := hn'.at' fun o e => hk₂ _ o (by simpa using Ne.symm nIC) e
        refine wpAny_assign_Name (wpAny_storeName_cell hkind (hx _ _) (show List.lookup x ((x, Xn) :: cl) = some Xn by simp) hX2 (fun h₃ hX3 hs₃ => ?_))
        refine wpAny_tests_nil ?_
        simp only [if_true]
        have F₃ : Fr h₀ L h₃ m := (LCg.fr_but F' hk₂ hIL hI₀).change hs₃ nXL hX₀
        have N₂ : News h₀ L h₂ ((Dn, LCg.lst ys) :: news') := LCg.news_but N' hk₂ fun p hp => by
          rcases List.mem_cons.mp hp with rfl | hp
          · exact Ne.symm nID
          · exact (off3 p hp).1
        (refine (let Gk : Prop := _; (?_ : Gk)))
        obtain ⟨oX, heX, hoX⟩ := hX3
        obtain ⟨oC, heC, hoC⟩ := LCg.ns_obj (hn2.sameBut hs₃ nCX)
        obtain ⟨oI, heI, hcI, hdI⟩ := hst₂.1
        have heI3 : h₃.get? I = some oI := hs₃.extBut _ _ nIX heI
        have N₃ : News h₀ L h₃ ((I, oI) :: (Cn, oC) :: (Xn, oX) :: (Dn, LCg.lst ys) :: news') := fun p hp => by
          rcases List.mem_cons.mp hp with rfl | hp
          · exact ⟨heI3, Ne.symm hIL, hI₀⟩
          rcases List.mem_cons.mp hp with rfl | hp
          · exact ⟨heC, nCL, hC₀⟩
          rcases List.mem_cons.mp hp with rfl | hp
          · exact ⟨heX, nXL, hX₀⟩
          have z := N₂ p hp
          refine ⟨hs₃.extBut _ _ ?_ z.1, z.2⟩
          rcases List.mem_cons.mp hp with rfl | hp
          · exact Ne.symm nXD
          · exact (off3 p hp).2.2.1
        ((show Gk); k_unfold; clear Gk)
        refine wpAny_mono (step i ys news' hlt hJ' v (by simpa using hPv) I oI Cn oC Xn oX Dn h₃ _ _ hoC hoX F₃ N₃ off' hm' ⟨nIC, nIX, nID, nCX, nCD, nXD⟩) (fun y s₄ hz₄ => ?_) fun _ _ e => e
        (refine (let Gk : Prop := _; (?_ : Gk)))
        obtain ⟨h₄, tk₄, news₄, rfl, F₄, N₄, off₄, hm₄, hJ₄⟩ := hz₄.out
        have zI := (N₄ (I, oI) (.head _)).1
        have zC := (N₄ (Cn, oC) (.tail _ (.head _))).1
        have zX := (N₄ (Xn, oX) (.tail _ (.tail _ (.head _)))).1
        have zD := (N₄ (Dn, LCg.lst ys) (.tail _ (.tail _ (.tail _ (.head _))))).1
        have N₄' : News h₀ L h₄ news₄ := fun p hp => N₄ p (.tail _ (.tail _ (.tail _ (.tail _ hp))))
        ((show Gk); k_unfold; clear Gk)
        refine append_at (hsz := by show ys.toArray.size ≤ sizeLine; rw [List.size_toArray, hyl]; exact Nat.le_trans hi hsz) zD fun h₅ hs₅ hD₅ => ?_
        have off4 := off₄.mem
        refine ⟨its.size + 1 - (i + 1), by lia, h₅, tk₄, i + 1, ys ++ [y], news₄, some v, rfl, hlt, rfl, by rw [List.length_append, List.length_singleton, hyl], ⟨oI, hs₅.extBut _ _ nID zI, hcI, hdI⟩, F₄.change hs₅ nDL hD₀,
          (hoC.ns zC).sameBut hs₅ nCD, ⟨oX, hs₅.extBut _ _ nXD zX, hoX⟩, fun p hp => ?_, off₄, hm₄, hJ₄⟩
        rcases List.mem_cons.mp hp with rfl | hp
        · exact ⟨hD₅.trans (congrArg some (LCg.lst_snoc ys y)), nDL, hD₀⟩
        · exact ⟨hs₅.extBut _ _ (off4 p hp).2.2.2 (N₄' p hp).1, (N₄' p hp).2⟩
      · obtain rfl : i = its.size := Nat.le_antisymm hi (Nat.not_lt.mp hlt)
        refine W.done _ _ _ ⟨hst', hls⟩ fun h₂ tk₂ hk₂ => ?_
        exact hRR _ _ h₂ tk₂ _ ys news' (LCg.fr_but F' hk₂ hIL hI₀) (LCg.news_but N' hk₂ fun p hp => by
          rcases List.mem_cons.mp hp with rfl | hp
          · exact Ne.symm nID
          · exact (off3 p hp).1) off'.one (hn'.at' fun o e => hk₂ _ o (by simpa using Ne.symm nIC) e) hC₀ hD₀ nCL nDL nCD (fun p hp => (off3 p hp).2.1) hJ'
    · (refine (let Gk : Prop := _; (?_ : Gk)))
      obtain ⟨o, e, r⟩ := hit
      ((show Gk); k_unfold; clear Gk)
      exact ⟨o, up2 _ _ e, r⟩
    · rcases List.mem_cons.mp hp with rfl | hp
      · exact ⟨gD, nDL, hD₀⟩
      · exact ⟨up2 _ _ (N p hp).1, (N p hp).2⟩
  rw [← hXn]
  refine codeAny_compStart_list (loop _ rfl) ?_
  refine W.self 0 _ _ _ ⟨?_, ?_⟩ (loop _ rfl)
  · (refine (let Gk : Prop := _; (?_ : Gk)))
    obtain ⟨o, e, r⟩ := hit
    ((show Gk); k_unfold; clear Gk)
    exact ⟨o, up2 _ _ e, r⟩
  · exact ⟨_, up2 _ _ (N _ hm).1, rfl, _, rfl⟩
end
end Mine
namespace Mine
open PySem PySem.W PySem.Calls PyProof.Rows PySem.Spec
section
variable {prog : Program} {w : World} {A : Around} {E : Value → Shared → Prop} {s : Shared} {h₀ : Heap} {L : Addr} {m : Str → Option Value} {env : Env}
noncomputable def SrcCell (prog : Program) (w : World) (A : Around) (h₀ : Heap) (L : Addr) (m : Str → Option Value) (env : Env) (elt : Expr) (x : Str) (scope : Scope) (cl : List (Str × Addr)) (Fin : List Value → Led → Prop) (xv : Value) (s₁ : Shared) : Prop :=
  ∃ ax its k news, xv = .ref ax ∧ A.handled = none ∧ Fr h₀ L s₁.heap m ∧ News h₀ L s₁.heap news ∧ (ax, ({ cls := .type "list", data := .seq its k } : Obj)) ∈ news ∧ its.size ≤ sizeLine ∧
    ∃ J : Nat → List Value → Led → Prop, J 0 [] news ∧
    (∀ i ys news₁, i < its.size → J i ys news₁ → ∀ v, its[i]? = some v → ∀ I oI C oC X oX D h tk (E' : Value → Shared → Prop), LCg.NsObj oC (fun _ => none) → oX.data = .cell (some v) → Fr h₀ L h m → News h₀ L h ((I, oI) :: (C, oC) :: (X, oX) :: (D, LCg.lst ys) :: news₁) → Off4 I C X D news₁ → (ax, ({ cls := .type "list", data := .seq its k } : Obj)) ∈ news₁ →
      ((@Ne Nat I C) ∧ (@Ne Nat I X) ∧ (@Ne Nat I D) ∧ (@Ne Nat C X) ∧ (@Ne Nat C D) ∧ (@Ne Nat X D)) →
      wpAny (model prog w) A (eval elt (compEnvC scope ((x, X) :: cl) C env)) (CellEnd h₀ L m { s₁ with heap := h, toks := tk } I oI C oC X oX D (LCg.lst ys) (fun nw => (ax, ({ cls := .type "list", data := .seq its k } : Obj)) ∈ nw) (fun y news' => J (i + 1) (ys ++ [y]) news')) E' { s₁ with heap := h, toks := tk }) ∧
    (∀ ys news₁, J its.size ys news₁ → Fin ys news₁)
theorem assign_comp_cell {elt iter : Expr} {x y : Str} {px py : Pos} {scope : Scope} {cl : List (Str × Addr)} {pos spos : Pos} {Q : Flow → Shared → Prop} (F₀ : Fr h₀ L s.heap m) (hLe : env.locals = L)
    (hsw : swapsWith (.ListComp elt [⟨.Name x px, iter, [], 0⟩] scope pos) (some (.Name y py)) spos.line env = pure true)
    (hclos : closureFor scope env = pure cl) (hkind : scope.kind = .function)
    (hnames : ∀ z ∈ scope.names, z.2 = .local → scope.names.lookup z.1 = some .local)
    (hcs : ∀ n, cellsFrom n scope.names cl = (x, n) :: cl) (hpc : ∀ h, pushCells h scope.names = h.push { cls := .type "cell", data := .cell none }) (hx : ∀ cl C, Env.kindOf (compEnvC scope cl C env) x = some .cell)
    (hy : env.kindOf y = some .local) (hp : (env.scope.kind == .class || (env.scope.kind == .module && env.locals != env.globals)) = false)
    (h : wpAny (model prog w) A (eval iter env) (fun xv s₁ => SrcCell prog w A h₀ L m env elt x scope cl (LCg.FinA h₀ L m s₁ y Q) xv s₁) E s)
    (hs : ∀ x, foldedSetIterable iter env x = pure x := by intro _; rfl) :
    wpAny (model prog w) A (exec (.Assign [.Name y py] (.ListComp elt [⟨.Name x px, iter, [], 0⟩] scope pos) spos) env) Q E s := by
  revert F₀ hLe hsw hclos hkind hnames hcs hpc hx hy hp h hs
  revert prog w A E s h₀ L m env elt iter x y px py scope cl pos spos Q
  iterate 1 refine no_implicit_lambda% (Mine.pad1 ?_)
  refine' no_implicit_lambda% (Mine.hk21 ?ne ?_)
  case ne => (repeat' (first | (refine Mine.nePair ?_ ?_) | exact Mine.neWorld | exact Mine.neAround | exact Mine.neShared | infer_instance))
  generalize Mine.A2 _ = prog; generalize Mine.A3 _ = w; generalize Mine.A4 _ = A; generalize Mine.A5 _ = E; generalize Mine.A6 _ = s; generalize Mine.A7 _ = h₀; generalize Mine.A8 _ = L; generalize Mine.A9 _ = m; generalize Mine.A10 _ = env; generalize Mine.A11 _ = elt; generalize Mine.A12 _ = iter; generalize Mine.A13 _ = x; generalize Mine.A14 _ = y; generalize Mine.A15 _ = px; generalize Mine.A16 _ = py; generalize Mine.A17 _ = scope; generalize Mine.A18 _ = cl; generalize Mine.A19 _ = pos; generalize Mine.A20 _ = spos; generalize Mine.A21 _ = Q
  intro uHk
  clear uHk
  intro F₀ hLe hsw hclos hkind hnames hcs hpc hx hy hp h hs
  subst hLe
  rw [exec_Assign_Name_used _ _ _ _ hsw]
  refine wpAny_bind (wpAny_standAt (wpAny_bind ?_))
  show wpAny _ A (do let _ ← comprehension (.ListComp elt [⟨.Name x px, iter, [], 0⟩] scope pos) scope env _ (newList []) false (eval iter env) (some (assign (.Name y py) env))) _ _ s
  refine wpAny_bind (wpAny_mono (wpAny_comprehension_free (use := some (assign (.Name y py) env)) (Q := fun _ s' => Q .next s') rfl hs hclos hkind hnames
    (wpAny_mono h (fun xv s₁ h₁ => ?_) fun _ _ e => e)) (fun _ s' hq => wpAny_pure (wpAny_pure hq)) fun _ _ e => e)
  (refine (let Gk : Prop := _; (?_ : Gk)))
  obtain ⟨ax, its, k, news, rfl, hh, F, N, hm, hsz, J, hJ0, step, fin⟩ := h₁
  have hl : s₁.heap.IsList ax its := ⟨_, (N _ hm).1, rfl, k, rfl⟩
  have hlt : ax < s₁.heap.objs.size := by obtain ⟨_, e, _⟩ := hl; exact Heap.lt_size e
  ((show Gk); k_unfold; clear Gk)
  refine wpAny_pyIter_list hl ?_
  have up : ∀ b o, s₁.heap.get? b = some o → (s₁.heap.push { cls := .type "list_iterator", data := .fields #[.ref ax, .int 0 0] }).get? b = some o := fun b o e => Heap.get?_push_of_some _ e
  refine block_cell hh hcs hpc hkind hx (k := k) ⟨_, Heap.get?_push_size _ rfl, rfl, rfl⟩ hsz (F.keeps up) (N.grown up) hm (Nat.ne_of_lt F.ns.lt) (next_is_new F) (fun p hp => Nat.ne_of_lt (Heap.lt_size (N p hp).1)) J hJ0 step ?_
  intro D C h' tk m' ys news' F' N' o1 hn hC₀ hD₀ hCL hDL hCD offC hJ
  show wpAny _ A (assign (.Name y py) env (.ref D)) _ _ _
  refine wpAny_assign_Name (wpAny_storeName_local hy F'.ns (fun h₂ hn₂ hs₂ => ?_) hp)
  have hL₀ : h₀.get? env.locals = none := Heap.get?_none_of_le F'.above
  have F₂ : Fr h₀ env.locals h₂ (fun z => if z = y then some (.ref D) else m z) := ⟨hn₂, fun b o e => hs₂.extBut b o (fun q => by rw [q, hL₀] at e; cases e) (F'.keep b o e), F'.above⟩
  refine ⟨m', hn.sameBut hs₂ hCL, fun h'' hs'' => fin ys news' hJ D h'' _ (F₂.change hs'' hCL hC₀) (fun p hp => ?_) o1⟩
  have z : h₂.get? p.1 = some p.2 := hs₂.extBut _ _ (N' p hp).2.1 (N' p hp).1
  refine ⟨hs''.extBut _ _ ?_ z, (N' p hp).2⟩
  rcases List.mem_cons.mp hp with rfl | hp
  · exact Ne.symm hCD
  · exact offC p hp
theorem eval_comp_cell {elt iter : Expr} {x : Str} {px : Pos} {scope : Scope} {cl : List (Str × Addr)} {pos : Pos} {Q : Value → Shared → Prop} (F₀ : Fr h₀ L s.heap m)
    (hclos : closureFor scope env = pure cl) (hkind : scope.kind = .function)
    (hnames : ∀ z ∈ scope.names, z.2 = .local → scope.names.lookup z.1 = some .local)
    (hcs : ∀ n, cellsFrom n scope.names cl = (x, n) :: cl) (hpc : ∀ h, pushCells h scope.names = h.push { cls := .type "cell", data := .cell none }) (hx : ∀ cl C, Env.kindOf (compEnvC scope cl C env) x = some .cell)
    (h : wpAny (model prog w) A (eval iter env) (fun xv s₁ => SrcCell prog w A h₀ L m env elt x scope cl (LCg.FinE h₀ L m s₁ Q) xv s₁) E s)
    (hs : ∀ x, foldedSetIterable iter env x = pure x := by intro _; rfl) :
    wpAny (model prog w) A (eval (.ListComp elt [⟨.Name x px, iter, [], 0⟩] scope pos) env) Q E s := by
  revert F₀ hclos hkind hnames hcs hpc hx h hs
  revert prog w A E s h₀ L m env elt iter x px scope cl pos Q
  iterate 4 refine no_implicit_lambda% (Mine.pad1 ?_)
  refine' no_implicit_lambda% (Mine.hk21 ?ne ?_)
  case ne => (repeat' (first | (refine Mine.nePair ?_ ?_) | exact Mine.neWorld | exact Mine.neAround | exact Mine.neShared | infer_instance))
  generalize Mine.A5 _ = prog; generalize Mine.A6 _ = w; generalize Mine.A7 _ = A; generalize Mine.A8 _ = E; generalize Mine.A9 _ = s; generalize Mine.A10 _ = h₀; generalize Mine.A11 _ = L; generalize Mine.A12 _ = m; generalize Mine.A13 _ = env; generalize Mine.A14 _ = elt; generalize Mine.A15 _ = iter; generalize Mine.A16 _ = x; generalize Mine.A17 _ = px; generalize Mine.A18 _ = scope; generalize Mine.A19 _ = cl; generalize Mine.A20 _ = pos; generalize Mine.A21 _ = Q
  intro uHk
  clear uHk
  intro F₀ hclos hkind hnames hcs hpc hx h hs
  rw [eval_ListComp]
  refine wpAny_comprehension_free (use := none) rfl hs hclos hkind hnames (wpAny_mono h (fun xv s₁ h₁ => ?_) fun _ _ e => e)
  (refine (let Gk : Prop := _; (?_ : Gk)))
  obtain ⟨ax, its, k, news, rfl, hh, F, N, hm, hsz, J, hJ0, step, fin⟩ := h₁
  have hl : s₁.heap.IsList ax its := ⟨_, (N _ hm).1, rfl, k, rfl⟩
  have hlt : ax < s₁.heap.objs.size := by obtain ⟨_, e, _⟩ := hl; exact Heap.lt_size e
  ((show Gk); k_unfold; clear Gk)
  refine wpAny_pyIter_list hl ?_
  have up : ∀ b o, s₁.heap.get? b = some o → (s₁.heap.push { cls := .type "list_iterator", data := .fields #[.ref ax, .int 0 0] }).get? b = some o := fun b o e => Heap.get?_push_of_some _ e
  refine block_cell hh hcs hpc hkind hx (k := k) ⟨_, Heap.get?_push_size _ rfl, rfl, rfl⟩ hsz (F.keeps up) (N.grown up) hm (Nat.ne_of_lt F.ns.lt) (next_is_new F) (fun p hp => Nat.ne_of_lt (Heap.lt_size (N p hp).1)) J hJ0 step ?_
  intro D C h' tk m' ys news' F' N' o1 hn hC₀ hD₀ hCL hDL hCD offC hJ
  refine ⟨m', hn, fun h'' hs'' => fin ys news' hJ D h'' tk (F'.change hs'' hCL hC₀) (fun p hp => ?_) o1⟩
  refine ⟨hs''.extBut _ _ ?_ (N' p hp).1, (N' p hp).2⟩
  rcases List.mem_cons.mp hp with rfl | hp
  · exact Ne.symm hCD
  · exact offC p hp
end
end Mine
namespace Mine
open PySem PySem.W PySem.Calls PyProof.Rows Builtin Builtin.Str
noncomputable def upC (d : Nat) : Nat := if d < 10 then 48 + d else 55 + d
noncomputable def path (ds : List Nat) : Str := ⟨(ds.flatMap fun d => [47, upC d]).toArray⟩
theorem upC_ne (d : Nat) : upC d ≠ 47 := by unfold upC; split <;> lia
theorem upC_inj {a b : Nat} (ha : a < 16) (hb : b < 16) (h : upC a = upC b) : a = b := by unfold upC at h; split at h <;> split at h <;> lia
theorem upC_plain {d : Nat} (h : d < 16) : 32 ≤ upC d ∧ upC d < 127 := by unfold upC; split <;> lia
theorem path_len (ds : List Nat) : (path ds).length = 2 * ds.length := by
  show (ds.flatMap _).toArray.size = _
  rw [List.size_toArray]
  induction ds with
  | nil => rfl
  | cons a r ih => rw [List.flatMap_cons, List.length_append, ih]; simp only [List.length_cons, List.length_nil]; lia
theorem path_plain {ds : List Nat} (h : ∀ d ∈ ds, d < 16) : ∀ c ∈ (path ds).cps.toList, 32 ≤ c ∧ c < 127 := by
  intro c hc
  (refine (let Gk : Prop := _; (?_ : Gk)))
  obtain ⟨d, hd, hc⟩ := List.mem_flatMap.mp (show c ∈ ds.flatMap fun d => [47, upC d] from hc)
  simp only [List.mem_cons, List.not_mem_nil, or_false] at hc
  ((show Gk); k_unfold; clear Gk)
  rcases hc with rfl | rfl
  · lia
  · exact upC_plain (h d hd)
theorem flat_take : ∀ (ds : List Nat) (k : Nat), (ds.flatMap fun d => [47, upC d]).take (2 * k) = (ds.take k).flatMap fun d => [47, upC d]
  | [], k => by simp
  | a :: r, 0 => by simp
  | a :: r, k + 1 => by
    show List.take (2 * k + 1 + 1) (47 :: upC a :: (r.flatMap fun d => [47, upC d])) = _
    rw [List.take_succ_cons, List.take_succ_cons, flat_take r k]
    rfl
theorem take_all {α : Type} (xs : List α) (k : Nat) : List.filterMap (fun i => xs[i]?) (List.range (min k xs.length)) = xs.take k := by
  induction xs generalizing k with
  | nil => simp
  | cons a r ih =>
    cases k with
    | zero => simp
    | succ k =>
      rw [List.length_cons, Nat.succ_min_succ, List.range_succ_eq_map, List.filterMap_cons]
      simp only [List.getElem?_cons_zero, List.filterMap_map, Function.comp_def, List.getElem?_cons_succ, List.take_succ_cons]
      rw [ih]
theorem slice_take (x : Str) (k : Nat) : Txt.slice x none (some (k : Int)) = ⟨(x.cps.toList.take k).toArray⟩ := by
  revert x k
  iterate 2 refine no_implicit_lambda% (Mine.pad1 ?_)
  refine' no_implicit_lambda% (Mine.hk4 ?ne ?_)
  case ne => (repeat' (first | (refine Mine.nePair ?_ ?_) | exact Mine.neWorld | exact Mine.neAround | exact Mine.neShared | infer_instance))
  generalize Mine.A3 _ = x; generalize Mine.A4 _ = k
  intro uHk
  clear uHk
  obtain ⟨xs⟩ := x
  have e : strSliceIndices none (some (k : Int)) 1 (Str.length ⟨xs⟩) = List.range (min k xs.size) := by
    unfold strSliceIndices sliceRange
    have h1 : ¬ ((k : Int) < 0) := by lia
    simp only [show (1 : Int) > 0 by decide, if_true, h1, if_false, Int.ediv_one]
    show List.map _ (List.range (if 0 < max 0 (min (k : Int) (xs.size : Int)) then max 0 (min (k : Int) (xs.size : Int)) - 0 + 1 - 1 else 0).toNat) = _
    rw [show (if 0 < max 0 (min (k : Int) (xs.size : Int)) then max 0 (min (k : Int) (xs.size : Int)) - 0 + 1 - 1 else 0).toNat = min k xs.size by split <;> lia]
    refine (List.map_congr_left fun a _ => ?_).trans (List.map_id _)
    simp
  unfold Txt.slice
  rw [e]
  have e2 : List.filterMap (fun i => xs[i]?) (List.range (min k xs.size)) = xs.toList.take k := by
    have := take_all xs.toList k
    simpa using this
  split
  · rename_i h
    simp only [beq_self_eq_true, Bool.true_and, List.length_range, beq_iff_eq] at h
    congr 1
    have : xs.size ≤ k := by
      have h' : min k xs.size = xs.size := h
      lia
    rw [List.take_of_length_le (by simpa using this)]
  · show Str.mk (List.filterMap (fun i => xs[i]?) _).toArray = _
    rw [e2]
theorem path_slice (ds : List Nat) (k : Nat) : Txt.slice (path ds) none (some (2 * (k : Int))) = path (ds.take k) := by
  have := slice_take (path ds) (2 * k)
  rw [show ((2 * k : Nat) : Int) = 2 * (k : Int) by lia] at this
  rw [this]
  unfold path
  rw [← flat_take]
theorem path_inj : ∀ {ds es : List Nat}, (∀ d ∈ ds, d < 16) → (∀ d ∈ es, d < 16) → path ds = path es → ds = es := by
  intro ds es h1 h2 h
  have h : ds.flatMap (fun d => [47, upC d]) = es.flatMap (fun d => [47, upC d]) := by
    have := congrArg (fun s : Str => s.cps.toList) h
    simpa [path] using this
  induction ds generalizing es with
  | nil => cases es with
    | nil => rfl
    | cons b r => simp at h
  | cons a r ih => cases es with
    | nil => simp at h
    | cons b q =>
      simp only [List.flatMap_cons, List.cons_append, List.nil_append, List.cons.injEq, true_and] at h
      rw [upC_inj (h1 _ (.head _)) (h2 _ (.head _)) h.1, ih (fun d hd => h1 d (.tail _ hd)) (fun d hd => h2 d (.tail _ hd)) ?_ h.2]
      · unfold path; rw [h.2]
theorem lowC_inj {a b : Nat} (ha : a < 16) (hb : b < 16) (h : lo1 (upC a) = lo1 (upC b)) : a = b := by
  revert h; revert b; revert a; decide
theorem path_lower {ds : List Nat} (h : ∀ d ∈ ds, d < 16) : Txt.lower (path ds) = ⟨(ds.flatMap fun d => [47, lo1 (upC d)]).toArray⟩ := by
  rw [lower_ascii fun c hc => by have := (path_plain h c hc).2; lia]
  unfold path
  simp only [List.map_toArray, List.map_flatMap, List.map_cons, List.map_nil]
  rfl
theorem path_lower_inj {ds es : List Nat} (h1 : ∀ d ∈ ds, d < 16) (h2 : ∀ d ∈ es, d < 16) (h : Txt.lower (path ds) = Txt.lower (path es)) : ds = es := by
  have h' := h
  rw [path_lower h1, path_lower h2] at h'
  clear h
  have h : ds.flatMap (fun d => [47, lo1 (upC d)]) = es.flatMap (fun d => [47, lo1 (upC d)]) := by
    have := congrArg (fun s : Str => s.cps.toList) h'
    simpa using this
  clear h'
  induction ds generalizing es with
  | nil => cases es with
    | nil => rfl
    | cons b r => simp at h
  | cons a r ih => cases es with
    | nil => simp at h
    | cons b q =>
      simp only [List.flatMap_cons, List.cons_append, List.nil_append, List.cons.injEq, true_and] at h
      rw [lowC_inj (h1 _ (.head _)) (h2 _ (.head _)) h.1, ih (fun d hd => h1 d (.tail _ hd)) (fun d hd => h2 d (.tail _ hd)) h.2]
theorem lo1_idem (c : Nat) : lo1 (lo1 c) = lo1 c := by unfold lo1; split <;> (try split) <;> lia
theorem lower_lower {x : Str} (h : ∀ c ∈ x.cps.toList, 32 ≤ c ∧ c < 127) : Txt.lower (Txt.lower x) = Txt.lower x := by
  have hA : ∀ c ∈ x.cps.toList, c < 128 := fun c hc => by have := (h c hc).2; lia
  have e := lower_ascii hA
  have hB : ∀ c ∈ (Txt.lower x).cps.toList, c < 128 := by
    rw [e]
    intro c hc
    simp only [Array.toList_map, List.mem_map] at hc
    (refine (let Gk : Prop := _; (?_ : Gk)))
    obtain ⟨b, hb, rfl⟩ := hc
    have := h b hb
    ((show Gk); k_unfold; clear Gk)
    unfold lo1
    split <;> lia
  rw [lower_ascii hB, e]
  simp [lo1_idem]
theorem sub_path (xs : Array Nat) (i : Nat) : subAt ⟨xs⟩ "/" i = (xs[i]? == some 47) := by
  unfold subAt
  rw [show ((Str.ofString "/").length) = 1 by decide +kernel, show (Str.ofString "/").cps = #[47] by decide +kernel]
  by_cases h : i < xs.size
  · have : xs.extract i (i + 1) = #[xs[i]] := by
      apply Array.ext
      · simp; lia
      · intro j h1 h2
        simp at h1 h2 ⊢
        have : j = 0 := by lia
        subst this
        simp
    rw [this]
    simp [h]
  · have : xs.extract i (i + 1) = #[] := by
      apply Array.eq_empty_of_size_eq_zero
      simp; lia
    rw [this]
    simp [h]
end Mine
namespace Mine
open PySem PySem.W PySem.Calls PyProof.Rows Builtin Builtin.Str
theorem rfind1 (a : Nat) : Txt.rfind (path [a]) "/" = 0 := by
  have h (x : Nat) : (upC x = 47) = False := eq_false (upC_ne x)
  show (match lastOccurrence ⟨#[47, upC a]⟩ "/" 0 2 with | some i => (i : Int) | none => -1) = _
  unfold lastOccurrence
  simp only [Std.Legacy.Range.forIn_eq_forIn_range', Std.Legacy.Range.size, List.range', List.forIn_cons, List.forIn_nil, show ((2 + 1 - 0 + 1 - 1) / 1 : Nat) = 3 from rfl, sub_path, show ((Str.ofString "/").length) = 1 by decide +kernel]
  simp [h]
theorem rfind2 (a b : Nat) : Txt.rfind (path [a, b]) "/" = 2 := by
  revert a b
  iterate 2 refine no_implicit_lambda% (Mine.pad1 ?_)
  refine' no_implicit_lambda% (Mine.hk4 ?ne ?_)
  case ne => (repeat' (first | (refine Mine.nePair ?_ ?_) | exact Mine.neWorld | exact Mine.neAround | exact Mine.neShared | infer_instance))
  generalize Mine.A3 _ = a; generalize Mine.A4 _ = b
  intro uHk
  clear uHk
  have h (x : Nat) : (upC x = 47) = False := eq_false (upC_ne x)
  show (match lastOccurrence ⟨#[47, upC a, 47, upC b]⟩ "/" 0 4 with | some i => (i : Int) | none => -1) = _
  unfold lastOccurrence
  simp only [Std.Legacy.Range.forIn_eq_forIn_range', Std.Legacy.Range.size, List.range', List.forIn_cons, List.forIn_nil, show ((4 + 1 - 0 + 1 - 1) / 1 : Nat) = 5 from rfl, sub_path, show ((Str.ofString "/").length) = 1 by decide +kernel]
  simp [h]
theorem rfind3 (a b c : Nat) : Txt.rfind (path [a, b, c]) "/" = 4 := by
  revert a b c
  iterate 1 refine no_implicit_lambda% (Mine.pad1 ?_)
  refine' no_implicit_lambda% (Mine.hk4 ?ne ?_)
  case ne => (repeat' (first | (refine Mine.nePair ?_ ?_) | exact Mine.neWorld | exact Mine.neAround | exact Mine.neShared | infer_instance))
  generalize Mine.A2 _ = a; generalize Mine.A3 _ = b; generalize Mine.A4 _ = c
  intro uHk
  clear uHk
  have h (x : Nat) : (upC x = 47) = False := eq_false (upC_ne x)
  show (match lastOccurrence ⟨#[47, upC a, 47, upC b, 47, upC c]⟩ "/" 0 6 with | some i => (i : Int) | none => -1) = _
  unfold lastOccurrence
  simp only [Std.Legacy.Range.forIn_eq_forIn_range', Std.Legacy.Range.size, List.range', List.forIn_cons, List.forIn_nil, show ((6 + 1 - 0 + 1 - 1) / 1 : Nat) = 7 from rfl, sub_path, show ((Str.ofString "/").length) = 1 by decide +kernel]
  simp [h]
theorem rfind4 (a b c d : Nat) : Txt.rfind (path [a, b, c, d]) "/" = 6 := by
  revert a b c d
  refine' no_implicit_lambda% (Mine.hk4 ?ne ?_)
  case ne => (repeat' (first | (refine Mine.nePair ?_ ?_) | exact Mine.neWorld | exact Mine.neAround | exact Mine.neShared | infer_instance))
  generalize Mine.A1 _ = a; generalize Mine.A2 _ = b; generalize Mine.A3 _ = c; generalize Mine.A4 _ = d
  intro uHk
  clear uHk
  have h (x : Nat) : (upC x = 47) = False := eq_false (upC_ne x)
  show (match lastOccurrence ⟨#[47, upC a, 47, upC b, 47, upC c, 47, upC d]⟩ "/" 0 8 with | some i => (i : Int) | none => -1) = _
  unfold lastOccurrence
  simp only [Std.Legacy.Range.forIn_eq_forIn_range', Std.Legacy.Range.size, List.range', List.forIn_cons, List.forIn_nil, show ((8 + 1 - 0 + 1 - 1) / 1 : Nat) = 9 from rfl, sub_path, show ((Str.ofString "/").length) = 1 by decide +kernel]
  simp [h]
theorem slice_to (xs : Array Nat) (k : Nat) (ys : List Nat) (h : xs.toList.take k = ys) : Txt.slice ⟨xs⟩ none (some (k : Int)) = ⟨ys.toArray⟩ := by rw [slice_take]; simp only [h]
theorem mul_slash (n : Nat) (h : 1 < n) : Txt.mul "/" n = ⟨(List.replicate n 47).toArray⟩ := by
  unfold Txt.mul
  rw [if_neg (by lia), if_neg (by simp [show ((Str.ofString "/").length) = 1 by decide +kernel]; lia)]
  rw [show (Str.ofString "/").cps = #[47] by decide +kernel]
  have (k : Nat) (z : Array Nat) : (List.replicate k #[47]).foldl (· ++ ·) z = z ++ (List.replicate k 47).toArray := by
    induction k generalizing z with
    | zero => simp
    | succ k ih =>
      rw [List.replicate_succ, List.foldl_cons, ih, List.replicate_succ]
      apply Array.toList_inj.mp
      simp
  rw [show ((n : Int)).toNat = n from rfl, this]
  simp
theorem rstrip_one (ys : List Nat) (z : Nat) (hz : z ≠ 47) (hy : ys ≠ []) : Txt.rstripChars ⟨(ys ++ [z, 47]).toArray⟩ "/" = ⟨(ys ++ [z]).toArray⟩ := by
  have hc : (fun x : Nat => (Str.ofString "/").cps.contains x) = fun x => x == 47 := by
    funext x
    rw [show (Str.ofString "/").cps = #[47] by decide +kernel]
    by_cases h : x = 47 <;> simp [h]
  have hl : stripLo (Str.ofString "/").cps.contains false ⟨(ys ++ [z, 47]).toArray⟩ = 0 := rfl
  have hh : stripHi (Str.ofString "/").cps.contains true ⟨(ys ++ [z, 47]).toArray⟩ 0 = ys.length + 1 := by
    unfold stripHi
    rw [if_pos rfl, show (Str.ofString "/").cps.contains = (fun x => x == 47) from hc]
    have hz' : (z == 47) = false := by simpa using hz
    simp only [List.drop_zero, List.reverse_append, List.reverse_cons, List.reverse_nil, List.nil_append, List.cons_append]
    rw [List.takeWhile_cons, if_pos (by rfl), List.takeWhile_cons, hz']
    show (ys ++ [z, 47]).toArray.size - 1 = _
    simp
  unfold Txt.rstripChars Txt.stripBy stripSame PySem.stripped
  rw [hl, hh]
  rw [if_neg (by
    show ¬ ((0 == 0 && (ys.length + 1 == (ys ++ [z, 47]).toArray.size)) = true)
    simp)]
  unfold strSub
  congr 1
  simp
theorem dir1 (a : Nat) : dirF (path [a]) = path [] ++ "/" := by
  unfold dirF
  rw [rfind1]
  rw [show Txt.slice (path [a]) none (some ((0 : Int) + 1)) = ⟨[47].toArray⟩ from slice_to _ 1 _ rfl]
  rw [if_neg (by decide +kernel)]
  decide +kernel
theorem dir0 : dirF "/" = "/" := by decide +kernel
theorem cut_ne {n : Nat} {ys : List Nat} {a : Nat} (hn : 1 < n) (hl : n = (47 :: upC a :: ys).length) : (⟨(47 :: upC a :: ys).toArray⟩ : Str).length ≠ 0 ∧ (⟨(47 :: upC a :: ys).toArray⟩ : Str) ≠ Txt.mul "/" ((⟨(47 :: upC a :: ys).toArray⟩ : Str).length : Nat) := by
  have e : (⟨(47 :: upC a :: ys).toArray⟩ : Str).length = n := hl.symm
  rw [e]
  refine ⟨by lia, fun h => ?_⟩
  rw [mul_slash n hn] at h
  have h := congrArg (fun s : Str => s.cps.toList) h
  obtain ⟨m, rfl⟩ : ∃ m, n = m + 1 + 1 := ⟨n - 2, by lia⟩
  simp only [List.replicate_succ] at h
  injection h with _ h
  injection h with h _
  exact upC_ne a h
theorem dir2 (a b : Nat) : dirF (path [a, b]) = path [a] := by
  unfold dirF
  rw [rfind2]
  rw [show Txt.slice (path [a, b]) none (some ((2 : Int) + 1)) = ⟨[47, upC a, 47].toArray⟩ from slice_to _ 3 _ rfl]
  rw [if_pos (cut_ne (n := 3) (by lia) rfl)]
  exact rstrip_one [47] (upC a) (upC_ne a) (by simp)
theorem dir3 (a b c : Nat) : dirF (path [a, b, c]) = path [a, b] := by
  unfold dirF
  rw [rfind3]
  rw [show Txt.slice (path [a, b, c]) none (some ((4 : Int) + 1)) = ⟨[47, upC a, 47, upC b, 47].toArray⟩ from slice_to _ 5 _ rfl]
  rw [if_pos (cut_ne (n := 5) (by lia) rfl)]
  exact rstrip_one [47, upC a, 47] (upC b) (upC_ne b) (by simp)
theorem dir4 (a b c d : Nat) : dirF (path [a, b, c, d]) = path [a, b, c] := by
  unfold dirF
  rw [rfind4]
  rw [show Txt.slice (path [a, b, c, d]) none (some ((6 : Int) + 1)) = ⟨[47, upC a, 47, upC b, 47, upC c, 47].toArray⟩ from slice_to _ 7 _ rfl]
  rw [if_pos (cut_ne (n := 7) (by lia) rfl)]
  exact rstrip_one [47, upC a, 47, upC b, 47] (upC c) (upC_ne c) (by simp)
theorem occ4 (a b c d : Nat) : occurrences (path [a, b, c, d]) "/" 0 (path [a, b, c, d]).length ((path [a, b, c, d]).length + 1) = [0, 2, 4, 6] := by
  revert a b c d
  refine' no_implicit_lambda% (Mine.hk4 ?ne ?_)
  case ne => (repeat' (first | (refine Mine.nePair ?_ ?_) | exact Mine.neWorld | exact Mine.neAround | exact Mine.neShared | infer_instance))
  generalize Mine.A1 _ = a; generalize Mine.A2 _ = b; generalize Mine.A3 _ = c; generalize Mine.A4 _ = d
  intro uHk
  clear uHk
  have h (x : Nat) : (upC x = 47) = False := eq_false (upC_ne x)
  show occurrences ⟨#[47, upC a, 47, upC b, 47, upC c, 47, upC d]⟩ "/" 0 8 9 = _
  unfold occurrences
  simp only [Std.Legacy.Range.forIn_eq_forIn_range', Std.Legacy.Range.size, List.range', List.forIn_cons, List.forIn_nil, show ((8 + 1 - 0 + 1 - 1) / 1 : Nat) = 9 from rfl, sub_path, show ((Str.ofString "/").length) = 1 by decide +kernel]
  simp [h]
theorem split4 {a b c d : Nat} (ha : a < 16) (hb : b < 16) (hc : c < 16) (hd : d < 16) : Txt.split (path [a, b, c, d]) "/" = [Str.empty, ⟨#[upC a]⟩, ⟨#[upC b]⟩, ⟨#[upC c]⟩, ⟨#[upC d]⟩] := by
  unfold Txt.split
  rw [occ4, if_neg, if_neg (by simp)]
  · rfl
  · rw [show (decide ((path [a, b, c, d]).length < Str.length "/")) = false by rw [show ((Str.ofString "/").length) = 1 by decide +kernel, path_len]; rfl]
    have : Str.strKind (path [a, b, c, d]) = 1 := by
      unfold Str.strKind
      rw [if_pos]
      rw [Array.all_eq_true']
      intro x hx
      have := path_plain (ds := [a, b, c, d]) (by simp; lia) x (by simpa using hx)
      simp; lia
    rw [this, show Str.strKind "/" = 1 by decide +kernel]
    decide
end Mine
namespace Mine
open PySem PySem.W PySem.Calls PyProof.Rows Builtin Builtin.Str
theorem slash_txt : (Str.ofString "/") = ⟨#[47]⟩ := by decide +kernel
theorem starts_sg (a : Nat) : Txt.startswith ⟨#[upC a]⟩ "/" = false := by
  unfold Txt.startswith
  rw [sub_path]
  have : upC a ≠ 47 := upC_ne a
  simp [this]
theorem ends_path (xs : List Nat) (c : Nat) : Txt.endswith ⟨(xs ++ [c]).toArray⟩ "/" = (c == 47) := by
  unfold Txt.endswith
  rw [sub_path, show ((Str.ofString "/").length) = 1 by decide +kernel]
  have e : Str.length ⟨(xs ++ [c]).toArray⟩ = xs.length + 1 := by show (xs ++ [c]).toArray.size = _; simp
  rw [e]
  simp
theorem ends_sg (xs : List Nat) (a : Nat) : Txt.endswith ⟨(xs ++ [upC a]).toArray⟩ "/" = false := by
  rw [ends_path]
  simpa using upC_ne a
theorem st0 (a : Nat) : joinStep ⟨#[47]⟩ ⟨#[upC a]⟩ = path [a] := by
  unfold joinStep
  rw [starts_sg, if_neg (by simp [Str.length]), if_pos (show Txt.endswith ⟨#[47]⟩ "/" = true from ends_path [] 47)]
  rfl
theorem stn (xs : List Nat) (a b : Nat) : joinStep ⟨(xs ++ [upC a]).toArray⟩ ⟨#[upC b]⟩ = ⟨(xs ++ [upC a, 47, upC b]).toArray⟩ := by
  unfold joinStep
  rw [starts_sg, if_neg (by
    intro q
    rcases q with q | q
    · cases q
    · have e : Str.length ⟨(xs ++ [upC a]).toArray⟩ = xs.length + 1 := by show (xs ++ [upC a]).toArray.size = _; simp
      rw [e] at q; cases q), ends_sg, if_neg Bool.false_ne_true]
  rw [show (Str.ofString "/") = ⟨#[47]⟩ from slash_txt]
  show Str.mk ((xs ++ [upC a]).toArray ++ (#[47] ++ #[upC b])) = _
  congr 1
  apply Array.toList_inj.mp
  simp
theorem join_path (a b c d : Nat) : joinF ⟨#[47]⟩ [⟨#[upC a]⟩, ⟨#[upC b]⟩, ⟨#[upC c]⟩, ⟨#[upC d]⟩] = path [a, b, c, d] := by
  unfold joinF
  simp only [List.foldl_cons, List.foldl_nil, st0]
  rw [show path [a] = ⟨([47] ++ [upC a]).toArray⟩ from rfl, stn, show ([47] ++ [upC a, 47, upC b]) = [47, upC a, 47] ++ [upC b] from rfl, stn, show ([47, upC a, 47] ++ [upC b, 47, upC c]) = [47, upC a, 47, upC b, 47] ++ [upC c] from rfl, stn]
  rfl
theorem up_hex : ∀ d, d < 16 → (Bytes.toUpper (hexD d).toUInt8).toNat = upC d := by decide
theorem len4 {α : Type} {l : List α} (h : l.length = 4) : ∃ a b c d, l = [a, b, c, d] := by
  cases l with
  | nil => cases h
  | cons a l =>
    cases l with
    | nil => cases h
    | cons b l =>
      cases l with
      | nil => cases h
      | cons c l =>
        cases l with
        | nil => cases h
        | cons d l =>
          cases l with
          | nil => exact ⟨a, b, c, d, rfl⟩
          | cons _ _ => cases h
section
variable {prog : Program} {w : World} {A : Around} {E : Value → Shared → Prop} {s : Shared}
theorem star_str4 {h₀ : Heap} {L : Addr} {m : Str → Option Value} {news : Led} {a b c d : Nat} {t : Tok} {Q : List Value → Shared → Prop} (hh : A.handled = none) (F : Fr h₀ L s.heap m) (N : News h₀ L s.heap news)
    (h : ∀ t1 t2 t3 t4 h' tk, Fr h₀ L h' m → News h₀ L h' news → Q [.str ⟨#[a]⟩ t1, .str ⟨#[b]⟩ t2, .str ⟨#[c]⟩ t3, .str ⟨#[d]⟩ t4] { s with heap := h', toks := tk }) :
    StarOf (model prog w) A E (.str ⟨#[a, b, c, d]⟩ t) Q s := by
  revert Q hh F N h
  revert prog w A E s h₀ L m news a b c d t
  iterate 2 refine no_implicit_lambda% (Mine.pad1 ?_)
  refine' no_implicit_lambda% (Mine.hk16 ?ne ?_)
  case ne => (repeat' (first | (refine Mine.nePair ?_ ?_) | exact Mine.neWorld | exact Mine.neAround | exact Mine.neShared | infer_instance))
  generalize Mine.A3 _ = prog; generalize Mine.A4 _ = w; generalize Mine.A5 _ = A; generalize Mine.A6 _ = E; generalize Mine.A7 _ = s; generalize Mine.A8 _ = h₀; generalize Mine.A9 _ = L; generalize Mine.A10 _ = m; generalize Mine.A11 _ = news; generalize Mine.A12 _ = a; generalize Mine.A13 _ = b; generalize Mine.A14 _ = c; generalize Mine.A15 _ = d; generalize Mine.A16 _ = t
  intro uHk
  clear uHk
  intro Q hh F N h
  have z : wpAny (model prog w) A (collect (.str ⟨#[a, b, c, d]⟩ t)) Q E s := by
    refine wpAny_collect_str hh _ t (fun s' acc hk e1 e2 e3 hi => ?_) (by rw [sizeLine_eq]; show 4 ≤ _; decide)
    obtain ⟨acc⟩ := acc
    have hl : acc.length = 4 := hi.1
    obtain ⟨v1, v2, v3, v4, rfl⟩ := len4 hl
    have g : ∀ j (hj : j < 4), ∃ u, ([v1, v2, v3, v4] : List Value)[j]? = some (.str ⟨#[(#[a, b, c, d] : Array Nat)[j]'(by simpa using hj)]⟩ u) := fun j hj => by
      have hv : (⟨[v1, v2, v3, v4]⟩ : Array Value)[j]? = some (([v1, v2, v3, v4] : List Value)[j]'hj) := by rw [List.getElem?_toArray]; exact List.getElem?_eq_getElem hj
      (refine (let Gk : Prop := _; (?_ : Gk)))
      obtain ⟨cc, u, hc, e⟩ := hi.2 j _ hv
      ((show Gk); k_unfold; clear Gk)
      refine ⟨u, ?_⟩
      rw [List.getElem?_eq_getElem hj, e]
      have : (#[a, b, c, d] : Array Nat)[j]? = some cc := hc
      rw [Array.getElem?_eq_getElem (by simpa using hj)] at this
      rw [← Option.some.inj this]
    obtain ⟨u1, q1⟩ := g 0 (by decide)
    obtain ⟨u2, q2⟩ := g 1 (by decide)
    obtain ⟨u3, q3⟩ := g 2 (by decide)
    obtain ⟨u4, q4⟩ := g 3 (by decide)
    cases Option.some.inj q1
    cases Option.some.inj q2
    cases Option.some.inj q3
    cases Option.some.inj q4
    have := h u1 u2 u3 u4 s'.heap s'.toks (fr_keeps F hk) (news_keeps N hk)
    rw [← e1, ← e2, ← e3] at this
    exact this
  unfold StarOf notIterableAtAll
  exact wpAny_bind (wpAny_specialOf (typeIs_str _ _ _) PySem.F.slot_str_iter.lookup (wpAny_pure ⟨rfl, z⟩))
end
end Mine
namespace Mine
open PySem PySem.W PySem.Calls PyProof.Rows Builtin Builtin.Str
noncomputable def sg (d : Nat) : Str := ⟨#[upC d]⟩
theorem sg_inj {a b : Nat} (ha : a < 16) (hb : b < 16) (h : sg a = sg b) : a = b := by
  have := congrArg (fun s : Str => s.cps.toList) h
  simp only [sg, List.cons.injEq, and_true] at this
  exact upC_inj ha hb this
theorem sg_ne {a b : Nat} (ha : a < 16) (hb : b < 16) (h : a ≠ b) : sg a ≠ sg b := fun q => h (sg_inj ha hb q)
theorem alike_path {ds es : List Nat} (h1 : ∀ d ∈ ds, d < 16) (h2 : ∀ d ∈ es, d < 16) (k : Nat) : alikeF (path ds) (path es) k = decide (ds.take k = es.take k) := by
  unfold alikeF
  rw [path_slice, path_slice]
  by_cases h : ds.take k = es.take k
  · rw [h]; simp
  · rw [decide_eq_false h]
    refine beq_eq_false_iff_ne.mpr fun q => h (path_inj (fun d hd => h1 d (List.mem_of_mem_take hd)) (fun d hd => h2 d (List.mem_of_mem_take hd)) q)
noncomputable def cnt (ds es : List Nat) : Nat := ((List.range 4).filter fun k => decide (ds.take k = es.take k)).length
theorem beside_path {ds es : List Nat} (h1 : ∀ d ∈ ds, d < 16) (h2 : ∀ d ∈ es, d < 16) : besideF (path ds) (path es) = path (es.take (cnt ds es)) := by
  unfold besideF cnt
  rw [path_slice]
  congr 3
  exact List.filter_congr fun k _ => alike_path h1 h2 k
theorem cnt4 (a b c d x y z t : Nat) : cnt [a, b, c, d] [x, y, z, t] = if a = x then (if b = y then (if c = z then 4 else 3) else 2) else 1 := by
  revert a b c d x y z t
  refine' no_implicit_lambda% (Mine.hk8 ?ne ?_)
  case ne => (repeat' (first | (refine Mine.nePair ?_ ?_) | exact Mine.neWorld | exact Mine.neAround | exact Mine.neShared | infer_instance))
  generalize Mine.A1 _ = a; generalize Mine.A2 _ = b; generalize Mine.A3 _ = c; generalize Mine.A4 _ = d; generalize Mine.A5 _ = x; generalize Mine.A6 _ = y; generalize Mine.A7 _ = z; generalize Mine.A8 _ = t
  intro uHk
  clear uHk
  unfold cnt
  rw [show List.range 4 = [0, 1, 2, 3] from rfl]
  simp only [List.filter_cons, List.filter_nil, List.take_zero, decide_true, if_true, List.take_succ_cons, List.cons.injEq, and_true]
  by_cases h1 : a = x <;> by_cases h2 : b = y <;> by_cases h3 : c = z <;> simp [h1, h2, h3]
theorem join1 (a : Nat) : ("/" : Str) ++ Txt.join "/" [sg a] = path [a] := by
  show Str.append "/" ⟨#[upC a]⟩ = _
  unfold Str.append
  rw [show (Str.ofString "/").cps = #[47] by decide +kernel]
  rfl
theorem glue_eq (x : Str) (r : List Str) (z : Array Nat) : (⟨z⟩ : Str) ++ Txt.join "/" (x :: r) = ⟨z ++ (r.foldl (fun acc p => acc ++ #[47] ++ p.cps) x.cps)⟩ := by
  show Str.append _ (glued _ _) = _
  unfold Str.append glued
  rw [show (Str.ofString "/").cps = #[47] by decide +kernel]
  rfl
theorem slash_eq : (Str.ofString "/") = ⟨#[47]⟩ := by decide +kernel
theorem join0 : ("/" : Str) ++ Txt.join "/" [] = ⟨#[47]⟩ := by decide +kernel
theorem join2 (a b : Nat) : ("/" : Str) ++ Txt.join "/" [sg a, sg b] = path [a, b] := by
  rw [show ("/" : Str) = ⟨#[47]⟩ from slash_eq]
  show Str.mk (#[47] ++ (#[upC a] ++ #[47] ++ #[upC b])) = _
  rfl
theorem join3 (a b c : Nat) : ("/" : Str) ++ Txt.join "/" [sg a, sg b, sg c] = path [a, b, c] := by
  rw [show ("/" : Str) = ⟨#[47]⟩ from slash_eq]
  show Str.mk (#[47] ++ (#[upC a] ++ #[47] ++ #[upC b] ++ #[47] ++ #[upC c])) = _
  rfl
noncomputable def cpD (ds es : List Nat) : Str := "/" ++ Txt.join "/" (comPre (ds.map sg) (es.map sg))
theorem path_ne_slash {a : Nat} {r : List Nat} : path (a :: r) ≠ ⟨#[47]⟩ := fun h => by
  have := congrArg Str.length h
  rw [path_len] at this
  have h2 : Str.length ⟨#[47]⟩ = 1 := rfl
  rw [h2] at this
  simp only [List.length_cons] at this
  lia
theorem dir1' (a : Nat) : dirF (path [a]) = ⟨#[47]⟩ := (dir1 a).trans (by decide +kernel)
theorem dir0' : dirF ⟨#[47]⟩ = ⟨#[47]⟩ := by rw [← slash_eq]; exact dir0
theorem path_ne {ds es : List Nat} (h : ds.length ≠ es.length) : path ds ≠ path es := fun q => h (by
  have := congrArg Str.length q
  rw [path_len, path_len] at this
  lia)
theorem up_path {a b c d x y z t : Nat} (ha : a < 16) (hb : b < 16) (hc : c < 16) (hd : d < 16) (hx : x < 16) (hy : y < 16) (hz : z < 16) (ht : t < 16) (h : [a, b, c, d] ≠ [x, y, z, t]) :
    (upF (cpD [a, b, c, d] [x, y, z, t]) (path [x, y, z, t]) 3).1 = path ([x, y, z, t].take (cnt [a, b, c, d] [x, y, z, t])) := by
  revert ha hb hc hd hx hy hz ht h
  revert a b c d x y z t
  refine' no_implicit_lambda% (Mine.hk8 ?ne ?_)
  case ne => (repeat' (first | (refine Mine.nePair ?_ ?_) | exact Mine.neWorld | exact Mine.neAround | exact Mine.neShared | infer_instance))
  generalize Mine.A1 _ = a; generalize Mine.A2 _ = b; generalize Mine.A3 _ = c; generalize Mine.A4 _ = d; generalize Mine.A5 _ = x; generalize Mine.A6 _ = y; generalize Mine.A7 _ = z; generalize Mine.A8 _ = t
  intro uHk
  clear uHk
  intro ha hb hc hd hx hy hz ht h
  rw [cnt4]
  unfold cpD
  simp only [List.map_cons, List.map_nil]
  by_cases h1 : a = x
  · subst h1
    by_cases h2 : b = y
    · subst h2
      by_cases h3 : c = z
      · subst h3
        have h4 : d ≠ t := fun q => h (by rw [q])
        rw [show comPre [sg a, sg b, sg c, sg d] [sg a, sg b, sg c, sg t] = [sg a, sg b, sg c] by simp [comPre, sg_ne hd ht h4], join3]
        rw [if_pos rfl, if_pos rfl, if_pos rfl]
        simp only [upF, dir4, ne_eq, not_true_eq_false, if_false]
        rfl
      · rw [show comPre [sg a, sg b, sg c, sg d] [sg a, sg b, sg z, sg t] = [sg a, sg b] by simp [comPre, sg_ne hc hz h3], join2]
        rw [if_pos rfl, if_pos rfl, if_neg h3]
        simp only [upF, dir4, dir3, ne_eq, path_ne (show [a, b, z].length ≠ [a, b].length by simp), not_false_eq_true, if_true, not_true_eq_false, if_false]
        rfl
    · rw [show comPre [sg a, sg b, sg c, sg d] [sg a, sg y, sg z, sg t] = [sg a] by simp [comPre, sg_ne hb hy h2], join1]
      rw [if_pos rfl, if_neg h2]
      simp only [upF, dir4, dir3, dir2, ne_eq, path_ne (show [a, y, z].length ≠ [a].length by simp), path_ne (show [a, y].length ≠ [a].length by simp), not_false_eq_true, if_true, not_true_eq_false, if_false]
      rfl
  · rw [show comPre [sg a, sg b, sg c, sg d] [sg x, sg y, sg z, sg t] = [] by simp [comPre, sg_ne ha hx h1], join0]
    rw [if_neg h1]
    simp only [upF, dir4, dir3, dir2, dir1', ne_eq, path_ne_slash, not_false_eq_true, if_true]
    rfl
end Mine
theorem Mine.off20 : True := by w_top off; trivial
namespace Mine
open PySem PySem.W PySem.Calls PyProof.Rows
theorem ints_at {vs : List Value} {ns : List Int} (H : IntsAre vs ns) : ∀ {i : Nat} {x : Int}, ns[i]? = some x → ∃ t, vs[i]? = some (.int x t) := by
  induction H with
  | nil => exact fun e => nomatch e
  | cons n t _ ih =>
    intro i x e
    cases i with
    | zero => exact ⟨t, congrArg (fun z => some (Value.int z t)) (Option.some.inj e)⟩
    | succ i => exact ih e
theorem pow_cases {b : Int} {j : Nat} {u : Int} (hj : j < 4) (h0 : 1 ≤ b ^ 0 ∧ b ^ 0 ≤ u) (h1 : 1 ≤ b ^ 1 ∧ b ^ 1 ≤ u) (h2 : 1 ≤ b ^ 2 ∧ b ^ 2 ≤ u) (h3 : 1 ≤ b ^ 3 ∧ b ^ 3 ≤ u) : 1 ≤ b ^ (0 + (j : Int)).toNat ∧ b ^ (0 + (j : Int)).toNat ≤ u := by
  rw [show (0 + (j : Int)).toNat = j by lia]
  have : j = 0 ∨ j = 1 ∨ j = 2 ∨ j = 3 := by lia
  rcases this with rfl | rfl | rfl | rfl
  · exact h0
  · exact h1
  · exact h2
  · exact h3
noncomputable def lrNumbers : Stmt := lrStmt 2
noncomputable def numT (c5 t : Int) (k : Nat) : Int := (t / 3 ^ k % 3 * 5 + c5 / 6 ^ k % 6) * 16 ^ k
noncomputable def numF (c5 t : Int) : Int := ((List.range 4).map (numT c5 t)).sum
theorem run_numbers {w : World} {p : Program} {loose : List Str} {mean : ExcName → Option Value} {mg mb : Str → Option Value} {dp un : Nat} {gd : Option (List Code)} {cn : Str} {cs : Scope} {a : Addr} {ccd : Value} {cl : List (Str × Addr)} {outer : List Env} {base h₀ : Heap} {L L' : Addr} {m0 : Str → Option Value} {s : Shared} {Q : Flow → Shared → Prop} {E : Value → Shared → Prop} {o1 o2 o3 o4 : Obj} {oc th : Addr} {lam : Led} {n kt : Nat} {c0 c1 c2 c3 c4 c5 c6 c7 c8 : Int} {t0 t1 t2 t3 t4 t5 t6 t7 t8 : Tok} {vs : List Value} {ts : List Int}
    (B : Below (ktrTop dp un gd cn cs L a ccd cl outer) base (envX cn cs L a ccd cl :: outer) h₀) (X : (hd.heap_39 w.params).In h₀) (T : Top p loose mean mg mb h₀) (hk : cs.kind = .function) (hdp : dp + 80 < recursionLimit) (hun : un + 1600 < cLine)
    (ho : h₀.get? oc = some { cls := .type "list", data := .seq #[.int c0 t0, .int c1 t1, .int c2 t2, .int c3 t3, .int c4 t4, .int c5 t5, .int c6 t6, .int c7 t7, .int c8 t8] n })
    (F : Fr h₀ L' s.heap (fun y => if y = "thirds" then some (.ref th) else m0 y)) (N : News h₀ L' s.heap ((th, { cls := .type "list", data := .seq (List.toArray vs) kt }) :: (L' + 1 + 1 + 1 + 1, o4) :: (L' + 1 + 1 + 1, o3) :: (L' + 1 + 1, o2) :: (L' + 1, o1) :: lam))
    (hvs : IntsAre vs ts) (hts : ts.length = 5) (hb : ∀ x ∈ ts, 0 ≤ x ∧ x < 81) (ho1 : o1.data = Data.cell (some (.ref oc)))
    (hret : ∀ D us h' tk, IntsAre us (ts.map (numF c5)) → Fr h₀ L' h' (fun y => if y = "numbers" then some (.ref D) else if y = "thirds" then some (.ref th) else m0 y) → News h₀ L' h' ((D, LCg.lst us) :: (L' + 1 + 1 + 1 + 1, o4) :: (L' + 1 + 1 + 1, o3) :: (L' + 1 + 1, o2) :: (L' + 1, o1) :: lam) → LCg.Off1 D ((L' + 1 + 1 + 1 + 1, o4) :: (L' + 1 + 1 + 1, o3) :: (L' + 1 + 1, o2) :: (L' + 1, o1) :: lam) → Q .next { s with heap := h', toks := tk })
    (hE : PassesOwn (model PySem.Challenge.pw_rt0090_01 w) ((ktrTop dp un gd cn cs L a ccd cl outer).deeper (envOfC "_law_run" lrScope L' 333 (.ref 332))) (envOfC "_law_run" lrScope L' 333 (.ref 332)) E) :
    wpAny (model PySem.Challenge.pw_rt0090_01 w) ((ktrTop dp un gd cn cs L a ccd cl outer).deeper (envOfC "_law_run" lrScope L' 333 (.ref 332))) (exec lrNumbers (envOfC "_law_run" lrScope L' 333 (.ref 332))) Q E s := by
  revert B X T hk hdp hun ho F N hvs hts hb ho1 hret hE
  revert w p loose mean mg mb dp un gd cn cs a ccd cl outer base h₀ L L' m0 s Q E o1 o2 o3 o4 oc th lam n kt c0 c1 c2 c3 c4 c5 c6 c7 c8 t0 t1 t2 t3 t4 t5 t6 t7 t8 vs ts
  iterate 7 refine no_implicit_lambda% (Mine.pad1 ?_)
  refine' no_implicit_lambda% (Mine.hk59 ?ne ?_)
  case ne => (repeat' (first | (refine Mine.nePair ?_ ?_) | exact Mine.neWorld | exact Mine.neAround | exact Mine.neShared | infer_instance))
  generalize Mine.A8 _ = w; generalize Mine.A9 _ = p; generalize Mine.A10 _ = loose; generalize Mine.A11 _ = mean; generalize Mine.A12 _ = mg; generalize Mine.A13 _ = mb; generalize Mine.A14 _ = dp; generalize Mine.A15 _ = un; generalize Mine.A16 _ = gd; generalize Mine.A17 _ = cn; generalize Mine.A18 _ = cs; generalize Mine.A19 _ = a; generalize Mine.A20 _ = ccd; generalize Mine.A21 _ = cl; generalize Mine.A22 _ = outer; generalize Mine.A23 _ = base; generalize Mine.A24 _ = h₀; generalize Mine.A25 _ = L; generalize Mine.A26 _ = L'; generalize Mine.A27 _ = m0; generalize Mine.A28 _ = s; generalize Mine.A29 _ = Q; generalize Mine.A30 _ = E; generalize Mine.A31 _ = o1; generalize Mine.A32 _ = o2; generalize Mine.A33 _ = o3; generalize Mine.A34 _ = o4; generalize Mine.A35 _ = oc; generalize Mine.A36 _ = th; generalize Mine.A37 _ = lam; generalize Mine.A38 _ = n; generalize Mine.A39 _ = kt; generalize Mine.A40 _ = c0; generalize Mine.A41 _ = c1; generalize Mine.A42 _ = c2; generalize Mine.A43 _ = c3; generalize Mine.A44 _ = c4; generalize Mine.A45 _ = c5; generalize Mine.A46 _ = c6; generalize Mine.A47 _ = c7; generalize Mine.A48 _ = c8; generalize Mine.A49 _ = t0; generalize Mine.A50 _ = t1; generalize Mine.A51 _ = t2; generalize Mine.A52 _ = t3; generalize Mine.A53 _ = t4; generalize Mine.A54 _ = t5; generalize Mine.A55 _ = t6; generalize Mine.A56 _ = t7; generalize Mine.A57 _ = t8; generalize Mine.A58 _ = vs; generalize Mine.A59 _ = ts
  intro uHk
  clear uHk
  intro B X T hk hdp hun ho F N hvs hts hb ho1 hret hE
  revert hE
  conv in (occs := *) lrScope => all_goals whnf
  conv in lrNumbers => whnf
  intro hE
  (refine (let Akₘ : PySem.Around := _; (?_ : wpAny _ Akₘ _ _ _ _)))
  ((with_reducible rename News _ _ _ _ => Nz); (with_reducible rename Fr _ _ _ _ => Fz))
  k_dflt (refine assign_comp_cell (F₀ := Fz) (by rfl) (by with_unfolding_all rfl) (by with_unfolding_all rfl) (by rfl) (by decide) (by intro _; rfl) (by intro _; rfl) (by intro _ _; rfl) (by rfl) (by rfl) ?_)
  walk1
  ((with_reducible rename News _ _ _ _ => Nz); (with_reducible rename Fr _ _ _ _ => Fz))
  refine ⟨th, List.toArray vs, kt, _, rfl, rfl, Fz, Nz, by k_mem, by rw [sizeLine_eq]; simp [hvs.length, hts], fun i ys news => news = (th, { cls := .type "list", data := .seq (List.toArray vs) kt }) :: (L' + 1 + 1 + 1 + 1, o4) :: (L' + 1 + 1 + 1, o3) :: (L' + 1 + 1, o2) :: (L' + 1, o1) :: lam ∧ IntsAre ys ((ts.take i).map (numF c5)), ⟨rfl, .nil⟩, ?_, ?_⟩
  · intro i ys news hi hJ41 v hv I oI C oC X oX D h tk E' hC hX F2 N2 off hm ne
    (refine (let Gk : Prop := _; (?_ : Gk)))
    obtain ⟨rfl, hys⟩ := hJ41
    clear Fz Nz
    obtain ⟨x, hx⟩ : ∃ x, ts[i]? = some x := ⟨_, List.getElem?_eq_getElem (by rw [← hvs.length]; simpa using hi)⟩
    obtain ⟨tv, rfl⟩ : ∃ tv, v = .int x tv := by
      obtain ⟨tv, e⟩ := ints_at hvs hx
      rw [List.getElem?_toArray, e] at hv
      exact ⟨tv, (Option.some.inj hv).symm⟩
    have hbx := hb x (List.mem_of_getElem? hx)
    ((show Gk); k_unfold; clear Gk)
    (repeat' (first | ((with_reducible show @ite Prop _ _ _ _); walk1) | (k_unfold; (try dsimp only)) | ((fail_if_success (with_reducible (refine Mine.stp 11 ?_ ?_; (focus ((repeat' constructor); done))))); (first | ((fail_if_success (with_reducible show @Exists _ _)); k_end; wrow_close) | walk1 | (dsimp only; walk1))) | ((fail_if_success (with_reducible show wpAny _ _ _ _ _ _)); dsimp only [Mine.MyPost]) | (leave1; try dsimp only) | fail "no step"))
    (k_dflt (refine LCg.ListComp_U (F₀ := by k_asm) (by with_unfolding_all rfl) (by decide) (by rfl) (by decide) (by rfl) ?_))
    (repeat' (first | ((with_reducible show @ite Prop _ _ _ _); walk1) | (k_unfold; (try dsimp only)) | ((fail_if_success (with_reducible (refine Mine.stp 11 ?_ ?_; (focus ((repeat' constructor); done))))); (first | ((fail_if_success (with_reducible show @Exists _ _)); k_end; wrow_close) | walk1 | (dsimp only; walk1))) | ((fail_if_success (with_reducible show wpAny _ _ _ _ _ _)); dsimp only [Mine.MyPost]) | (leave1; try dsimp only) | fail "no step"))
    (k_dflt (refine LCg.CompSrc.range (by rfl) (by k_asm) (by k_asm) (by assumption) (by first | decide | rfl) (by first | rfl | decide) (by first | size_fits | exact Nat.le_of_ble_eq_true rfl) ?_))
    intro g
    refine compRest_of 4 (fun i ys news => news = _ ∧ IntsAre ys ((List.range i).map (numT c5 x))) ?_ ?_ 4 0 [] _ rfl ⟨rfl, .nil⟩
    · intro j zs news hj hJ42 v0 I' oI' C' oC' D' m' h' tk' E'' hP hC' hx' F3 N3 o3' ne'
      (refine (let Gk : Prop := _; (?_ : Gk)))
      obtain ⟨rfl, hzs⟩ := hJ42
      obtain ⟨t0', rfl⟩ := hP
      obtain ⟨p3, e3, l3, u3⟩ : ∃ p : Int, p = 3 ^ (0 + (j : Int)).toNat ∧ 1 ≤ p ∧ p ≤ 27 := ⟨_, rfl, pow_cases (by lia) (by decide) (by decide) (by decide) (by decide)⟩
      obtain ⟨p6, e6, l6, u6⟩ : ∃ p : Int, p = 6 ^ (0 + (j : Int)).toNat ∧ 1 ≤ p ∧ p ≤ 216 := ⟨_, rfl, pow_cases (by lia) (by decide) (by decide) (by decide) (by decide)⟩
      obtain ⟨p16, e16, l16, u16⟩ : ∃ p : Int, p = 16 ^ (0 + (j : Int)).toNat ∧ 1 ≤ p ∧ p ≤ 4096 := ⟨_, rfl, pow_cases (by lia) (by decide) (by decide) (by decide) (by decide)⟩
      have o4' := o3'
      (try simp only [LCg.Off3, and_true] at o3')
      ((show Gk); k_unfold; clear Gk)
      show wpAny _ _ _ _ _ { heap := h', gens := s.gens, drawn := s.drawn, toks := tk', os := s.os }
      (try k_fold)
      (repeat' (first | ((with_reducible show @ite Prop _ _ _ _); walk1) | (k_unfold; (try dsimp only)) | ((fail_if_success (with_reducible (refine Mine.stp 11 ?_ ?_; (focus ((repeat' constructor); done))))); (first | ((fail_if_success (with_reducible show @Exists _ _)); k_end; wrow_close) | walk1 | (dsimp only; walk1))) | ((fail_if_success (with_reducible show wpAny _ _ _ _ _ _)); dsimp only [Mine.MyPost]) | (leave1; try dsimp only) | fail "no step"))
      rw [← e3]
      try dsimp only
      (repeat' (first | ((with_reducible show @ite Prop _ _ _ _); walk1) | (k_unfold; (try dsimp only)) | ((fail_if_success (with_reducible (refine Mine.stp 11 ?_ ?_; (focus ((repeat' constructor); done))))); (first | ((fail_if_success (with_reducible show @Exists _ _)); k_end; wrow_close) | walk1 | (dsimp only; walk1))) | ((fail_if_success (with_reducible show wpAny _ _ _ _ _ _)); dsimp only [Mine.MyPost]) | (leave1; try dsimp only) | fail "no step"))
      ((with_reducible rename News _ _ _ _ => Nz); (with_reducible rename Fr _ _ _ _ => Fz))
      refine item_at (vs := [.int c0 t0, .int c1 t1, .int c2 t2, .int c3 t3, .int c4 t4, .int c5 t5, .int c6 t6, .int c7 t7, .int c8 t8]) (k := 5) ⟨_, Fz.keep _ _ ho, rfl, n, rfl⟩ rfl (by simp) ?_
      (repeat' (first | ((with_reducible show @ite Prop _ _ _ _); walk1) | (k_unfold; (try dsimp only)) | ((fail_if_success (with_reducible (refine Mine.stp 11 ?_ ?_; (focus ((repeat' constructor); done))))); (first | ((fail_if_success (with_reducible show @Exists _ _)); k_end; wrow_close) | walk1 | (dsimp only; walk1))) | ((fail_if_success (with_reducible show wpAny _ _ _ _ _ _)); dsimp only [Mine.MyPost]) | (leave1; try dsimp only) | fail "no step"))
      rw [← e6]
      (repeat' (first | ((with_reducible show @ite Prop _ _ _ _); walk1) | (k_unfold; (try dsimp only)) | ((fail_if_success (with_reducible (refine Mine.stp 11 ?_ ?_; (focus ((repeat' constructor); done))))); (first | ((fail_if_success (with_reducible show @Exists _ _)); k_end; wrow_close) | walk1 | (dsimp only; walk1))) | ((fail_if_success (with_reducible show wpAny _ _ _ _ _ _)); dsimp only [Mine.MyPost]) | (leave1; try dsimp only) | fail "no step"))
      ((with_reducible rename News _ _ _ _ => Nz); (with_reducible rename Fr _ _ _ _ => Fz))
      refine ⟨_, _, _, rfl, Fz, Nz, o4', trivial, rfl, ?_⟩
      have hval : ((x.fdiv p3).fmod 3 * 5 + (c5.fdiv p6).fmod 6) * 16 ^ (0 + (j : Int)).toNat = numT c5 x j := by
        rw [Int.fmod_eq_emod_of_nonneg _ (by decide), Int.fmod_eq_emod_of_nonneg _ (by decide), Int.fdiv_eq_ediv_of_nonneg _ (by lia), Int.fdiv_eq_ediv_of_nonneg _ (by lia), e3, e6, show (0 + (j : Int)).toNat = j by lia]
        rfl
      rw [hval, List.range_succ, List.map_append]
      exact hzs.append (.cons _ _ .nil)
    · intro zs news hJ43 D' h' tk' F3 N3 o1'
      (refine (let Gk : Prop := _; (?_ : Gk)))
      obtain ⟨rfl, hzs⟩ := hJ43
      ((show Gk); k_unfold; clear Gk)
      show wpAny _ _ _ _ _ { heap := h', gens := s.gens, drawn := s.drawn, toks := tk', os := s.os }
      (try k_fold)
      (repeat' (first | ((with_reducible show @ite Prop _ _ _ _); walk1) | (k_unfold; (try dsimp only)) | ((fail_if_success (with_reducible (refine Mine.stp 11 ?_ ?_; (focus ((repeat' constructor); done))))); (first | ((fail_if_success (with_reducible show @Exists _ _)); k_end; wrow_close) | walk1 | (dsimp only; walk1))) | ((fail_if_success (with_reducible show wpAny _ _ _ _ _ _)); dsimp only [Mine.MyPost]) | (leave1; try dsimp only) | fail "no step"))
      ((with_reducible rename News _ _ _ _ => Nz); (with_reducible rename Fr _ _ _ _ => Fz))
      refine sumK (by rfl) Fz Nz (lst_is (News.get Nz (by k_mem))) hzs ?_
      intro h9 tk9 t9 F9 N9
      clear Fz Nz
      (repeat' (first | ((with_reducible show @ite Prop _ _ _ _); walk1) | (k_unfold; (try dsimp only)) | ((fail_if_success (with_reducible (refine Mine.stp 11 ?_ ?_; (focus ((repeat' constructor); done))))); (first | ((fail_if_success (with_reducible show @Exists _ _)); k_end; wrow_close) | walk1 | (dsimp only; walk1))) | ((fail_if_success (with_reducible show wpAny _ _ _ _ _ _)); dsimp only [Mine.MyPost]) | (leave1; try dsimp only) | fail "no step"))
      ((with_reducible rename News _ _ _ _ => Nz); (with_reducible rename Fr _ _ _ _ => Fz))
      refine ⟨⟨_, _, _, rfl, Fz, news_sub Nz (by (intro pₘ hpₘ; (repeat (rcases List.mem_cons.mp hpₘ with hqₘ | hpₘ; (focus (rw [hqₘ]; k_mem)))); (repeat (first | exact hpₘ | apply List.mem_cons_of_mem)))), off, hm, rfl, ?_⟩⟩
      rw [List.take_add_one, hx, List.map_append]
      exact hys.append (.cons _ _ .nil)
  · intro ys news hJ44 D h tk F2 N2 o1'
    (refine (let Gk : Prop := _; (?_ : Gk)))
    obtain ⟨rfl, hys⟩ := hJ44
    ((show Gk); k_unfold; clear Gk)
    refine hret D ys h tk ?_ F2 (news_sub N2 (by (intro pₘ hpₘ; (repeat (rcases List.mem_cons.mp hpₘ with hqₘ | hpₘ; (focus (rw [hqₘ]; k_mem)))); (repeat (first | exact hpₘ | apply List.mem_cons_of_mem))))) o1'.2
    rwa [List.take_of_length_le (by simp [hvs.length])] at hys
end Mine
theorem Mine.off21 : True := by w_top off; trivial
namespace Mine
open PySem PySem.W PySem.Calls PyProof.Rows
noncomputable def lrWays : Stmt := lrStmt 3
noncomputable def digs (n : Nat) : List Nat := [n / 4096 % 16, n / 256 % 16, n / 16 % 16, n % 16]
noncomputable def wayOf (n : Int) : Str := path (digs n.toNat)
theorem hex_digs {X A B : Nat} (hX : X < 65536) (hA : A = X / 256) (hB : B = X % 256) : X / 4096 % 16 = A / 16 ∧ X / 256 % 16 = A % 16 ∧ X / 16 % 16 = B / 16 ∧ X % 16 = B % 16 := by
  subst hA hB
  refine ⟨?_, rfl, ?_, ?_⟩
  · rw [Nat.div_div_eq_div_mul, Nat.mod_eq_of_lt (Nat.div_lt_of_lt_mul hX)]
  · exact (Nat.mod_mul_right_div_self X 16 16).symm
  · exact (Nat.mod_mod_of_dvd X (by decide)).symm
theorem run_ways {w : World} {p : Program} {loose : List Str} {mean : ExcName → Option Value} {mg mb : Str → Option Value} {dp un : Nat} {gd : Option (List Code)} {cn : Str} {cs : Scope} {a : Addr} {ccd : Value} {cl : List (Str × Addr)} {outer : List Env} {base h₀ : Heap} {L L' : Addr} {m0 : Str → Option Value} {s : Shared} {Q : Flow → Shared → Prop} {E : Value → Shared → Prop} {nm : Addr} {us : List Value} {ns : List Int} {rest : Led}
    (B : Below (ktrTop dp un gd cn cs L a ccd cl outer) base (envX cn cs L a ccd cl :: outer) h₀) (X : (hd.heap_39 w.params).In h₀) (T : Top p loose mean mg mb h₀) (hk : cs.kind = .function) (hdp : dp + 80 < recursionLimit) (hun : un + 1600 < cLine)
    (F : Fr h₀ L' s.heap (fun y => if y = "numbers" then some (.ref nm) else m0 y)) (N : News h₀ L' s.heap ((nm, LCg.lst us) :: rest))
    (hus : IntsAre us ns) (hns : ns.length = 5) (hb : ∀ x ∈ ns, 0 ≤ x ∧ x < 65536)
    (hret : ∀ D zs h' tk, Strs zs (ns.map wayOf) → Fr h₀ L' h' (fun y => if y = "ways" then some (.ref D) else if y = "numbers" then some (.ref nm) else m0 y) → News h₀ L' h' ((D, LCg.lst zs) :: (nm, LCg.lst us) :: rest) → LCg.Off1 D ((nm, LCg.lst us) :: rest) → Q .next { s with heap := h', toks := tk })
    (hE : PassesOwn (model PySem.Challenge.pw_rt0090_01 w) ((ktrTop dp un gd cn cs L a ccd cl outer).deeper (envOfC "_law_run" lrScope L' 333 (.ref 332))) (envOfC "_law_run" lrScope L' 333 (.ref 332)) E) :
    wpAny (model PySem.Challenge.pw_rt0090_01 w) ((ktrTop dp un gd cn cs L a ccd cl outer).deeper (envOfC "_law_run" lrScope L' 333 (.ref 332))) (exec lrWays (envOfC "_law_run" lrScope L' 333 (.ref 332))) Q E s := by
  revert B X T hk hdp hun F N hus hns hb hret hE
  revert w p loose mean mg mb dp un gd cn cs a ccd cl outer base h₀ L L' m0 s Q E nm us ns rest
  iterate 1 refine no_implicit_lambda% (Mine.pad1 ?_)
  refine' no_implicit_lambda% (Mine.hk28 ?ne ?_)
  case ne => (repeat' (first | (refine Mine.nePair ?_ ?_) | exact Mine.neWorld | exact Mine.neAround | exact Mine.neShared | infer_instance))
  generalize Mine.A2 _ = w; generalize Mine.A3 _ = p; generalize Mine.A4 _ = loose; generalize Mine.A5 _ = mean; generalize Mine.A6 _ = mg; generalize Mine.A7 _ = mb; generalize Mine.A8 _ = dp; generalize Mine.A9 _ = un; generalize Mine.A10 _ = gd; generalize Mine.A11 _ = cn; generalize Mine.A12 _ = cs; generalize Mine.A13 _ = a; generalize Mine.A14 _ = ccd; generalize Mine.A15 _ = cl; generalize Mine.A16 _ = outer; generalize Mine.A17 _ = base; generalize Mine.A18 _ = h₀; generalize Mine.A19 _ = L; generalize Mine.A20 _ = L'; generalize Mine.A21 _ = m0; generalize Mine.A22 _ = s; generalize Mine.A23 _ = Q; generalize Mine.A24 _ = E; generalize Mine.A25 _ = nm; generalize Mine.A26 _ = us; generalize Mine.A27 _ = ns; generalize Mine.A28 _ = rest
  intro uHk
  clear uHk
  intro B X T hk hdp hun F N hus hns hb hret hE
  revert hE
  conv in (occs := *) lrScope => all_goals whnf
  conv in lrWays => whnf
  intro hE
  (refine (let Akₘ : PySem.Around := _; (?_ : wpAny _ Akₘ _ _ _ _)))
  ((with_reducible rename News _ _ _ _ => Nz); (with_reducible rename Fr _ _ _ _ => Fz))
  k_dflt (refine LCg.Assign_ListComp_U (F₀ := Fz) (by rfl) (by with_unfolding_all rfl) (by with_unfolding_all rfl) (by decide) (by rfl) (by decide) (by rfl) (by rfl) (by rfl) ?_)
  (first | (k_here; (with_reducible show wpAny _ _ (call _ [Value.bytes _ _, Value.str _ _]) _ _ _); refine Mine.call_str2 ?_ ?_ ?_ ?_ ?_) | ((with_reducible show wpAny _ _ (call (Value.builtin "str.encode") _ _) _ _ _); (k_here; refine Mine.call_enc ?_; dsimp only)) | ((with_reducible show wpAny _ _ (call (Value.builtin "bytes.upper") _ _) _ _ _); (k_here; refine Mine.call_upper ?_; dsimp only)) | ((with_reducible show wpAny _ _ (call (Value.builtin "bytes.hex") _ _) _ _ _); (k_here; refine Mine.call_hex2 ?_; dsimp only)) | (k_here; (with_reducible show wpAny _ _ (getMethod (Value.str _ _) (PySem.Str.ofString "encode") _) _ _ _); refine Mine.m_encode ?_) | (k_here; first | (with_reducible refine Mine.m_hex ?_) | (with_reducible refine Mine.m_upper ?_)) | (k_here; (with_reducible show wpAny _ _ (call _ [Value.bytes _ _]) _ _ _); refine call_type_of (Tx := "bytes") rfl (by decide +kernel) ?_) | walk1)
  ((with_reducible rename News _ _ _ _ => Nz); (with_reducible rename Fr _ _ _ _ => Fz))
  refine LCg.CompSrc.ledger (k := us.length) rfl Fz Nz (its := us.toArray) (by k_mem) (by rw [sizeLine_eq]; simp [hus.length, hns]) (fun g => ?_)
  clear Fz Nz
  refine compRest_of us.toArray.size (fun i ys news => news = (nm, LCg.lst us) :: rest ∧ Strs ys ((ns.take i).map wayOf)) ?_ ?_ _ 0 [] _ (Nat.zero_add _) ⟨rfl, .nil⟩
  · intro i ys news hi hJ45 v I oI C oC D m₂ h tk E' hP hC hx2 F2 N2 off ne
    (refine (let Gk : Prop := _; (?_ : Gk)))
    obtain ⟨rfl, hys⟩ := hJ45
    obtain ⟨x, tx, rfl, hx⟩ := IntsAre.at hus i v (by simpa using hP)
    have hbx := hb x (List.mem_of_getElem? hx)
    have off' := off
    have hea : x.fdiv 256 = x / 256 := Int.fdiv_eq_ediv_of_nonneg _ (by decide)
    have heb : x.fmod 256 = x % 256 := Int.fmod_eq_emod_of_nonneg _ (by decide)
    ((show Gk); k_unfold; clear Gk)
    (repeat' (first | ((with_reducible show @ite Prop _ _ _ _); walk1) | (k_unfold; (try dsimp only)) | ((fail_if_success (with_reducible (refine Mine.stp 8 ?_ ?_; (focus ((repeat' constructor); done))))); (first | ((fail_if_success (with_reducible show @Exists _ _)); k_end; wrow_close) | (first | (k_here; (with_reducible show wpAny _ _ (call _ [Value.bytes _ _, Value.str _ _]) _ _ _); refine Mine.call_str2 ?_ ?_ ?_ ?_ ?_) | ((with_reducible show wpAny _ _ (call (Value.builtin "str.encode") _ _) _ _ _); (k_here; refine Mine.call_enc ?_; dsimp only)) | ((with_reducible show wpAny _ _ (call (Value.builtin "bytes.upper") _ _) _ _ _); (k_here; refine Mine.call_upper ?_; dsimp only)) | ((with_reducible show wpAny _ _ (call (Value.builtin "bytes.hex") _ _) _ _ _); (k_here; refine Mine.call_hex2 ?_; dsimp only)) | (k_here; (with_reducible show wpAny _ _ (getMethod (Value.str _ _) (PySem.Str.ofString "encode") _) _ _ _); refine Mine.m_encode ?_) | (k_here; first | (with_reducible refine Mine.m_hex ?_) | (with_reducible refine Mine.m_upper ?_)) | (k_here; (with_reducible show wpAny _ _ (call _ [Value.bytes _ _]) _ _ _); refine call_type_of (Tx := "bytes") rfl (by decide +kernel) ?_) | walk1) | (dsimp only; (first | walk1 | skip)))) | ((fail_if_success (with_reducible show wpAny _ _ _ _ _ _)); dsimp only [Mine.MyPost]) | (leave1; try dsimp only) | fail "no step"))
    ((with_reducible rename News _ _ _ _ => Nz); (with_reducible rename Fr _ _ _ _ => Fz))
    obtain ⟨a8, ha8⟩ : ∃ z : UInt8, z = (x.fdiv 256).toNat.toUInt8 := ⟨_, rfl⟩
    obtain ⟨b8, hb8⟩ : ∃ z : UInt8, z = (x.fmod 256).toNat.toUInt8 := ⟨_, rfl⟩
    rw [← ha8, ← hb8]
    ((with_reducible rename News _ _ _ _ => Nz); (with_reducible rename Fr _ _ _ _ => Fz); (k_dflt (refine' Mine.RO_use (c_b16 w _ a8 b8 _) ?k1ₘ ?k2ₘ ?k3ₘ ?k5ₘ ?k6ₘ ?k7ₘ ?k8ₘ ?kNₘ ?_; (case k1ₘ => k_asm); (case k2ₘ => k_asm); (case k3ₘ => k_asm); (case k5ₘ => k_asm); (case k6ₘ => first | exact rfl | assumption); (case k7ₘ => ktr_room); (case k8ₘ => ktr_units); (case kNₘ => k_asm); k_whole)); intro v9 h9 tk9 F9 N9 k9 e9; clear Fz Nz)
    obtain ⟨t6, rfl⟩ := e9
    clear k9
    have ea : (a8.toNat : Int) = x / 256 := by rw [ha8, ← hea]; assumption
    have eb : (b8.toNat : Int) = x % 256 := by rw [hb8, ← heb]; assumption
    have hal := a8.toNat_lt
    have hbl := b8.toNat_lt
    have q1 := up_hex (a8.toNat / 16) (by lia)
    have q2 := up_hex (a8.toNat % 16) (by lia)
    have q3 := up_hex (b8.toNat / 16) (by lia)
    have q4 := up_hex (b8.toNat % 16) (by lia)
    have r1 := (upC_plain (d := a8.toNat / 16) (by lia)).2
    have r2 := (upC_plain (d := a8.toNat % 16) (by lia)).2
    have r3 := (upC_plain (d := b8.toNat / 16) (by lia)).2
    have r4 := (upC_plain (d := b8.toNat % 16) (by lia)).2
    have hway : path [a8.toNat / 16, a8.toNat % 16, b8.toNat / 16, b8.toNat % 16] = wayOf x := by
      unfold wayOf digs
      (refine (let Gk : Prop := _; (?_ : Gk)))
      obtain ⟨y1, y2, y3, y4⟩ := hex_digs (X := x.toNat) (A := a8.toNat) (B := b8.toNat) ((Int.toNat_lt hbx.1).mpr hbx.2) (by lia) (by lia)
      ((show Gk); k_unfold; clear Gk)
      rw [y1, y2, y3, y4]
    (repeat' (first | ((with_reducible show @ite Prop _ _ _ _); walk1) | (k_unfold; (try dsimp only)) | ((fail_if_success (with_reducible (refine Mine.stp 8 ?_ ?_; (focus ((repeat' constructor); done))))); (first | ((fail_if_success (with_reducible show @Exists _ _)); k_end; wrow_close) | (first | (k_here; (with_reducible show wpAny _ _ (call _ [Value.bytes _ _, Value.str _ _]) _ _ _); refine Mine.call_str2 ?_ ?_ ?_ ?_ ?_) | ((with_reducible show wpAny _ _ (call (Value.builtin "str.encode") _ _) _ _ _); (k_here; refine Mine.call_enc ?_; dsimp only)) | ((with_reducible show wpAny _ _ (call (Value.builtin "bytes.upper") _ _) _ _ _); (k_here; refine Mine.call_upper ?_; dsimp only)) | ((with_reducible show wpAny _ _ (call (Value.builtin "bytes.hex") _ _) _ _ _); (k_here; refine Mine.call_hex2 ?_; dsimp only)) | (k_here; (with_reducible show wpAny _ _ (getMethod (Value.str _ _) (PySem.Str.ofString "encode") _) _ _ _); refine Mine.m_encode ?_) | (k_here; first | (with_reducible refine Mine.m_hex ?_) | (with_reducible refine Mine.m_upper ?_)) | (k_here; (with_reducible show wpAny _ _ (call _ [Value.bytes _ _]) _ _ _); refine call_type_of (Tx := "bytes") rfl (by decide +kernel) ?_) | walk1) | (dsimp only; (first | walk1 | skip)))) | ((fail_if_success (with_reducible show wpAny _ _ _ _ _ _)); dsimp only [Mine.MyPost]) | (leave1; try dsimp only) | fail "no step"))
    all_goals try (first | (rw [q1]; exact Nat.lt_succ_of_lt r1) | (rw [q2]; exact Nat.lt_succ_of_lt r2) | (rw [q3]; exact Nat.lt_succ_of_lt r3) | (rw [q4]; exact Nat.lt_succ_of_lt r4))
    rw [q1, q2, q3, q4]
    ((with_reducible rename News _ _ _ _ => Nz); (with_reducible rename Fr _ _ _ _ => Fz))
    refine star_str4 (by rfl) Fz Nz (fun w1 w2 w3 w4 h5 tk5 F5 N5 => ?_)
    clear Fz Nz
    (repeat' (first | ((with_reducible show @ite Prop _ _ _ _); walk1) | (k_unfold; (try dsimp only)) | ((fail_if_success (with_reducible (refine Mine.stp 8 ?_ ?_; (focus ((repeat' constructor); done))))); (first | ((fail_if_success (with_reducible show @Exists _ _)); k_end; wrow_close) | (first | (k_here; (with_reducible show wpAny _ _ (call _ [Value.bytes _ _, Value.str _ _]) _ _ _); refine Mine.call_str2 ?_ ?_ ?_ ?_ ?_) | ((with_reducible show wpAny _ _ (call (Value.builtin "str.encode") _ _) _ _ _); (k_here; refine Mine.call_enc ?_; dsimp only)) | ((with_reducible show wpAny _ _ (call (Value.builtin "bytes.upper") _ _) _ _ _); (k_here; refine Mine.call_upper ?_; dsimp only)) | ((with_reducible show wpAny _ _ (call (Value.builtin "bytes.hex") _ _) _ _ _); (k_here; refine Mine.call_hex2 ?_; dsimp only)) | (k_here; (with_reducible show wpAny _ _ (getMethod (Value.str _ _) (PySem.Str.ofString "encode") _) _ _ _); refine Mine.m_encode ?_) | (k_here; first | (with_reducible refine Mine.m_hex ?_) | (with_reducible refine Mine.m_upper ?_)) | (k_here; (with_reducible show wpAny _ _ (call _ [Value.bytes _ _]) _ _ _); refine call_type_of (Tx := "bytes") rfl (by decide +kernel) ?_) | walk1) | (dsimp only; (first | walk1 | skip)))) | ((fail_if_success (with_reducible show wpAny _ _ _ _ _ _)); dsimp only [Mine.MyPost]) | (leave1; try dsimp only) | fail "no step"))
    ((with_reducible rename News _ _ _ _ => Nz); (with_reducible rename Fr _ _ _ _ => Fz); (k_dflt (refine' Mine.RO_use (c_join w _ "/" _ ⟨#[upC (a8.toNat / 16)]⟩ ⟨#[upC (a8.toNat % 16)]⟩ ⟨#[upC (b8.toNat / 16)]⟩ ⟨#[upC (b8.toNat % 16)]⟩ _ _ _ _ (by decide +kernel) (by show 1 ≤ 40; decide) (by show 1 ≤ 40; decide) (by show 1 ≤ 40; decide) (by show 1 ≤ 40; decide)) ?k1ₘ ?k2ₘ ?k3ₘ ?k5ₘ ?k6ₘ ?k7ₘ ?k8ₘ ?kNₘ ?_; (case k1ₘ => k_asm); (case k2ₘ => k_asm); (case k3ₘ => k_asm); (case k5ₘ => k_asm); (case k6ₘ => first | exact rfl | assumption); (case k7ₘ => ktr_room); (case k8ₘ => ktr_units); (case kNₘ => k_asm); k_whole)); intro v9 h9 tk9 F9 N9 k9 e9; clear Fz Nz)
    obtain ⟨t7, rfl⟩ := e9
    rw [show (Str.ofString "/") = ⟨#[47]⟩ from slash_txt, join_path, hway]
    clear k9
    ((with_reducible rename News _ _ _ _ => Nz); (with_reducible rename Fr _ _ _ _ => Fz))
    refine ⟨_, _, _, rfl, Fz, news_sub Nz (by (intro pₘ hpₘ; (repeat (rcases List.mem_cons.mp hpₘ with hqₘ | hpₘ; (focus (rw [hqₘ]; k_mem)))); (repeat (first | exact hpₘ | apply List.mem_cons_of_mem)))), off', .inr ⟨_, .head _, rfl, _, rfl⟩, rfl, ?_⟩
    rw [List.take_add_one, hx, List.map_append]
    exact hys.snoc
  · intro ys news hJ46 D h tk F2 N2 o1'
    (refine (let Gk : Prop := _; (?_ : Gk)))
    obtain ⟨rfl, hys⟩ := hJ46
    ((show Gk); k_unfold; clear Gk)
    refine hret D ys h tk ?_ F2 N2 o1'
    rwa [List.take_of_length_le (by simp [hus.length])] at hys
end Mine
namespace Mine
open PySem PySem.W PySem.Calls PyProof.Rows PyProof.V PySem.Spec
section
variable {prog : Program} {w : World} {A : Around} {E : Value → Shared → Prop} {s : Shared}
theorem ne_same {a b : Value} {D : Dat} {as bs : List Addr} {Q : Value → Shared → Prop} (ra : Reads s.heap a (kqdP D) as) (rb : Reads s.heap b (kqdP D) bs) (ok : kqdOk 8 D = true) (hu : A.units + 64 < cLine) (h : Q (.bool false) s) :
    wpAny (model prog w) A (compareOp .NotEq a b) Q E s := by
  have l := kqd_lay 8 D ok
  have sh : SeqAt.shaped (kqdP D) = true := by unfold SeqAt.shaped; rw [l.1, Bool.true_and]; exact decide_eq_true (Nat.le_trans l.2 (by decide))
  refine ne_dataH ra rb sh sh hu ?_
  rw [(kqd_eqv 8 D D 8 ok ok).mpr rfl]
  exact h
theorem reads_strs (h : Heap) {vs : List Value} {xs : List Str} (H : Strs vs xs) : ∃ as, ReadsAll h vs (kqdPs (xs.map Dat.str)) as := by
  induction H with
  | nil => exact ⟨_, ReadsAll.nil⟩
  | cons _ ih => exact ih.elim fun _ q => ⟨_, ReadsAll.cons (Reads.str _ _) q⟩
noncomputable def pairD (kv : Str × Str) : Dat := .tuple [.str kv.1, .str kv.2]
theorem reads_items {h : Heap} {vs : List Value} {items : List (Str × Str)} (H : TabItems h vs items) : ∃ as, ReadsAll h vs (kqdPs (items.map pairD)) as := by
  induction H with
  | nil => exact ⟨_, ReadsAll.nil⟩
  | cons ha _ ih => exact ih.elim fun _ q => ⟨_, ReadsAll.cons (reads_tuple_at ha rfl rfl (ReadsAll.cons (Reads.str _ _) (ReadsAll.cons (Reads.str _ _) ReadsAll.nil))) q⟩
theorem plain_ok {x : Str} (h : Plain x) : PyData.strOk x = true := by
  unfold PyData.strOk
  rw [Array.all_eq_true']
  intro c hc
  have := h c (by simpa using hc)
  simp; lia
theorem strs_ok {n : Nat} {xs : List Str} (h : ∀ x ∈ xs, Plain x) : kqdOk (n + 1) (.list (xs.map Dat.str)) = true := by
  unfold kqdOk
  rw [List.all_map, List.all_eq_true]
  intro x hx
  show kqdOk n (.str x) = true
  cases n <;> exact plain_ok (h x hx)
theorem ne_strs {a b : Addr} {vs us : List Value} {k l : Nat} {xs : List Str} {Q : Value → Shared → Prop} (ha : s.heap.get? a = some { cls := .type "list", data := .seq vs.toArray k }) (hb : s.heap.get? b = some { cls := .type "list", data := .seq us.toArray l }) (h1 : Strs vs xs) (h2 : Strs us xs) (hp : ∀ x ∈ xs, Plain x) (hu : A.units + 64 < cLine) (h : Q (.bool false) s) :
    wpAny (model prog w) A (compareOp .NotEq (.ref a) (.ref b)) Q E s := by
  obtain ⟨as, r1⟩ := reads_strs s.heap h1
  obtain ⟨bs, r2⟩ := reads_strs s.heap h2
  exact ne_same (D := .list (xs.map Dat.str)) (reads_list_at ha rfl rfl r1) (reads_list_at hb rfl rfl r2) (strs_ok hp) hu h
end
section
variable {prog : Program} {w : World} {A : Around} {E : Value → Shared → Prop} {s : Shared} {h₀ : Heap} {L : Addr} {m : Str → Option Value} {env : Env}
theorem eval_comp_tup {elt iter : Expr} {x : Str} {px : Pos} {scope : Scope} {cl : List (Str × Addr)} {pos : Pos} {Q : Value → Shared → Prop} (F₀ : Fr h₀ L s.heap m)
    (hclos : closureFor scope env = pure cl) (hcell : ∀ z ∈ scope.names, z.2 ≠ .cell) (hkind : scope.kind = .function)
    (hnames : ∀ z ∈ scope.names, z.2 = .local → scope.names.lookup z.1 = some .local) (hx : scope.names.lookup x = some .local)
    (h : wpAny (model prog w) A (eval iter env) (SrcTup prog w A h₀ L m env elt x scope cl (fun s₂ => LCg.FinE h₀ L m s₂ Q)) E s)
    (hs : ∀ x, foldedSetIterable iter env x = pure x := by intro _; rfl) :
    wpAny (model prog w) A (eval (.ListComp elt [⟨.Name x px, iter, [], 0⟩] scope pos) env) Q E s := by
  revert F₀ hclos hcell hkind hnames hx h hs
  revert prog w A E s h₀ L m env elt iter x px scope cl pos Q
  iterate 4 refine no_implicit_lambda% (Mine.pad1 ?_)
  refine' no_implicit_lambda% (Mine.hk21 ?ne ?_)
  case ne => (repeat' (first | (refine Mine.nePair ?_ ?_) | exact Mine.neWorld | exact Mine.neAround | exact Mine.neShared | infer_instance))
  generalize Mine.A5 _ = prog; generalize Mine.A6 _ = w; generalize Mine.A7 _ = A; generalize Mine.A8 _ = E; generalize Mine.A9 _ = s; generalize Mine.A10 _ = h₀; generalize Mine.A11 _ = L; generalize Mine.A12 _ = m; generalize Mine.A13 _ = env; generalize Mine.A14 _ = elt; generalize Mine.A15 _ = iter; generalize Mine.A16 _ = x; generalize Mine.A17 _ = px; generalize Mine.A18 _ = scope; generalize Mine.A19 _ = cl; generalize Mine.A20 _ = pos; generalize Mine.A21 _ = Q
  intro uHk
  clear uHk
  intro F₀ hclos hcell hkind hnames hx h hs
  rw [eval_ListComp]
  refine wpAny_comprehension_free (use := none) rfl hs hclos hkind hnames (wpAny_mono h (fun xv s₁ h₁ => ?_) fun _ _ e => e)
  (refine (let Gk : Prop := _; (?_ : Gk)))
  obtain ⟨ax, its, k, news, rfl, hh, F, N, hm, hsz, R⟩ := h₁
  have hl : s₁.heap.IsTuple ax its := ⟨_, (N _ hm).1, rfl, k, rfl⟩
  have hlt : ax < s₁.heap.objs.size := by obtain ⟨_, e, _⟩ := hl; exact Heap.lt_size e
  ((show Gk); k_unfold; clear Gk)
  refine wpAny_pyIter_tuple hl ?_
  have up : ∀ b o, s₁.heap.get? b = some o → (s₁.heap.push { cls := .type "tuple_iterator", data := .fields #[.ref ax, .int 0 0] }).get? b = some o := fun b o e => Heap.get?_push_of_some _ e
  refine LCg.block_U (Walks.tuple hh s₁.heap.objs.size ax (Nat.ne_of_lt hlt) its) hsz (fun i h st => by obtain ⟨o, e, _⟩ := st.1; exact ⟨o, e⟩)
    (fun i h h' o nw st e e' kp N' hS => ⟨st.1.at fun o' q => by rw [e] at q; cases q; exact e', ⟨_, (N' _ hS).1, rfl, k, rfl⟩⟩) hcell hkind hx ⟨⟨_, Heap.get?_push_size _ rfl, rfl, rfl⟩, hl.at fun o e => up _ _ e⟩ (fun b hb => ?_)
    (F.keeps up) (N.grown up) (Nat.ne_of_lt F.ns.lt) (next_is_new F) (fun p hp => Nat.ne_of_lt (Heap.lt_size (N p hp).1)) hm (R _) ?_
  · show b < (s₁.heap.push _).objs.size
    rw [Heap.size_push]
    rcases List.mem_cons.mp hb with rfl | hb
    · exact Nat.lt_succ_self _
    · rw [List.mem_singleton.mp hb]; exact Nat.lt_succ_of_lt hlt
  · intro D C h tk m' ys news' F' N' o1 hn hC₀ hD₀ hCL hDL hCD offC fin
    refine ⟨m', hn, fun h'' hs'' => fin D h'' tk (F'.change hs'' hCL hC₀) (fun p hp => ?_) o1⟩
    refine ⟨hs''.extBut _ _ ?_ (N' p hp).1, (N' p hp).2⟩
    rcases List.mem_cons.mp hp with rfl | hp
    · exact Ne.symm hCD
    · exact offC p hp
end
end Mine
theorem Mine.off22 : True := by w_top off; trivial
namespace Mine
open PySem PySem.W PySem.Calls PyProof.Rows
noncomputable def lrCheck : Stmt := lrStmt 4
noncomputable def sgn (x : Int) (i : Nat) : Str := ⟨#[47, upC (x.toNat / 16 ^ (3 - i) % 16)]⟩
theorem hexs_item : ∀ n : Nat, n < 16 → Txt.item "0123456789ABCDEF" (n : Int) = ⟨#[upC n]⟩ := by decide +kernel
theorem item_hexs {x p : Int} (hx : 0 ≤ x) (hp : 1 ≤ p) : (("/" : Str) ++ Txt.item "0123456789ABCDEF" ((x.fdiv p).fmod 16)) = ⟨#[47, upC (x.toNat / p.toNat % 16)]⟩ := by
  rw [Int.fmod_eq_emod_of_nonneg _ (by decide), Int.fdiv_eq_ediv_of_nonneg _ (by lia)]
  have e : x / p % 16 = ((x.toNat / p.toNat % 16 : Nat) : Int) := by
    have h1 := Int.toNat_of_nonneg hx
    have h2 := Int.toNat_of_nonneg (show 0 ≤ p by lia)
    conv => lhs; rw [← h1, ← h2]
    norm_cast
  rw [e, hexs_item _ (Nat.mod_lt _ (by decide)), show ("/" : Str) = ⟨#[47]⟩ from slash_txt]
  rfl
theorem join_sgn {x : Int} (h0 : 0 ≤ x) (h1 : x < 65536) : Txt.join "" [sgn x 0, sgn x 1, sgn x 2, sgn x 3] = wayOf x := by
  show Builtin.Str.glued _ _ = _
  unfold Builtin.Str.glued
  rw [show (Str.ofString "").cps = #[] by decide +kernel]
  unfold wayOf digs sgn
  rw [show x.toNat / 4096 % 16 = x.toNat / 16 ^ (3 - 0) % 16 from rfl, show x.toNat / 256 % 16 = x.toNat / 16 ^ (3 - 1) % 16 from rfl, show x.toNat / 16 % 16 = x.toNat / 16 ^ (3 - 2) % 16 from rfl, show x.toNat % 16 = x.toNat / 16 ^ (3 - 3) % 16 by simp]
  rfl
theorem digs_lt (n : Nat) : ∀ d ∈ digs n, d < 16 := by
  intro d hd
  unfold digs at hd
  simp only [List.mem_cons, List.not_mem_nil, or_false] at hd
  lia
theorem way_plain (x : Int) : Plain (wayOf x) := path_plain (digs_lt _)
theorem run_check {w : World} {p : Program} {loose : List Str} {mean : ExcName → Option Value} {mg mb : Str → Option Value} {dp un : Nat} {gd : Option (List Code)} {cn : Str} {cs : Scope} {a : Addr} {ccd : Value} {cl : List (Str × Addr)} {outer : List Env} {base h₀ : Heap} {L L' : Addr} {m0 : Str → Option Value} {s : Shared} {Q : Flow → Shared → Prop} {E : Value → Shared → Prop} {nm wy : Addr} {us zs : List Value} {ns : List Int} {rest : Led}
    (B : Below (ktrTop dp un gd cn cs L a ccd cl outer) base (envX cn cs L a ccd cl :: outer) h₀) (X : (hd.heap_39 w.params).In h₀) (T : Top p loose mean mg mb h₀) (hk : cs.kind = .function) (hdp : dp + 80 < recursionLimit) (hun : un + 1600 < cLine)
    (F : Fr h₀ L' s.heap (fun y => if y = "ways" then some (.ref wy) else if y = "numbers" then some (.ref nm) else m0 y)) (N : News h₀ L' s.heap ((wy, LCg.lst zs) :: (nm, LCg.lst us) :: rest))
    (hus : IntsAre us ns) (hns : ns.length = 5) (hb : ∀ x ∈ ns, 0 ≤ x ∧ x < 65536) (hzs : Strs zs (ns.map wayOf))
    (hret : ∀ h' tk, Fr h₀ L' h' (fun y => if y = "ways" then some (.ref wy) else if y = "numbers" then some (.ref nm) else m0 y) → News h₀ L' h' ((wy, LCg.lst zs) :: (nm, LCg.lst us) :: rest) → Q .next { s with heap := h', toks := tk })
    (hE : PassesOwn (model PySem.Challenge.pw_rt0090_01 w) ((ktrTop dp un gd cn cs L a ccd cl outer).deeper (envOfC "_law_run" lrScope L' 333 (.ref 332))) (envOfC "_law_run" lrScope L' 333 (.ref 332)) E) :
    wpAny (model PySem.Challenge.pw_rt0090_01 w) ((ktrTop dp un gd cn cs L a ccd cl outer).deeper (envOfC "_law_run" lrScope L' 333 (.ref 332))) (exec lrCheck (envOfC "_law_run" lrScope L' 333 (.ref 332))) Q E s := by
  revert B X T hk hdp hun F N hus hns hb hzs hret hE
  revert w p loose mean mg mb dp un gd cn cs a ccd cl outer base h₀ L L' m0 s Q E nm wy us zs ns rest
  iterate 5 refine no_implicit_lambda% (Mine.pad1 ?_)
  refine' no_implicit_lambda% (Mine.hk34 ?ne ?_)
  case ne => (repeat' (first | (refine Mine.nePair ?_ ?_) | exact Mine.neWorld | exact Mine.neAround | exact Mine.neShared | infer_instance))
  generalize Mine.A6 _ = w; generalize Mine.A7 _ = p; generalize Mine.A8 _ = loose; generalize Mine.A9 _ = mean; generalize Mine.A10 _ = mg; generalize Mine.A11 _ = mb; generalize Mine.A12 _ = dp; generalize Mine.A13 _ = un; generalize Mine.A14 _ = gd; generalize Mine.A15 _ = cn; generalize Mine.A16 _ = cs; generalize Mine.A17 _ = a; generalize Mine.A18 _ = ccd; generalize Mine.A19 _ = cl; generalize Mine.A20 _ = outer; generalize Mine.A21 _ = base; generalize Mine.A22 _ = h₀; generalize Mine.A23 _ = L; generalize Mine.A24 _ = L'; generalize Mine.A25 _ = m0; generalize Mine.A26 _ = s; generalize Mine.A27 _ = Q; generalize Mine.A28 _ = E; generalize Mine.A29 _ = nm; generalize Mine.A30 _ = wy; generalize Mine.A31 _ = us; generalize Mine.A32 _ = zs; generalize Mine.A33 _ = ns; generalize Mine.A34 _ = rest
  intro uHk
  clear uHk
  intro B X T hk hdp hun F N hus hns hb hzs hret hE
  revert hE
  conv in (occs := *) lrScope => all_goals whnf
  conv in lrCheck => whnf
  intro hE
  (refine (let Akₘ : PySem.Around := _; (?_ : wpAny _ Akₘ _ _ _ _)))
  (repeat' (first | ((with_reducible show @ite Prop _ _ _ _); walk1) | (k_unfold; (try dsimp only)) | ((fail_if_success (with_reducible (refine Mine.stp 8 ?_ ?_; (focus ((repeat' constructor); done))))); (first | ((fail_if_success (with_reducible show @Exists _ _)); k_end; wrow_close) | walk1 | (dsimp only; walk1))) | ((fail_if_success (with_reducible show wpAny _ _ _ _ _ _)); dsimp only [Mine.MyPost]) | (leave1; try dsimp only) | fail "no step"))
  ((with_reducible rename News _ _ _ _ => Nz); (with_reducible rename Fr _ _ _ _ => Fz))
  k_dflt (refine eval_comp_cell (F₀ := Fz) (by with_unfolding_all rfl) (by rfl) (by decide) (by intro _; rfl) (by intro _; rfl) (by intro _ _; rfl) ?_)
  walk1
  ((with_reducible rename News _ _ _ _ => Nz); (with_reducible rename Fr _ _ _ _ => Fz))
  refine ⟨nm, List.toArray us, us.length, _, rfl, rfl, Fz, Nz, by k_mem, by rw [sizeLine_eq]; simp [hus.length, hns], fun i ys news => news = (wy, LCg.lst zs) :: (nm, LCg.lst us) :: rest ∧ Strs ys ((ns.take i).map wayOf), ⟨rfl, .nil⟩, ?_, ?_⟩
  · intro i ys news hi hJ47 v hv I oI C oC X oX D h tk E' hC hX F2 N2 off hm ne
    (refine (let Gk : Prop := _; (?_ : Gk)))
    obtain ⟨rfl, hys⟩ := hJ47
    clear Fz Nz
    obtain ⟨x, tv, rfl, hx⟩ := IntsAre.at hus i v (by simpa using hv)
    have hbx := hb x (List.mem_of_getElem? hx)
    ((show Gk); k_unfold; clear Gk)
    (repeat' (first | ((with_reducible show @ite Prop _ _ _ _); walk1) | (k_unfold; (try dsimp only)) | ((fail_if_success (with_reducible (refine Mine.stp 8 ?_ ?_; (focus ((repeat' constructor); done))))); (first | ((fail_if_success (with_reducible show @Exists _ _)); k_end; wrow_close) | walk1 | (dsimp only; walk1))) | ((fail_if_success (with_reducible show wpAny _ _ _ _ _ _)); dsimp only [Mine.MyPost]) | (leave1; try dsimp only) | fail "no step"))
    ((with_reducible rename News _ _ _ _ => Nz); (with_reducible rename Fr _ _ _ _ => Fz))
    k_dflt (refine eval_comp_tup (F₀ := Fz) (by with_unfolding_all rfl) (by decide) (by rfl) (by decide) (by rfl) ?_)
    (repeat' (first | ((with_reducible show @ite Prop _ _ _ _); walk1) | (k_unfold; (try dsimp only)) | ((fail_if_success (with_reducible (refine Mine.stp 8 ?_ ?_; (focus ((repeat' constructor); done))))); (first | ((fail_if_success (with_reducible show @Exists _ _)); k_end; wrow_close) | walk1 | (dsimp only; walk1))) | ((fail_if_success (with_reducible show wpAny _ _ _ _ _ _)); dsimp only [Mine.MyPost]) | (leave1; try dsimp only) | fail "no step"))
    ((with_reducible rename News _ _ _ _ => Nz); (with_reducible rename Fr _ _ _ _ => Fz))
    refine ⟨_, _, _, _, rfl, rfl, Fz, Nz, .head _, by rw [sizeLine_eq]; simp, fun g => ?_⟩
    clear Fz Nz
    refine compRest_of 4 (fun i ys news => news = _ ∧ Strs ys ((List.range i).map (sgn x))) ?_ ?_ 4 0 [] _ rfl ⟨rfl, .nil⟩
    · intro j qs news hj hJ48 v0 I' oI' C' oC' D' m' h' tk' E'' hP hC' hx' F3 N3 o3' ne'
      (refine (let Gk : Prop := _; (?_ : Gk)))
      obtain ⟨rfl, hqs⟩ := hJ48
      obtain ⟨t0', kk, rfl, hkk⟩ : ∃ t kk, v0 = .int kk t ∧ kk = 3 - (j : Int) := by
        have : j = 0 ∨ j = 1 ∨ j = 2 ∨ j = 3 := by lia
        rcases this with rfl | rfl | rfl | rfl <;> cases hP <;> exact ⟨_, _, rfl, rfl⟩
      have hk0 : 0 ≤ kk ∧ kk ≤ 3 := by lia
      have o4' := o3'
      obtain ⟨p16, e16, l16, u16⟩ : ∃ p : Int, p = 16 ^ kk.toNat ∧ 1 ≤ p ∧ p ≤ 4096 := ⟨_, rfl, by
        have := pow_cases (b := 16) (j := kk.toNat) (u := 4096) (by lia) (by decide) (by decide) (by decide) (by decide)
        rwa [show (0 + ((kk.toNat : Nat) : Int)).toNat = kk.toNat by lia] at this⟩
      (try simp only [LCg.Off3, and_true] at o3')
      ((show Gk); k_unfold; clear Gk)
      show wpAny _ _ _ _ _ { heap := h', gens := s.gens, drawn := s.drawn, toks := tk', os := s.os }
      (try k_fold)
      (repeat' (first | ((with_reducible show @ite Prop _ _ _ _); walk1) | (k_unfold; (try dsimp only)) | ((fail_if_success (with_reducible (refine Mine.stp 8 ?_ ?_; (focus ((repeat' constructor); done))))); (first | ((fail_if_success (with_reducible show @Exists _ _)); k_end; wrow_close) | walk1 | (dsimp only; walk1))) | ((fail_if_success (with_reducible show wpAny _ _ _ _ _ _)); dsimp only [Mine.MyPost]) | (leave1; try dsimp only) | fail "no step"))
      rw [← e16]
      (repeat' (first | ((with_reducible show @ite Prop _ _ _ _); walk1) | (k_unfold; (try dsimp only)) | ((fail_if_success (with_reducible (refine Mine.stp 8 ?_ ?_; (focus ((repeat' constructor); done))))); (first | ((fail_if_success (with_reducible show @Exists _ _)); k_end; wrow_close) | walk1 | (dsimp only; walk1))) | ((fail_if_success (with_reducible show wpAny _ _ _ _ _ _)); dsimp only [Mine.MyPost]) | (leave1; try dsimp only) | fail "no step"))
      ((with_reducible rename News _ _ _ _ => Nz); (with_reducible rename Fr _ _ _ _ => Fz))
      refine ⟨_, _, _, rfl, Fz, Nz, o4', .head _, rfl, ?_⟩
      rw [List.range_succ, List.map_append]
      have hval : (("/" : Str) ++ Txt.item "0123456789ABCDEF" ((x.fdiv p16).fmod 16)) = sgn x j := by
        rw [item_hexs hbx.1 l16]
        unfold sgn
        rw [show p16.toNat = 16 ^ (3 - j) by rw [e16, show kk.toNat = 3 - j by lia]; norm_cast]
      rw [hval]
      exact hqs.snoc
    · intro qs news hJ49 D' h' tk' F3 N3 o1'
      (refine (let Gk : Prop := _; (?_ : Gk)))
      obtain ⟨rfl, hqs⟩ := hJ49
      have hqs' : Strs qs [sgn x 0, sgn x 1, sgn x 2, sgn x 3] := hqs
      obtain ⟨y1, y2, y3, y4, rfl⟩ := strs4 hqs'
      have hjo := join_sgn hbx.1 hbx.2
      have hjl : (Txt.join "" [sgn x 0, sgn x 1, sgn x 2, sgn x 3]).length ≤ 200 := by rw [hjo]; unfold wayOf; rw [path_len]; simp [digs]
      have g0 : (sgn x 0).length ≤ 40 := by show 2 ≤ 40; decide
      have g1 : (sgn x 1).length ≤ 40 := by show 2 ≤ 40; decide
      have g2 : (sgn x 2).length ≤ 40 := by show 2 ≤ 40; decide
      have g3 : (sgn x 3).length ≤ 40 := by show 2 ≤ 40; decide
      ((show Gk); k_unfold; clear Gk)
      show wpAny _ _ _ _ _ { heap := h', gens := s.gens, drawn := s.drawn, toks := tk', os := s.os }
      (try k_fold)
      (repeat' (first | ((with_reducible show @ite Prop _ _ _ _); walk1) | (k_unfold; (try dsimp only)) | ((fail_if_success (with_reducible (refine Mine.stp 8 ?_ ?_; (focus ((repeat' constructor); done))))); (first | ((fail_if_success (with_reducible show @Exists _ _)); k_end; wrow_close) | walk1 | (dsimp only; walk1))) | ((fail_if_success (with_reducible show wpAny _ _ _ _ _ _)); dsimp only [Mine.MyPost]) | (leave1; try dsimp only) | fail "no step"))
      ((with_reducible rename News _ _ _ _ => Nz); (with_reducible rename Fr _ _ _ _ => Fz))
      rw [hjo]
      refine ⟨⟨_, _, _, rfl, Fz, news_sub Nz (by (intro pₘ hpₘ; (repeat (rcases List.mem_cons.mp hpₘ with hqₘ | hpₘ; (focus (rw [hqₘ]; k_mem)))); (repeat (first | exact hpₘ | apply List.mem_cons_of_mem)))), off, hm, rfl, ?_⟩⟩
      rw [List.take_add_one, hx, List.map_append]
      exact hys.snoc
  · intro ys news hJ50 D h tk F2 N2 o1'
    (refine (let Gk : Prop := _; (?_ : Gk)))
    obtain ⟨rfl, hys⟩ := hJ50
    rw [List.take_of_length_le (by simp [hus.length])] at hys
    clear Fz Nz
    ((show Gk); k_unfold; clear Gk)
    show wpAny _ _ _ _ _ { heap := h, gens := s.gens, drawn := s.drawn, toks := tk, os := s.os }
    (try k_fold)
    refine ne_strs (News.get N2 (by k_mem)) (News.get N2 (by k_mem)) hzs hys (fun x hx => ?_) (by k_units) ?_
    · (refine (let Gk : Prop := _; (?_ : Gk)))
      obtain ⟨y, hy, rfl⟩ := List.mem_map.mp hx
      ((show Gk); k_unfold; clear Gk)
      exact way_plain y
    (repeat' (first | ((with_reducible show @ite Prop _ _ _ _); walk1) | (k_unfold; (try dsimp only)) | ((fail_if_success (with_reducible (refine Mine.stp 8 ?_ ?_; (focus ((repeat' constructor); done))))); (first | ((fail_if_success (with_reducible show @Exists _ _)); k_end; wrow_close) | walk1 | (dsimp only; walk1))) | ((fail_if_success (with_reducible show wpAny _ _ _ _ _ _)); dsimp only [Mine.MyPost]) | (leave1; try dsimp only) | fail "no step"))
    exact hret h tk F2 (news_sub N2 (by (intro pₘ hpₘ; (repeat (rcases List.mem_cons.mp hpₘ with hqₘ | hpₘ; (focus (rw [hqₘ]; k_mem)))); (repeat (first | exact hpₘ | apply List.mem_cons_of_mem)))))
end Mine
theorem Mine.off23 : True := by w_top off; trivial
namespace Mine
open PySem PySem.W PySem.Calls PyProof.Rows
noncomputable def forBody (x : Stmt) : List Stmt := match x with | .For _ _ b _ _ => b | _ => []
noncomputable def lrTurn (i : Nat) : Stmt := nthStmtF (forBody (lrStmt 6)) i
theorem strs_drop {vs : List Value} {xs : List Str} {k : Nat} (h : Strs vs xs) : Strs (vs.drop k) (xs.drop k) := by
  induction h generalizing k with
  | nil => rw [List.drop_nil, List.drop_nil]; exact .nil
  | cons h ih =>
    cases k with
    | zero => exact .cons h
    | succ k => exact ih
theorem strs_take {vs : List Value} {xs : List Str} {k : Nat} (h : Strs vs xs) : Strs (vs.take k) (xs.take k) := by
  induction h generalizing k with
  | nil => rw [List.take_nil, List.take_nil]; exact .nil
  | cons h ih =>
    cases k with
    | zero => exact .nil
    | succ k => exact .cons ih
theorem strs_rev {vs : List Value} {xs : List Str} (h : Strs vs xs) : Strs vs.reverse xs.reverse := by
  induction h with
  | nil => exact .nil
  | cons _ ih => rw [List.reverse_cons, List.reverse_cons]; exact ih.append (.cons .nil)
theorem pick_from {l : List Value} {i : Int} (h : 0 ≤ i) : kms_pick l (some i) none = l.drop i.toNat := by
  unfold kms_pick kms_lo kms_hi
  simp only [if_neg (show ¬ i < 0 by lia)]
  rcases Nat.le_total i.toNat l.length with q | q
  · rw [Nat.min_eq_left q, List.take_of_length_le (by simp)]
  · rw [Nat.min_eq_right q, List.drop_of_length_le q]; simp
theorem pick_to {l : List Value} {i : Int} (h : 0 ≤ i) : kms_pick l none (some i) = l.take i.toNat := by
  unfold kms_pick kms_lo kms_hi
  simp only [if_neg (show ¬ i < 0 by lia), List.drop_zero, Nat.sub_zero]
  rcases Nat.le_total i.toNat l.length with q | q
  · rw [Nat.min_eq_left q]
  · rw [Nat.min_eq_right q, List.take_of_length_le q, List.take_of_length_le (Nat.le_refl _)]
theorem run_turned {w : World} {p : Program} {loose : List Str} {mean : ExcName → Option Value} {mg mb : Str → Option Value} {dp un : Nat} {gd : Option (List Code)} {cn : Str} {cs : Scope} {a : Addr} {ccd : Value} {cl : List (Str × Addr)} {outer : List Env} {base h₀ : Heap} {L L' : Addr} {m0 : Str → Option Value} {s : Shared} {Q : Flow → Shared → Prop} {E : Value → Shared → Prop} {oc wy : Addr} {o1 : Obj} {zs : List Value} {ws : List Str} {rest : Led} {n : Nat} {kv : Int} {tkk : Tok} {c0 c1 c2 c3 c4 c5 c6 c7 c8 : Int} {t0 t1 t2 t3 t4 t5 t6 t7 t8 : Tok}
    (B : Below (ktrTop dp un gd cn cs L a ccd cl outer) base (envX cn cs L a ccd cl :: outer) h₀) (X : (hd.heap_39 w.params).In h₀) (T : Top p loose mean mg mb h₀) (hk : cs.kind = .function) (hdp : dp + 80 < recursionLimit) (hun : un + 1600 < cLine)
    (ho : h₀.get? oc = some { cls := .type "list", data := .seq #[.int c0 t0, .int c1 t1, .int c2 t2, .int c3 t3, .int c4 t4, .int c5 t5, .int c6 t6, .int c7 t7, .int c8 t8] n })
    (F : Fr h₀ L' s.heap (fun y => if y = "k" then some (.int kv tkk) else if y = "ways" then some (.ref wy) else m0 y)) (N : News h₀ L' s.heap ((wy, LCg.lst zs) :: (L' + 1, o1) :: rest))
    (hzs : Strs zs ws) (hws : ws.length = 5) (ho1 : o1.data = Data.cell (some (.ref oc)))
    (hret : ∀ O ys h' tk, Strs ys (ws.drop ((c6 + kv) % 5).toNat ++ ws.take ((c6 + kv) % 5).toNat) → Fr h₀ L' h' (fun y => if y = "turned" then some (.ref O) else if y = "k" then some (.int kv tkk) else if y = "ways" then some (.ref wy) else m0 y) → News h₀ L' h' ((O, { cls := .type "list", data := .seq (List.toArray ys) 0 }) :: (wy, LCg.lst zs) :: (L' + 1, o1) :: rest) → Q .next { s with heap := h', toks := tk })
    (hE : PassesOwn (model PySem.Challenge.pw_rt0090_01 w) ((ktrTop dp un gd cn cs L a ccd cl outer).deeper (envOfC "_law_run" lrScope L' 333 (.ref 332))) (envOfC "_law_run" lrScope L' 333 (.ref 332)) E) :
    wpAny (model PySem.Challenge.pw_rt0090_01 w) ((ktrTop dp un gd cn cs L a ccd cl outer).deeper (envOfC "_law_run" lrScope L' 333 (.ref 332))) (exec (lrTurn 0) (envOfC "_law_run" lrScope L' 333 (.ref 332))) Q E s := by
  revert B X T hk hdp hun ho F N hzs hws ho1 hret hE
  revert w p loose mean mg mb dp un gd cn cs a ccd cl outer base h₀ L L' m0 s Q E oc wy o1 zs ws rest n kv tkk c0 c1 c2 c3 c4 c5 c6 c7 c8 t0 t1 t2 t3 t4 t5 t6 t7 t8
  iterate 9 refine no_implicit_lambda% (Mine.pad1 ?_)
  refine' no_implicit_lambda% (Mine.hk59 ?ne ?_)
  case ne => (repeat' (first | (refine Mine.nePair ?_ ?_) | exact Mine.neWorld | exact Mine.neAround | exact Mine.neShared | infer_instance))
  generalize Mine.A10 _ = w; generalize Mine.A11 _ = p; generalize Mine.A12 _ = loose; generalize Mine.A13 _ = mean; generalize Mine.A14 _ = mg; generalize Mine.A15 _ = mb; generalize Mine.A16 _ = dp; generalize Mine.A17 _ = un; generalize Mine.A18 _ = gd; generalize Mine.A19 _ = cn; generalize Mine.A20 _ = cs; generalize Mine.A21 _ = a; generalize Mine.A22 _ = ccd; generalize Mine.A23 _ = cl; generalize Mine.A24 _ = outer; generalize Mine.A25 _ = base; generalize Mine.A26 _ = h₀; generalize Mine.A27 _ = L; generalize Mine.A28 _ = L'; generalize Mine.A29 _ = m0; generalize Mine.A30 _ = s; generalize Mine.A31 _ = Q; generalize Mine.A32 _ = E; generalize Mine.A33 _ = oc; generalize Mine.A34 _ = wy; generalize Mine.A35 _ = o1; generalize Mine.A36 _ = zs; generalize Mine.A37 _ = ws; generalize Mine.A38 _ = rest; generalize Mine.A39 _ = n; generalize Mine.A40 _ = kv; generalize Mine.A41 _ = tkk; generalize Mine.A42 _ = c0; generalize Mine.A43 _ = c1; generalize Mine.A44 _ = c2; generalize Mine.A45 _ = c3; generalize Mine.A46 _ = c4; generalize Mine.A47 _ = c5; generalize Mine.A48 _ = c6; generalize Mine.A49 _ = c7; generalize Mine.A50 _ = c8; generalize Mine.A51 _ = t0; generalize Mine.A52 _ = t1; generalize Mine.A53 _ = t2; generalize Mine.A54 _ = t3; generalize Mine.A55 _ = t4; generalize Mine.A56 _ = t5; generalize Mine.A57 _ = t6; generalize Mine.A58 _ = t7; generalize Mine.A59 _ = t8
  intro uHk
  clear uHk
  intro B X T hk hdp hun ho F N hzs hws ho1 hret hE
  revert hE
  conv in (occs := *) lrScope => all_goals whnf
  conv in lrTurn 0 => whnf
  intro hE
  (refine (let Akₘ : PySem.Around := _; (?_ : wpAny _ Akₘ _ _ _ _)))
  (repeat' (first | ((with_reducible show @ite Prop _ _ _ _); walk1) | (k_unfold; (try dsimp only)) | ((fail_if_success (with_reducible (refine Mine.stp 11 ?_ ?_; (focus ((repeat' constructor); done))))); (first | ((fail_if_success (with_reducible show @Exists _ _)); k_end; wrow_close) | walk1 | (dsimp only; walk1))) | ((fail_if_success (with_reducible show wpAny _ _ _ _ _ _)); dsimp only [Mine.MyPost]) | (leave1; try dsimp only) | fail "no step"))
  ((with_reducible rename News _ _ _ _ => Nz); (with_reducible rename Fr _ _ _ _ => Fz))
  refine item_at (vs := [.int c0 t0, .int c1 t1, .int c2 t2, .int c3 t3, .int c4 t4, .int c5 t5, .int c6 t6, .int c7 t7, .int c8 t8]) (k := 6) ⟨_, Fz.keep _ _ ho, rfl, n, rfl⟩ rfl (by simp) ?_
  (repeat' (first | ((with_reducible show @ite Prop _ _ _ _); walk1) | (k_unfold; (try dsimp only)) | ((fail_if_success (with_reducible (refine Mine.stp 11 ?_ ?_; (focus ((repeat' constructor); done))))); (first | ((fail_if_success (with_reducible show @Exists _ _)); k_end; wrow_close) | walk1 | (dsimp only; walk1))) | ((fail_if_success (with_reducible show wpAny _ _ _ _ _ _)); dsimp only [Mine.MyPost]) | (leave1; try dsimp only) | fail "no step"))
  (k_here; k_dflt (refine' kms_slice_lit ?Fₘ ?Nₘ ?lₘ ?pₘ ?qₘ ?eₘ ?_ ?sₘ ?tₘ ?zₘ; (case Fₘ => k_asm); (case Nₘ => k_asm); (case lₘ => exact Mine.lst_is (News.get (by k_asm) (by k_mem))); (case pₘ => kmk_part); (case qₘ => kmk_part); (case eₘ => rfl); (case sₘ => with_unfolding_all rfl); (case tₘ => kmk_pure); (case zₘ => rw [sizeLine_eq]; first | (simp; lia) | (have := Mine.Strs.len (by assumption); simp; lia))); intro D'ₘ h'ₘ F'ₘ N'ₘ l1ₘ; (try k_lt l1ₘ))
  try dsimp only
  (repeat' (first | ((with_reducible show @ite Prop _ _ _ _); walk1) | (k_unfold; (try dsimp only)) | ((fail_if_success (with_reducible (refine Mine.stp 11 ?_ ?_; (focus ((repeat' constructor); done))))); (first | ((fail_if_success (with_reducible show @Exists _ _)); k_end; wrow_close) | walk1 | (dsimp only; walk1))) | ((fail_if_success (with_reducible show wpAny _ _ _ _ _ _)); dsimp only [Mine.MyPost]) | (leave1; try dsimp only) | fail "no step"))
  try dsimp only
  ((with_reducible rename News _ _ _ _ => Nz); (with_reducible rename Fr _ _ _ _ => Fz))
  refine item_at (vs := [.int c0 t0, .int c1 t1, .int c2 t2, .int c3 t3, .int c4 t4, .int c5 t5, .int c6 t6, .int c7 t7, .int c8 t8]) (k := 6) ⟨_, Fz.keep _ _ ho, rfl, n, rfl⟩ rfl (by simp) ?_
  (repeat' (first | ((with_reducible show @ite Prop _ _ _ _); walk1) | (k_unfold; (try dsimp only)) | ((fail_if_success (with_reducible (refine Mine.stp 11 ?_ ?_; (focus ((repeat' constructor); done))))); (first | ((fail_if_success (with_reducible show @Exists _ _)); k_end; wrow_close) | walk1 | (dsimp only; walk1))) | ((fail_if_success (with_reducible show wpAny _ _ _ _ _ _)); dsimp only [Mine.MyPost]) | (leave1; try dsimp only) | fail "no step"))
  (k_here; k_dflt (refine' kms_slice_lit ?Fₘ ?Nₘ ?lₘ ?pₘ ?qₘ ?eₘ ?_ ?sₘ ?tₘ ?zₘ; (case Fₘ => k_asm); (case Nₘ => k_asm); (case lₘ => exact Mine.lst_is (News.get (by k_asm) (by k_mem))); (case pₘ => kmk_part); (case qₘ => kmk_part); (case eₘ => rfl); (case sₘ => with_unfolding_all rfl); (case tₘ => kmk_pure); (case zₘ => rw [sizeLine_eq]; first | (simp; lia) | (have := Mine.Strs.len (by assumption); simp; lia))); intro D'ₘ h'ₘ F'ₘ N'ₘ l1ₘ; (try k_lt l1ₘ))
  try dsimp only
  (repeat' (first | ((with_reducible show @ite Prop _ _ _ _); walk1) | (k_unfold; (try dsimp only)) | ((fail_if_success (with_reducible (refine Mine.stp 11 ?_ ?_; (focus ((repeat' constructor); done))))); (first | ((fail_if_success (with_reducible show @Exists _ _)); k_end; wrow_close) | walk1 | (dsimp only; walk1))) | ((fail_if_success (with_reducible show wpAny _ _ _ _ _ _)); dsimp only [Mine.MyPost]) | (leave1; try dsimp only) | fail "no step"))
  ((with_reducible rename News _ _ _ _ => Nz); (with_reducible rename Fr _ _ _ _ => Fz))
  have hzl := hzs.len
  refine kmk_add_lit Fz Nz ⟨_, (Nz _ (.tail _ (.head _))).1, rfl, 0, rfl⟩ ⟨_, (Nz _ (.head _)).1, rfl, 0, rfl⟩ rfl (fun D h' F N l1 => ?_) (by rw [sizeLine_eq]; simp only [List.toList_toArray, pick_from (show 0 ≤ (c6 + kv).fmod 5 by rw [Int.fmod_eq_emod_of_nonneg _ (by decide)]; lia), pick_to (show 0 ≤ (c6 + kv).fmod 5 by rw [Int.fmod_eq_emod_of_nonneg _ (by decide)]; lia)]; simp; lia)
  clear Fz Nz
  try dsimp only
  (repeat' (first | ((with_reducible show @ite Prop _ _ _ _); walk1) | (k_unfold; (try dsimp only)) | ((fail_if_success (with_reducible (refine Mine.stp 11 ?_ ?_; (focus ((repeat' constructor); done))))); (first | ((fail_if_success (with_reducible show @Exists _ _)); k_end; wrow_close) | walk1 | (dsimp only; walk1))) | ((fail_if_success (with_reducible show wpAny _ _ _ _ _ _)); dsimp only [Mine.MyPost]) | (leave1; try dsimp only) | fail "no step"))
  ((with_reducible rename News _ _ _ _ => Nz); (with_reducible rename Fr _ _ _ _ => Fz))
  refine hret _ _ _ _ ?_ Fz (news_sub Nz (by (intro pₘ hpₘ; (repeat (rcases List.mem_cons.mp hpₘ with hqₘ | hpₘ; (focus (rw [hqₘ]; k_mem)))); (repeat (first | exact hpₘ | apply List.mem_cons_of_mem)))))
  have hi : 0 ≤ (c6 + kv).fmod 5 := by rw [Int.fmod_eq_emod_of_nonneg _ (by decide)]; lia
  simp only [List.toList_toArray, pick_from hi, pick_to hi]
  rw [← Int.fmod_eq_emod_of_nonneg _ (by decide : (0 : Int) ≤ 5)]
  exact (strs_drop hzs).append (strs_take hzs)
theorem run_pick {w : World} {p : Program} {loose : List Str} {mean : ExcName → Option Value} {mg mb : Str → Option Value} {dp un : Nat} {gd : Option (List Code)} {cn : Str} {cs : Scope} {a : Addr} {ccd : Value} {cl : List (Str × Addr)} {outer : List Env} {base h₀ : Heap} {L L' : Addr} {m0 : Str → Option Value} {s : Shared} {Q : Flow → Shared → Prop} {E : Value → Shared → Prop} {oc O : Addr} {o1 : Obj} {ys : List Value} {ws : List Str} {rest : Led} {n : Nat} {c0 c1 c2 c3 c4 c5 c6 c7 c8 : Int} {t0 t1 t2 t3 t4 t5 t6 t7 t8 : Tok}
    (B : Below (ktrTop dp un gd cn cs L a ccd cl outer) base (envX cn cs L a ccd cl :: outer) h₀) (X : (hd.heap_39 w.params).In h₀) (T : Top p loose mean mg mb h₀) (hk : cs.kind = .function) (hdp : dp + 80 < recursionLimit) (hun : un + 1600 < cLine)
    (ho : h₀.get? oc = some { cls := .type "list", data := .seq #[.int c0 t0, .int c1 t1, .int c2 t2, .int c3 t3, .int c4 t4, .int c5 t5, .int c6 t6, .int c7 t7, .int c8 t8] n })
    (F : Fr h₀ L' s.heap (fun y => if y = "turned" then some (.ref O) else m0 y)) (N : News h₀ L' s.heap ((O, { cls := .type "list", data := .seq (List.toArray ys) 0 }) :: (L' + 1, o1) :: rest))
    (hys : Strs ys ws) (hws : ws.length = 5) (ho1 : o1.data = Data.cell (some (.ref oc)))
    (hret : ∀ O' ys' ws' h' tk, (ws' = ws ∨ ws' = ws.reverse) → Strs ys' ws' → Fr h₀ L' h' (fun y => if y = "order" then some (.ref O') else if y = "turned" then some (.ref O) else m0 y) → News h₀ L' h' ((O', { cls := .type "list", data := .seq (List.toArray ys') 0 }) :: (L' + 1, o1) :: rest) → Q .next { s with heap := h', toks := tk })
    (hE : PassesOwn (model PySem.Challenge.pw_rt0090_01 w) ((ktrTop dp un gd cn cs L a ccd cl outer).deeper (envOfC "_law_run" lrScope L' 333 (.ref 332))) (envOfC "_law_run" lrScope L' 333 (.ref 332)) E) :
    wpAny (model PySem.Challenge.pw_rt0090_01 w) ((ktrTop dp un gd cn cs L a ccd cl outer).deeper (envOfC "_law_run" lrScope L' 333 (.ref 332))) (exec (lrTurn 1) (envOfC "_law_run" lrScope L' 333 (.ref 332))) Q E s := by
  revert B X T hk hdp hun ho F N hys hws ho1 hret hE
  revert w p loose mean mg mb dp un gd cn cs a ccd cl outer base h₀ L L' m0 s Q E oc O o1 ys ws rest n c0 c1 c2 c3 c4 c5 c6 c7 c8 t0 t1 t2 t3 t4 t5 t6 t7 t8
  refine' no_implicit_lambda% (Mine.hk48 ?ne ?_)
  case ne => (repeat' (first | (refine Mine.nePair ?_ ?_) | exact Mine.neWorld | exact Mine.neAround | exact Mine.neShared | infer_instance))
  generalize Mine.A1 _ = w; generalize Mine.A2 _ = p; generalize Mine.A3 _ = loose; generalize Mine.A4 _ = mean; generalize Mine.A5 _ = mg; generalize Mine.A6 _ = mb; generalize Mine.A7 _ = dp; generalize Mine.A8 _ = un; generalize Mine.A9 _ = gd; generalize Mine.A10 _ = cn; generalize Mine.A11 _ = cs; generalize Mine.A12 _ = a; generalize Mine.A13 _ = ccd; generalize Mine.A14 _ = cl; generalize Mine.A15 _ = outer; generalize Mine.A16 _ = base; generalize Mine.A17 _ = h₀; generalize Mine.A18 _ = L; generalize Mine.A19 _ = L'; generalize Mine.A20 _ = m0; generalize Mine.A21 _ = s; generalize Mine.A22 _ = Q; generalize Mine.A23 _ = E; generalize Mine.A24 _ = oc; generalize Mine.A25 _ = O; generalize Mine.A26 _ = o1; generalize Mine.A27 _ = ys; generalize Mine.A28 _ = ws; generalize Mine.A29 _ = rest; generalize Mine.A30 _ = n; generalize Mine.A31 _ = c0; generalize Mine.A32 _ = c1; generalize Mine.A33 _ = c2; generalize Mine.A34 _ = c3; generalize Mine.A35 _ = c4; generalize Mine.A36 _ = c5; generalize Mine.A37 _ = c6; generalize Mine.A38 _ = c7; generalize Mine.A39 _ = c8; generalize Mine.A40 _ = t0; generalize Mine.A41 _ = t1; generalize Mine.A42 _ = t2; generalize Mine.A43 _ = t3; generalize Mine.A44 _ = t4; generalize Mine.A45 _ = t5; generalize Mine.A46 _ = t6; generalize Mine.A47 _ = t7; generalize Mine.A48 _ = t8
  intro uHk
  clear uHk
  intro B X T hk hdp hun ho F N hys hws ho1 hret hE
  revert hE
  conv in (occs := *) lrScope => all_goals whnf
  conv in lrTurn 1 => whnf
  intro hE
  (refine (let Akₘ : PySem.Around := _; (?_ : wpAny _ Akₘ _ _ _ _)))
  (repeat' (first | ((with_reducible show @ite Prop _ _ _ _); walk1) | (k_unfold; (try dsimp only)) | ((fail_if_success (with_reducible (refine Mine.stp 11 ?_ ?_; (focus ((repeat' constructor); done))))); (first | ((fail_if_success (with_reducible show @Exists _ _)); k_end; wrow_close) | walk1 | (dsimp only; walk1))) | ((fail_if_success (with_reducible show wpAny _ _ _ _ _ _)); dsimp only [Mine.MyPost]) | (leave1; try dsimp only) | fail "no step"))
  ((with_reducible rename News _ _ _ _ => Nz); (with_reducible rename Fr _ _ _ _ => Fz))
  refine item_at (vs := [.int c0 t0, .int c1 t1, .int c2 t2, .int c3 t3, .int c4 t4, .int c5 t5, .int c6 t6, .int c7 t7, .int c8 t8]) (k := 6) ⟨_, Fz.keep _ _ ho, rfl, n, rfl⟩ rfl (by simp) ?_
  (repeat' (first | ((with_reducible show @ite Prop _ _ _ _); walk1) | (k_unfold; (try dsimp only)) | ((fail_if_success (with_reducible (refine Mine.stp 11 ?_ ?_; (focus ((repeat' constructor); done))))); (first | ((fail_if_success (with_reducible show @Exists _ _)); k_end; wrow_close) | walk1 | (dsimp only; walk1))) | ((fail_if_success (with_reducible show wpAny _ _ _ _ _ _)); dsimp only [Mine.MyPost]) | (leave1; try dsimp only) | fail "no step"))
  · (k_here; k_dflt (refine' krv_lit ?Fₘ ?Nₘ ?lₘ ?kₘ ?eₘ ?_ ?sₘ ?tₘ ?zₘ; (case Fₘ => k_asm); (case Nₘ => k_asm); (case lₘ => exact Mine.lst_is (News.get (by k_asm) (by k_mem))); (case kₘ => exact IsPart.int _ _); (case eₘ => rfl); (case sₘ => with_unfolding_all rfl); (case tₘ => kmk_pure); (case zₘ => rw [sizeLine_eq]; (have := Mine.Strs.len (by assumption)); simp; lia)); intro D'ₘ h'ₘ F'ₘ N'ₘ l1ₘ; (try k_lt l1ₘ))
    try dsimp only
    (repeat' (first | ((with_reducible show @ite Prop _ _ _ _); walk1) | (k_unfold; (try dsimp only)) | ((fail_if_success (with_reducible (refine Mine.stp 11 ?_ ?_; (focus ((repeat' constructor); done))))); (first | ((fail_if_success (with_reducible show @Exists _ _)); k_end; wrow_close) | walk1 | (dsimp only; walk1))) | ((fail_if_success (with_reducible show wpAny _ _ _ _ _ _)); dsimp only [Mine.MyPost]) | (leave1; try dsimp only) | fail "no step"))
    ((with_reducible rename News _ _ _ _ => Nz); (with_reducible rename Fr _ _ _ _ => Fz))
    exact hret _ _ _ _ _ (.inr rfl) (by simpa using strs_rev hys) Fz (news_sub Nz (by (intro pₘ hpₘ; (repeat (rcases List.mem_cons.mp hpₘ with hqₘ | hpₘ; (focus (rw [hqₘ]; k_mem)))); (repeat (first | exact hpₘ | apply List.mem_cons_of_mem)))))
  · ((with_reducible rename News _ _ _ _ => Nz); (with_reducible rename Fr _ _ _ _ => Fz))
    exact hret _ _ _ _ _ (.inl rfl) hys Fz Nz
end Mine
theorem Mine.off24 : True := by w_top off; trivial
namespace Mine
open PySem PySem.W PySem.Calls PyProof.Rows
noncomputable def TabObjL (w : World) (TL : Led) (x : Addr) (items : List (Str × Str)) : Prop := ∃ d l tk n vs tups, (x, instObj 171 d) ∈ TL ∧
  (d, dictOf [{ hash := PyData.keyHash w.params "_headers", key := .str "_headers" tk, val := .ref l }] 1) ∈ TL ∧ (l, ({ cls := .type "list", data := .seq (List.toArray vs) n } : Obj)) ∈ TL ∧ (∀ p ∈ tups, p ∈ TL) ∧ TabLed tups vs items
theorem TabObjL.mono {w : World} {TL TL' : Led} {x : Addr} {items : List (Str × Str)} (k : ∀ p ∈ TL, p ∈ TL') (H : TabObjL w TL x items) : TabObjL w TL' x items := by
  (refine (let Gk : Prop := _; (?_ : Gk)))
  obtain ⟨d, l, tk, n, vs, tups, h1, h2, h3, h4, h5⟩ := H
  ((show Gk); k_unfold; clear Gk)
  exact ⟨d, l, tk, n, vs, tups, k _ h1, k _ h2, k _ h3, fun p hp => k _ (h4 p hp), h5⟩
theorem TabObjL.obj {w : World} {h₀ h : Heap} {L : Addr} {TL : Led} {x : Addr} {items : List (Str × Str)} (N : News h₀ L h TL) (H : TabObjL w TL x items) : TabObj w h x items := by
  (refine (let Gk : Prop := _; (?_ : Gk)))
  obtain ⟨d, l, tk, n, vs, tups, h1, h2, h3, h4, h5⟩ := H
  ((show Gk); k_unfold; clear Gk)
  exact ⟨d, l, tk, n, vs, (N _ h1).1, (N _ h2).1, (N _ h3).1, h5.items N h4⟩
theorem due_ok {items : List (Str × Str)} {told : List Str} (h1 : ∀ kv ∈ items, Plain kv.1 ∧ Plain kv.2) (h2 : ∀ x ∈ told, Plain x) : kqdOk 8 (.tuple [.list (items.map pairD), .list (told.map Dat.str)]) = true := by
  have e1 : kqdOk 7 (.list (items.map pairD)) = true := by
    unfold kqdOk
    rw [List.all_map, List.all_eq_true]
    intro kv hkv
    show kqdOk 6 (pairD kv) = true
    unfold pairD kqdOk
    simp only [List.all_cons, List.all_nil, Bool.and_true, Bool.and_eq_true]
    exact ⟨plain_ok (h1 kv hkv).1, plain_ok (h1 kv hkv).2⟩
  have e2 : kqdOk 7 (.list (told.map Dat.str)) = true := strs_ok h2
  unfold kqdOk
  simp only [List.all_cons, List.all_nil, Bool.and_true, Bool.and_eq_true]
  exact ⟨e1, e2⟩
theorem run_turn {w : World} {p : Program} {loose : List Str} {mean : ExcName → Option Value} {mg mb : Str → Option Value} {dp un : Nat} {gd : Option (List Code)} {cn : Str} {cs : Scope} {a : Addr} {ccd : Value} {cl : List (Str × Addr)} {outer : List Env} {base h₀ : Heap} {L L' : Addr} {m0 : Str → Option Value} {s : Shared} {Q : Flow → Shared → Prop} {E : Value → Shared → Prop} {O wy tb : Addr} {o2 : Obj} {ys zs : List Value} {ws ows : List Str} {rest : Led} {kn : Nat} {tkk : Tok} {mine : Str} {tm : Tok} {otb : Obj} {kvs : List (Str × Value)} {G : Str → Prop} {cp : Str → Str}
    (B : Below (ktrTop dp un gd cn cs L a ccd cl outer) base (envX cn cs L a ccd cl :: outer) h₀) (X : (hd.heap_39 w.params).In h₀) (T : Top p loose mean mg mb h₀) (hk : cs.kind = .function) (hdp : dp + 80 < recursionLimit) (hun : un + 1600 < cLine)
    (F : Fr h₀ L' s.heap (fun y => if y = "order" then some (.ref O) else if y = "k" then some (.int (0 + (kn : Int)) tkk) else if y = "ways" then some (.ref wy) else m0 y))
    (N : News h₀ L' s.heap ((O, { cls := .type "list", data := .seq (List.toArray ys) 0 }) :: (tb, otb) :: (wy, LCg.lst zs) :: (L' + 1 + 1, o2) :: rest))
    (hys : Strs ys ows) (hows : ows.length = 5) (hmz : zs[kn]? = some (.str mine tm)) (hzl : zs.length = 5) (ho2 : o2.data = Data.cell (some (.ref tb)))
    (hG : ∀ x, G x → Plain x ∧ x.length ≤ 40 ∧ G (dirF x)) (hm : G mine) (hw : ∀ x ∈ ows, G x)
    (hcp : ∀ way ∈ ows, way ≠ mine → (cp way).length ≤ 40 ∧ ∀ (s : Shared) (l : Addr) (n : Nat) (t u : Tok), s.heap.get? l = some { cls := .type "list", data := .seq #[.str mine t, .str way u] n } → RO w 20 304 [.ref l] [] s (fun v _ => ∃ t, v = .str (cp way) t))
    (htd : tblAt cp mine ows 5 = dueAt mine ows 5) (hti : ∀ kv ∈ (dueAt mine ows 5).1, Plain kv.1 ∧ Plain kv.2) (htl : (dueAt mine ows 5).1.length ≤ 20) (hto : ∀ x ∈ (dueAt mine ows 5).2, Plain x)
    (htb : ∀ p ∈ (wy, LCg.lst zs) :: (L' + 1 + 1, o2) :: rest, p.1 ≠ tb) (hd : otb.IsDictOf (PySem.strKind PySem.Challenge.pw_rt0090_01 w) kvs) (hkl : kvs.length ≤ 20)
    (hret : ∀ h' tk x TL otb' TT To, TabObjL w TL x (dueAt mine ows 5).1 → otb'.IsDictOf (PySem.strKind PySem.Challenge.pw_rt0090_01 w) (stored kvs mine (.ref x)) → Fr h₀ L' h' (fun y => if y = "told" then some To else if y = "table" then some TT else if y = "order" then some (.ref O) else if y = "k" then some (.int (0 + (kn : Int)) tkk) else if y = "ways" then some (.ref wy) else m0 y) →
      News h₀ L' h' ((tb, otb') :: (wy, LCg.lst zs) :: (L' + 1 + 1, o2) :: (TL ++ rest)) → (∀ p ∈ TL, p.1 ≠ tb ∧ ∀ q ∈ rest, q.1 ≠ p.1) → Q .next { s with heap := h', toks := tk })
    (hE : PassesOwn (model PySem.Challenge.pw_rt0090_01 w) ((ktrTop dp un gd cn cs L a ccd cl outer).deeper (envOfC "_law_run" lrScope L' 333 (.ref 332))) (envOfC "_law_run" lrScope L' 333 (.ref 332)) E) :
    wpAny (model PySem.Challenge.pw_rt0090_01 w) ((ktrTop dp un gd cn cs L a ccd cl outer).deeper (envOfC "_law_run" lrScope L' 333 (.ref 332))) (execs [lrTurn 2, lrTurn 3, lrTurn 4] (envOfC "_law_run" lrScope L' 333 (.ref 332))) Q E s := by
  revert B X T hk hdp hun F N hys hows hmz hzl ho2 hG hm hw hcp htd hti htl hto htb hd hkl hret hE
  revert w p loose mean mg mb dp un gd cn cs a ccd cl outer base h₀ L L' m0 s Q E O wy tb o2 ys zs ws ows rest kn tkk mine tm otb kvs G cp
  refine' no_implicit_lambda% (Mine.hk40 ?ne ?_)
  case ne => (repeat' (first | (refine Mine.nePair ?_ ?_) | exact Mine.neWorld | exact Mine.neAround | exact Mine.neShared | infer_instance))
  generalize Mine.A1 _ = w; generalize Mine.A2 _ = p; generalize Mine.A3 _ = loose; generalize Mine.A4 _ = mean; generalize Mine.A5 _ = mg; generalize Mine.A6 _ = mb; generalize Mine.A7 _ = dp; generalize Mine.A8 _ = un; generalize Mine.A9 _ = gd; generalize Mine.A10 _ = cn; generalize Mine.A11 _ = cs; generalize Mine.A12 _ = a; generalize Mine.A13 _ = ccd; generalize Mine.A14 _ = cl; generalize Mine.A15 _ = outer; generalize Mine.A16 _ = base; generalize Mine.A17 _ = h₀; generalize Mine.A18 _ = L; generalize Mine.A19 _ = L'; generalize Mine.A20 _ = m0; generalize Mine.A21 _ = s; generalize Mine.A22 _ = Q; generalize Mine.A23 _ = E; generalize Mine.A24 _ = O; generalize Mine.A25 _ = wy; generalize Mine.A26 _ = tb; generalize Mine.A27 _ = o2; generalize Mine.A28 _ = ys; generalize Mine.A29 _ = zs; generalize Mine.A30 _ = ws; generalize Mine.A31 _ = ows; generalize Mine.A32 _ = rest; generalize Mine.A33 _ = kn; generalize Mine.A34 _ = tkk; generalize Mine.A35 _ = mine; generalize Mine.A36 _ = tm; generalize Mine.A37 _ = otb; generalize Mine.A38 _ = kvs; generalize Mine.A39 _ = G; generalize Mine.A40 _ = cp
  intro uHk
  clear uHk
  intro B X T hk hdp hun F N hys hows hmz hzl ho2 hG hm hw hcp htd hti htl hto htb hd hkl hret hE
  revert hE
  conv in (occs := *) lrScope => all_goals whnf
  conv in lrTurn 2 => whnf
  conv in lrTurn 3 => whnf
  conv in lrTurn 4 => whnf
  intro hE
  (refine (let Akₘ : PySem.Around := _; (?_ : wpAny _ Akₘ _ _ _ _)))
  (repeat' (first | ((with_reducible show @ite Prop _ _ _ _); walk1) | (k_unfold; (try dsimp only)) | ((fail_if_success (with_reducible (refine Mine.stp 11 ?_ ?_; (focus ((repeat' constructor); done))))); (first | ((fail_if_success (with_reducible show @Exists _ _)); k_end; wrow_close) | walk1 | (dsimp only; walk1))) | ((fail_if_success (with_reducible show wpAny _ _ _ _ _ _)); dsimp only [Mine.MyPost]) | (leave1; try dsimp only) | fail "no step"))
  rw [Int.zero_add] at *
  ((with_reducible rename News _ _ _ _ => Nz); (with_reducible rename Fr _ _ _ _ => Fz))
  refine item_at (vs := zs) (k := kn) (lst_is (News.get Nz (by k_mem))) hmz (by lia) ?_
  try dsimp only
  (repeat' (first | ((with_reducible show @ite Prop _ _ _ _); walk1) | (k_unfold; (try dsimp only)) | ((fail_if_success (with_reducible (refine Mine.stp 11 ?_ ?_; (focus ((repeat' constructor); done))))); (first | ((fail_if_success (with_reducible show @Exists _ _)); k_end; wrow_close) | walk1 | (dsimp only; walk1))) | ((fail_if_success (with_reducible show wpAny _ _ _ _ _ _)); dsimp only [Mine.MyPost]) | (leave1; try dsimp only) | fail "no step"))
  ((with_reducible rename News _ _ _ _ => Nz); (with_reducible rename Fr _ _ _ _ => Fz))
  have hfresh := fresh_of Fz Nz
  ((with_reducible rename News _ _ _ _ => Nz); (with_reducible rename Fr _ _ _ _ => Fz); (k_dflt (refine' Mine.RO_use (c_table w _ mine _ O ys ows 0 (News.get Nz (by k_mem)) hys (by lia) G hG (hG _ hm).2.1 hw cp hcp) ?k1ₘ ?k2ₘ ?k3ₘ ?k5ₘ ?k6ₘ ?k7ₘ ?k8ₘ ?kNₘ ?_; (case k1ₘ => k_asm); (case k2ₘ => k_asm); (case k3ₘ => k_asm); (case k5ₘ => k_asm); (case k6ₘ => first | exact rfl | assumption); (case k7ₘ => ktr_room); (case k8ₘ => ktr_units); (case kNₘ => k_asm); k_whole)); intro v9 h9 tk9 F9 N9 k9 e9; clear Fz Nz)
  (refine (let Gk : Prop := _; (?_ : Gk)))
  obtain ⟨D, x, T0, l, d, tkx, tvs, n1, ovs, n2, rfl, hD0, hx0, hT0, hl0, hd0, hTl, gD, gx, gd, gl, ⟨tups, hTT, htups⟩, gT, hO⟩ := e9
  rw [hows, htd] at hTT hO
  obtain ⟨fD1, fD2, fD3⟩ := hfresh D hD0
  obtain ⟨fx1, fx2, fx3⟩ := hfresh x hx0
  obtain ⟨fT1, fT2, fT3⟩ := hfresh T0 hT0
  obtain ⟨fl1, fl2, fl3⟩ := hfresh l hl0
  obtain ⟨fd1, fd2, fd3⟩ := hfresh d hd0
  have N10 := news_put gD fD1 fD2 (news_put gx fx1 fx2 (news_put gT fT1 fT2 (news_put gl fl1 fl2 (news_put gd fd1 fd2 N9))))
  have Nt : News h₀ L' h9 tups := fun p hp => ⟨(htups p hp).1, (hfresh _ (htups p hp).2.1).1, (hfresh _ (htups p hp).2.1).2.1⟩
  have N11 : News h₀ L' h9 ((D, { cls := .type "tuple", data := .seq #[.ref x, .ref T0] }) :: (x, instObj 171 d) :: (T0, { cls := .type "list", data := .seq (List.toArray ovs) n2 }) :: (l, { cls := .type "list", data := .seq (List.toArray tvs) n1 }) :: (d, dictOf [{ hash := PyData.keyHash w.params "_headers", key := .str "_headers" tkx, val := .ref l }] 1) :: (O, { cls := .type "list", data := .seq (List.toArray ys) 0 }) :: (tb, otb) :: (wy, LCg.lst zs) :: (L' + 1 + 1, o2) :: (tups ++ rest)) := fun p hp => by
    simp only [List.mem_cons, List.mem_append] at hp
    by_cases ht : p ∈ tups
    · exact Nt p ht
    · exact N10 p (by simp only [List.mem_cons]; simpa [ht] using hp)
  have hnew : ∀ p ∈ (x, instObj 171 d) :: (l, ({ cls := .type "list", data := .seq (List.toArray tvs) n1 } : Obj)) :: (d, dictOf [{ hash := PyData.keyHash w.params "_headers", key := .str "_headers" tkx, val := .ref l }] 1) :: tups, p.1 ≠ tb ∧ ∀ q ∈ rest, q.1 ≠ p.1 := by
    have key : ∀ b : Addr, s.heap.get? b = none → b ≠ tb ∧ ∀ q ∈ rest, q.1 ≠ b := fun b hb => ⟨Ne.symm ((hfresh b hb).2.2 (tb, otb) (by k_mem)), fun q hq => (hfresh b hb).2.2 q (.tail _ (.tail _ (.tail _ (.tail _ hq))))⟩
    intro p hp
    simp only [List.mem_cons] at hp
    rcases hp with hp | hp | hp | hp
    · rw [hp]; exact key _ hx0
    · rw [hp]; exact key _ hl0
    · rw [hp]; exact key _ hd0
    · exact key _ (htups p hp).2.1
  clear hfresh N9 N10 Nt fD1 fD2 fD3 fx1 fx2 fx3 fT1 fT2 fT3 fl1 fl2 fl3 fd1 fd2 fd3 hD0 hx0 hT0 hl0 hd0 gD gx gd gl gT k9
  ((show Gk); k_unfold; clear Gk)
  (repeat' (first | ((with_reducible show @ite Prop _ _ _ _); walk1) | (k_unfold; (try dsimp only)) | ((fail_if_success (with_reducible (refine Mine.stp 11 ?_ ?_; (focus ((repeat' constructor); done))))); (first | ((fail_if_success (with_reducible show @Exists _ _)); k_end; wrow_close) | walk1 | (dsimp only; walk1))) | ((fail_if_success (with_reducible show wpAny _ _ _ _ _ _)); dsimp only [Mine.MyPost]) | (leave1; try dsimp only) | fail "no step"))
  dsimp only [List.append_nil]
  ((with_reducible rename News _ _ _ _ => Nz); (with_reducible rename Fr _ _ _ _ => Fz))
  have hfresh := fresh_of Fz Nz
  have htl' : tvs.length ≤ 20 := by rw [hTT.len]; exact htl
  ((with_reducible rename News _ _ _ _ => Nz); (with_reducible rename Fr _ _ _ _ => Fz); (k_dflt (refine' Mine.RO_use (c_items w _ x d l tkx n1 tvs (News.get Nz (by k_mem)) (News.get Nz (by k_mem)) (News.get Nz (by k_mem)) htl') ?k1ₘ ?k2ₘ ?k3ₘ ?k5ₘ ?k6ₘ ?k7ₘ ?k8ₘ ?kNₘ ?_; (case k1ₘ => k_asm); (case k2ₘ => k_asm); (case k3ₘ => k_asm); (case k5ₘ => k_asm); (case k6ₘ => first | exact rfl | assumption); (case k7ₘ => ktr_room); (case k8ₘ => ktr_units); (case kNₘ => k_asm); k_whole)); intro v9 h9 tk9 F9 N9 k9 e9; clear Fz Nz)
  (refine (let Gk : Prop := _; (?_ : Gk)))
  obtain ⟨D2, rfl, hD2, gD2⟩ := e9
  obtain ⟨f1, f2, f3⟩ := hfresh D2 hD2
  have N12 := news_put gD2 f1 f2 N9
  clear hfresh N9 f1 f2 f3 hD2 gD2 k9
  ((show Gk); k_unfold; clear Gk)
  (repeat' (first | ((with_reducible show @ite Prop _ _ _ _); walk1) | (k_unfold; (try dsimp only)) | ((fail_if_success (with_reducible (refine Mine.stp 11 ?_ ?_; (focus ((repeat' constructor); done))))); (first | ((fail_if_success (with_reducible show @Exists _ _)); k_end; wrow_close) | walk1 | (dsimp only; walk1))) | ((fail_if_success (with_reducible show wpAny _ _ _ _ _ _)); dsimp only [Mine.MyPost]) | (leave1; try dsimp only) | fail "no step"))
  ((with_reducible rename News _ _ _ _ => Nz); (with_reducible rename Fr _ _ _ _ => Fz))
  refine item_at (vs := zs) (k := kn) (lst_is (News.get Nz (by k_mem))) hmz (by lia) ?_
  try dsimp only
  (repeat' (first | ((with_reducible show @ite Prop _ _ _ _); walk1) | (k_unfold; (try dsimp only)) | ((fail_if_success (with_reducible (refine Mine.stp 11 ?_ ?_; (focus ((repeat' constructor); done))))); (first | ((fail_if_success (with_reducible show @Exists _ _)); k_end; wrow_close) | walk1 | (dsimp only; walk1))) | ((fail_if_success (with_reducible show wpAny _ _ _ _ _ _)); dsimp only [Mine.MyPost]) | (leave1; try dsimp only) | fail "no step"))
  ((with_reducible rename News _ _ _ _ => Nz); (with_reducible rename Fr _ _ _ _ => Fz))
  have hfresh := fresh_of Fz Nz
  ((with_reducible rename News _ _ _ _ => Nz); (with_reducible rename Fr _ _ _ _ => Fz); (k_dflt (refine' Mine.RO_use (c_due w _ mine _ O ys ows 0 (News.get Nz (by k_mem)) hys (by lia) (hG _ hm).2.1 (fun z hz => ⟨(hG _ (hw z hz)).1, (hG _ (hw z hz)).2.1⟩)) ?k1ₘ ?k2ₘ ?k3ₘ ?k5ₘ ?k6ₘ ?k7ₘ ?k8ₘ ?kNₘ ?_; (case k1ₘ => k_asm); (case k2ₘ => k_asm); (case k3ₘ => k_asm); (case k5ₘ => k_asm); (case k6ₘ => first | exact rfl | assumption); (case k7ₘ => ktr_room); (case k8ₘ => ktr_units); (case kNₘ => k_asm); k_whole)); intro v9 h9 tk9 F9 N9 k9 e9; clear Fz Nz)
  (refine (let Gk : Prop := _; (?_ : Gk)))
  obtain ⟨D3, I3, T3, tvs3, n3, ovs3, n4, rfl, hD3, hI3, hT3, gD3, gI3, hTT3, gT3, hO3⟩ := e9
  rw [hows] at hTT3 hO3
  clear hfresh k9 hD3 hI3 hT3
  ((with_reducible rename News _ _ _ _ => Nz); (with_reducible rename Fr _ _ _ _ => Fz))
  obtain ⟨as1, r1⟩ := reads_items (hTT.items (h := h9) (L := L') (h₀ := h₀) Nz (fun p hp => by simp [hp]))
  obtain ⟨as2, r2⟩ := reads_strs h9 hO
  obtain ⟨as3, r3⟩ := reads_items hTT3
  obtain ⟨as4, r4⟩ := reads_strs h9 hO3
  ((show Gk); k_unfold; clear Gk)
  refine ne_same (D := .tuple [.list ((dueAt mine ows 5).1.map pairD), .list ((dueAt mine ows 5).2.map Dat.str)])
    (reads_tuple_at (Nz _ (.head _)).1 rfl rfl (ReadsAll.cons (reads_list_at (Nz _ (.tail _ (.head _))).1 rfl rfl r1) (ReadsAll.cons (reads_list_at (Nz (T0, { cls := .type "list", data := .seq (List.toArray ovs) n2 }) (by k_mem)).1 rfl rfl r2) ReadsAll.nil)))
    (reads_tuple_at gD3 rfl rfl (ReadsAll.cons (reads_list_at gI3 rfl rfl r3) (ReadsAll.cons (reads_list_at gT3 rfl rfl r4) ReadsAll.nil))) (due_ok hti hto) (by k_units) ?_
  clear r1 r2 r3 r4 gD3 gI3 gT3 hTT3 hO3
  try dsimp only
  (repeat' (first | ((with_reducible show @ite Prop _ _ _ _); walk1) | (k_unfold; (try dsimp only)) | ((fail_if_success (with_reducible (refine Mine.stp 11 ?_ ?_; (focus ((repeat' constructor); done))))); (first | ((fail_if_success (with_reducible show @Exists _ _)); k_end; wrow_close) | walk1 | (dsimp only; walk1))) | ((fail_if_success (with_reducible show wpAny _ _ _ _ _ _)); dsimp only [Mine.MyPost]) | (leave1; try dsimp only) | fail "no step"))
  ((with_reducible rename News _ _ _ _ => Nz); (with_reducible rename Fr _ _ _ _ => Fz))
  refine item_at (vs := zs) (k := kn) (lst_is (News.get Nz (by k_mem))) hmz (by lia) ?_
  try dsimp only
  (repeat' (first | ((with_reducible show @ite Prop _ _ _ _); walk1) | (k_unfold; (try dsimp only)) | ((fail_if_success (with_reducible (refine Mine.stp 11 ?_ ?_; (focus ((repeat' constructor); done))))); (first | ((fail_if_success (with_reducible show @Exists _ _)); k_end; wrow_close) | walk1 | (dsimp only; walk1))) | ((fail_if_success (with_reducible show wpAny _ _ _ _ _ _)); dsimp only [Mine.MyPost]) | (leave1; try dsimp only) | fail "no step"))
  ((with_reducible rename News _ _ _ _ => Nz); (with_reducible rename Fr _ _ _ _ => Fz))
  have Nw := news_sub (news' := (tb, otb) :: (x, instObj 171 d) :: (l, { cls := .type "list", data := .seq (List.toArray tvs) n1 }) :: (d, dictOf [{ hash := PyData.keyHash w.params "_headers", key := .str "_headers" tkx, val := .ref l }] 1) :: (wy, LCg.lst zs) :: (L' + 1 + 1, o2) :: (tups ++ rest)) Nz (by (intro pₘ hpₘ; (repeat (rcases List.mem_cons.mp hpₘ with hqₘ | hpₘ; (focus (rw [hqₘ]; k_mem)))); (repeat (first | exact hpₘ | apply List.mem_cons_of_mem))))
  refine kda_set Fz Nw (UpdF.head ?_) hd (strKind_is _ _ _ _) (by rw [sizeLine_eq]; lia) (fun h' o' F' N' hd' => ?_)
  · intro p hp
    simp only [List.mem_cons, List.mem_append] at hp
    rcases hp with hp | hp | hp | hp | hp | hp | hp
    · rw [hp]; exact (hnew _ (.head _)).1
    · rw [hp]; exact (hnew _ (.tail _ (.head _))).1
    · rw [hp]; exact (hnew _ (.tail _ (.tail _ (.head _)))).1
    · rw [hp]; exact htb _ (.head _)
    · rw [hp]; exact htb _ (.tail _ (.head _))
    · exact (hnew _ (.tail _ (.tail _ (.tail _ hp)))).1
    · exact htb _ (.tail _ (.tail _ hp))
  clear Fz Nz Nw
  try dsimp only
  (repeat' (first | ((with_reducible show @ite Prop _ _ _ _); walk1) | (k_unfold; (try dsimp only)) | ((fail_if_success (with_reducible (refine Mine.stp 11 ?_ ?_; (focus ((repeat' constructor); done))))); (first | ((fail_if_success (with_reducible show @Exists _ _)); k_end; wrow_close) | walk1 | (dsimp only; walk1))) | ((fail_if_success (with_reducible show wpAny _ _ _ _ _ _)); dsimp only [Mine.MyPost]) | (leave1; try dsimp only) | fail "no step"))
  ((with_reducible rename News _ _ _ _ => Nz); (with_reducible rename Fr _ _ _ _ => Fz))
  refine hret _ _ x ((x, instObj 171 d) :: (l, { cls := .type "list", data := .seq (List.toArray tvs) n1 }) :: (d, dictOf [{ hash := PyData.keyHash w.params "_headers", key := .str "_headers" tkx, val := .ref l }] 1) :: tups) o' _ _
    ⟨d, l, tkx, n1, tvs, tups, .head _, .tail _ (.tail _ (.head _)), .tail _ (.head _), fun p hp => .tail _ (.tail _ (.tail _ hp)), hTT⟩ hd' Fz (news_sub Nz ?_) hnew
  intro p hp
  simp only [List.mem_cons, List.mem_append, List.cons_append] at hp ⊢
  rcases hp with hp | hp | hp | hp | hp | hp | hp | hp <;> simp [hp]
end Mine
theorem Mine.off25 : True := by w_top off; trivial
namespace Mine
open PySem PySem.W PySem.Calls PyProof.Rows
theorem coll2 {t a b : Str} {v x z : Option Value} {M : Str → Option Value} (h1 : M a = x) (h2 : M b = z) : (fun (y : Str) => if y = t then v else if y = a then x else if y = b then z else M y) = fun (y : Str) => if y = t then v else M y := by
  funext y
  by_cases q : y = t
  · simp [q]
  by_cases qa : y = a
  · subst qa; simp [q, h1]
  by_cases qb : y = b
  · subst qb; simp [q, qa, h2]
  · simp [q, qa, qb]
theorem coll3 {t u a b c : Str} {v v' x z r : Option Value} {M : Str → Option Value} (h1 : M a = x) (h2 : M b = z) (h3 : M c = r) : (fun (y : Str) => if y = t then v else if y = u then v' else if y = a then x else if y = b then z else if y = c then r else M y) = fun (y : Str) => if y = t then v else if y = u then v' else M y := by
  funext y
  by_cases q : y = t
  · simp [q]
  by_cases q' : y = u
  · simp [q']
  by_cases qa : y = a
  · subst qa; simp [q, q', h1]
  by_cases qb : y = b
  · subst qb; simp [q, q', qa, h2]
  by_cases qc : y = c
  · subst qc; simp [q, q', qa, qb, h3]
  · simp [q, q', qa, qb, qc]
theorem stored_at {kvs : List (Str × Value)} {k : Str} {v : Value} : valueAt (stored kvs k v) k = some v := by
  unfold stored valueAt
  split
  · rename_i h
    induction kvs with
    | nil => simp at h
    | cons p r ih =>
      by_cases e : p.1 = k
      · simp [e]
      · simp [e] at h ⊢
        simpa using ih (by simpa using h)
  · rename_i h
    rw [List.find?_append]
    have : kvs.find? (fun kv => decide (kv.1 = k)) = none := by
      rw [List.find?_eq_none]
      intro p hp q
      exact h (List.any_eq_true.mpr ⟨p, hp, q⟩)
    simp [this]
theorem stored_ne {kvs : List (Str × Value)} {k j : Str} {v : Value} (h : j ≠ k) : valueAt (stored kvs k v) j = valueAt kvs j := by
  unfold stored valueAt
  split
  · rename_i hh
    clear hh
    induction kvs with
    | nil => rfl
    | cons p r ih =>
      rw [List.map_cons, List.find?_cons, List.find?_cons]
      by_cases e : p.1 = k
      · simp only [e, if_true]
        rw [show decide (k = j) = false from decide_eq_false (Ne.symm h)]
        simpa using ih
      · simp only [if_neg e]
        by_cases e2 : p.1 = j
        · simp [e2]
        · rw [show decide (p.1 = j) = false from decide_eq_false e2]
          simpa using ih
  · rw [List.find?_append]
    cases kvs.find? (fun kv => decide (kv.1 = j)) with
    | some p => simp
    | none => simp [Ne.symm h]
theorem stored_len {kvs : List (Str × Value)} {k : Str} {v : Value} : (stored kvs k v).length ≤ kvs.length + 1 := by
  unfold stored
  split <;> simp
noncomputable def lrTables : Stmt := lrStmt 6
structure TurnOk (w : World) (G : Str → Prop) (cp : Str → Str → Str) (ws : List Str) : Prop where
  g : ∀ x, G x → Plain x ∧ x.length ≤ 40 ∧ G (dirF x)
  inG : ∀ x ∈ ws, G x
  len : ws.length = 5
  nd : ws.Nodup
  hcp : ∀ mine ∈ ws, ∀ way ∈ ws, way ≠ mine → (cp mine way).length ≤ 40 ∧ ∀ (s : Shared) (l : Addr) (n : Nat) (t u : Tok), s.heap.get? l = some { cls := .type "list", data := .seq #[.str mine t, .str way u] n } → RO w 20 304 [.ref l] [] s (fun v _ => ∃ t, v = .str (cp mine way) t)
  td : ∀ mine ∈ ws, ∀ ows, ows.Perm ws → tblAt (cp mine) mine ows 5 = dueAt mine ows 5
  ti : ∀ mine ∈ ws, ∀ ows, ows.Perm ws → (∀ kv ∈ (dueAt mine ows 5).1, Plain kv.1 ∧ Plain kv.2) ∧ (dueAt mine ows 5).1.length ≤ 20 ∧ ∀ x ∈ (dueAt mine ows 5).2, Plain x
theorem run_tables {w : World} {p : Program} {loose : List Str} {mean : ExcName → Option Value} {mg mb : Str → Option Value} {dp un : Nat} {gd : Option (List Code)} {cn : Str} {cs : Scope} {a : Addr} {ccd : Value} {cl : List (Str × Addr)} {outer : List Env} {base h₀ : Heap} {L L' : Addr} {m0 : Str → Option Value} {s : Shared} {Q : Flow → Shared → Prop} {E : Value → Shared → Prop} {oc wy tb : Addr} {o1 o2 otb : Obj} {zs : List Value} {ws : List Str} {rest : Led} {n : Nat} {G : Str → Prop} {cp : Str → Str → Str} {c0 c1 c2 c3 c4 c5 c6 c7 c8 : Int} {t0 t1 t2 t3 t4 t5 t6 t7 t8 : Tok}
    (B : Below (ktrTop dp un gd cn cs L a ccd cl outer) base (envX cn cs L a ccd cl :: outer) h₀) (X : (hd.heap_39 w.params).In h₀) (T : Top p loose mean mg mb h₀) (hk : cs.kind = .function) (hdp : dp + 80 < recursionLimit) (hun : un + 1600 < cLine)
    (ho : h₀.get? oc = some { cls := .type "list", data := .seq #[.int c0 t0, .int c1 t1, .int c2 t2, .int c3 t3, .int c4 t4, .int c5 t5, .int c6 t6, .int c7 t7, .int c8 t8] n })
    (F : Fr h₀ L' s.heap m0) (hmw : m0 "ways" = some (.ref wy)) (N : News h₀ L' s.heap ((tb, otb) :: (wy, LCg.lst zs) :: (L' + 1 + 1, o2) :: (L' + 1, o1) :: rest))
    (hzs : Strs zs ws) (H : TurnOk w G cp ws) (ho1 : o1.data = Data.cell (some (.ref oc))) (ho2 : o2.data = Data.cell (some (.ref tb)))
    (htb : ∀ p ∈ (wy, LCg.lst zs) :: (L' + 1 + 1, o2) :: (L' + 1, o1) :: rest, p.1 ≠ tb) (hd : otb.IsDictOf (PySem.strKind PySem.Challenge.pw_rt0090_01 w) [])
    (hret : ∀ u1 u2 u3 u4 u5 h' tk kvs otb' TL, otb'.IsDictOf (PySem.strKind PySem.Challenge.pw_rt0090_01 w) kvs → (∀ x ∈ ws, ∃ a ows, valueAt kvs x = some (.ref a) ∧ ows.Perm ws ∧ TabObjL w TL a (dueAt x ows 5).1) →
      Fr h₀ L' h' (fun y => if y = "told" then u1 else if y = "table" then u2 else if y = "order" then u3 else if y = "turned" then u4 else if y = "k" then u5 else m0 y) → News h₀ L' h' ((tb, otb') :: (wy, LCg.lst zs) :: (L' + 1 + 1, o2) :: (L' + 1, o1) :: (TL ++ rest)) → (∀ p ∈ TL, p.1 ≠ tb ∧ ∀ q ∈ rest, q.1 ≠ p.1) → Q .next { s with heap := h', toks := tk })
    (hE : PassesOwn (model PySem.Challenge.pw_rt0090_01 w) ((ktrTop dp un gd cn cs L a ccd cl outer).deeper (envOfC "_law_run" lrScope L' 333 (.ref 332))) (envOfC "_law_run" lrScope L' 333 (.ref 332)) E) :
    wpAny (model PySem.Challenge.pw_rt0090_01 w) ((ktrTop dp un gd cn cs L a ccd cl outer).deeper (envOfC "_law_run" lrScope L' 333 (.ref 332))) (exec lrTables (envOfC "_law_run" lrScope L' 333 (.ref 332))) Q E s := by
  revert B X T hk hdp hun ho F hmw N hzs H ho1 ho2 htb hd hret hE
  revert w p loose mean mg mb dp un gd cn cs a ccd cl outer base h₀ L L' m0 s Q E oc wy tb o1 o2 otb zs ws rest n G cp c0 c1 c2 c3 c4 c5 c6 c7 c8 t0 t1 t2 t3 t4 t5 t6 t7 t8
  iterate 6 refine no_implicit_lambda% (Mine.pad1 ?_)
  refine' no_implicit_lambda% (Mine.hk59 ?ne ?_)
  case ne => (repeat' (first | (refine Mine.nePair ?_ ?_) | exact Mine.neWorld | exact Mine.neAround | exact Mine.neShared | infer_instance))
  generalize Mine.A7 _ = w; generalize Mine.A8 _ = p; generalize Mine.A9 _ = loose; generalize Mine.A10 _ = mean; generalize Mine.A11 _ = mg; generalize Mine.A12 _ = mb; generalize Mine.A13 _ = dp; generalize Mine.A14 _ = un; generalize Mine.A15 _ = gd; generalize Mine.A16 _ = cn; generalize Mine.A17 _ = cs; generalize Mine.A18 _ = a; generalize Mine.A19 _ = ccd; generalize Mine.A20 _ = cl; generalize Mine.A21 _ = outer; generalize Mine.A22 _ = base; generalize Mine.A23 _ = h₀; generalize Mine.A24 _ = L; generalize Mine.A25 _ = L'; generalize Mine.A26 _ = m0; generalize Mine.A27 _ = s; generalize Mine.A28 _ = Q; generalize Mine.A29 _ = E; generalize Mine.A30 _ = oc; generalize Mine.A31 _ = wy; generalize Mine.A32 _ = tb; generalize Mine.A33 _ = o1; generalize Mine.A34 _ = o2; generalize Mine.A35 _ = otb; generalize Mine.A36 _ = zs; generalize Mine.A37 _ = ws; generalize Mine.A38 _ = rest; generalize Mine.A39 _ = n; generalize Mine.A40 _ = G; generalize Mine.A41 _ = cp; generalize Mine.A42 _ = c0; generalize Mine.A43 _ = c1; generalize Mine.A44 _ = c2; generalize Mine.A45 _ = c3; generalize Mine.A46 _ = c4; generalize Mine.A47 _ = c5; generalize Mine.A48 _ = c6; generalize Mine.A49 _ = c7; generalize Mine.A50 _ = c8; generalize Mine.A51 _ = t0; generalize Mine.A52 _ = t1; generalize Mine.A53 _ = t2; generalize Mine.A54 _ = t3; generalize Mine.A55 _ = t4; generalize Mine.A56 _ = t5; generalize Mine.A57 _ = t6; generalize Mine.A58 _ = t7; generalize Mine.A59 _ = t8
  intro uHk
  clear uHk
  intro B X T hk hdp hun ho F hmw N hzs H ho1 ho2 htb hd hret hE
  revert hE
  conv in (occs := *) lrScope => all_goals whnf
  conv in lrTables => whnf
  intro hE
  (refine (let Akₘ : PySem.Around := _; (?_ : wpAny _ Akₘ _ _ _ _)))
  (refine PySem.wpAny_For ?_ (by first | (intro _; rfl) | (intro xₘ; rfl)))
  (repeat' (first | ((with_reducible show @ite Prop _ _ _ _); walk1) | (k_unfold; (try dsimp only)) | ((fail_if_success (with_reducible (refine Mine.stp 8 ?_ ?_; (focus ((repeat' constructor); done))))); (first | ((fail_if_success (with_reducible show @Exists _ _)); k_end; wrow_close) | walk1 | (dsimp only; walk1))) | ((fail_if_success (with_reducible show wpAny _ _ _ _ _ _)); dsimp only [Mine.MyPost]) | (leave1; try dsimp only) | fail "no step"))
  ((with_reducible rename News _ _ _ _ => Nz); (with_reducible rename Fr _ _ _ _ => Fz))
  refine with_map Fz fun m1 em => ?_
  subst em
  refine iter_range (n := 5) (fun i m news => (∃ u1 u2 u3 u4 u5, m = fun (y : Str) => if y = "told" then u1 else if y = "table" then u2 else if y = "order" then u3 else if y = "turned" then u4 else if y = "k" then u5 else m1 y) ∧
    ∃ kvs otb' TL, news = (tb, otb') :: (wy, LCg.lst zs) :: (L' + 1 + 1, o2) :: (L' + 1, o1) :: (TL ++ rest) ∧ otb'.IsDictOf (PySem.strKind PySem.Challenge.pw_rt0090_01 w) kvs ∧ kvs.length ≤ i ∧
      (∀ j x, j < i → ws[j]? = some x → ∃ a ows, valueAt kvs x = some (.ref a) ∧ ows.Perm ws ∧ TabObjL w TL a (dueAt x ows 5).1) ∧ (∀ p ∈ TL, p.1 ≠ tb ∧ ∀ q ∈ rest, q.1 ≠ p.1))
    rfl (by assumption) (by decide) (by decide) Fz Nz ?_ ?_ ?_
  · exact ⟨⟨m1 "told", m1 "table", m1 "order", m1 "turned", m1 "k", with_m5 rfl rfl rfl rfl rfl⟩, [], otb, [], rfl, hd, Nat.zero_le _, (fun j x hj => absurd hj (Nat.not_lt_zero _)), (fun _ h => nomatch h)⟩
  · intro i ti m₂ news₂ h2 tk2 I oI hi hJ51 hoff F2 N2
    (refine (let Gk : Prop := _; (?_ : Gk)))
    obtain ⟨⟨u1, u2, u3, u4, u5, rfl⟩, kvs, otb', TL, rfl, hd', hkl, htab, hTL⟩ := hJ51
    clear Fz Nz hret
    obtain ⟨mine, hmine⟩ : ∃ x, ws[i]? = some x := ⟨_, List.getElem?_eq_getElem (by rw [H.len]; exact hi)⟩
    have hmem := List.mem_of_getElem? hmine
    obtain ⟨tm, hmz⟩ := hzs.at' hmine
    ((show Gk); k_unfold; clear Gk)
    (try dsimp only [envOf] at F2 N2)
    (show wpAny _ _ _ _ _ _)
    k_fold
    walk1
    walk1
    k_unfold
    try dsimp only
    ((with_reducible rename News _ _ _ _ => Nz); (with_reducible rename Fr _ _ _ _ => Fz))
    have hwl := hzs.len
    have hlen := H.len
    have F3 := fr_mapR Fz (with_m2 (a := "k") (b := "ways") rfl hmw)
    refine wpAny_execs_cons (run_turned (by assumption) (by assumption) (by assumption) (by first | exact rfl | assumption) (by k_room) (by k_units) ho F3 (news_sub (news' := (wy, LCg.lst zs) :: (L' + 1, o1) :: (I, oI) :: (tb, otb') :: (L' + 1 + 1, o2) :: (TL ++ rest)) Nz (by (intro pₘ hpₘ; (repeat (rcases List.mem_cons.mp hpₘ with hqₘ | hpₘ; (focus (rw [hqₘ]; k_mem)))); (repeat (first | exact hpₘ | apply List.mem_cons_of_mem))))) hzs hlen ho1 (fun O ys h4 tk4 hys F4 N4 => ?_) (by passes_own))
    clear Fz Nz F2 N2 F3
    have F4' := fr_mapR F4 (coll2 rfl hmw)
    clear F4
    refine wpAny_execs_cons (run_pick (by assumption) (by assumption) (by assumption) (by first | exact rfl | assumption) (by k_room) (by k_units) ho F4' (news_sub (news' := (O, { cls := .type "list", data := .seq (List.toArray ys) 0 }) :: (L' + 1, o1) :: (wy, LCg.lst zs) :: (I, oI) :: (tb, otb') :: (L' + 1 + 1, o2) :: (TL ++ rest)) N4 (by (intro pₘ hpₘ; (repeat (rcases List.mem_cons.mp hpₘ with hqₘ | hpₘ; (focus (rw [hqₘ]; k_mem)))); (repeat (first | exact hpₘ | apply List.mem_cons_of_mem))))) hys (by simp; lia) ho1 (fun O' ys' ows h5 tk5 howse hys' F5 N5 => ?_) (by passes_own))
    clear F4' N4 hys
    have hperm : ows.Perm ws := by
      have h1 : (List.drop ((c6 + (0 + (i : Int))) % 5).toNat ws ++ List.take ((c6 + (0 + (i : Int))) % 5).toNat ws).Perm ws := (List.perm_append_comm).trans (by rw [List.take_append_drop])
      rcases howse with q | q
      · rw [q]; exact h1
      · rw [q]; exact (List.reverse_perm _).trans h1
    have hol : ows.length = 5 := by rw [hperm.length_eq]; exact hlen
    have F5' := fr_mapR F5 (with_m3 (a := "order") (b := "k") (c := "ways") rfl rfl hmw)
    clear F5 howse
    have hins : ∀ z ∈ ows, z ∈ ws := fun z hz => hperm.mem_iff.mp hz
    refine run_turn (ws := ws) (G := G) (cp := cp mine) (by assumption) (by assumption) (by assumption) (by first | exact rfl | assumption) (by k_room) (by k_units) F5' (news_sub (news' := (O', { cls := .type "list", data := .seq (List.toArray ys') 0 }) :: (tb, otb') :: (wy, LCg.lst zs) :: (L' + 1 + 1, o2) :: (L' + 1, o1) :: (I, oI) :: (TL ++ rest)) N5 (by (intro pₘ hpₘ; (repeat (rcases List.mem_cons.mp hpₘ with hqₘ | hpₘ; (focus (rw [hqₘ]; k_mem)))); (repeat (first | exact hpₘ | apply List.mem_cons_of_mem))))) hys' hol hmz (by lia) ho2 H.g (H.inG _ hmem) (fun z hz => H.inG _ (hins z hz)) (fun way hwy => H.hcp mine hmem way (hins _ hwy)) (H.td mine hmem ows hperm) (H.ti mine hmem ows hperm).1 (H.ti mine hmem ows hperm).2.1 (H.ti mine hmem ows hperm).2.2 ?_ hd' (by lia) (fun h6 tk6 x TL' otb'' TT To hTO hd6 F6 N6 hTL' => ?_) (by passes_own)
    · intro p hp
      simp only [List.mem_cons, List.mem_append] at hp
      rcases hp with hp | hp | hp | hp | hp | hp
      · rw [hp]; exact htb _ (.head _)
      · rw [hp]; exact htb _ (.tail _ (.head _))
      · rw [hp]; exact htb _ (.tail _ (.tail _ (.head _)))
      · rw [hp]; exact Ne.symm (hoff (tb, otb') (.head _))
      · exact (hTL p hp).1
      · exact htb _ (.tail _ (.tail _ (.tail _ hp)))
    clear F5' N5
    have F6' := fr_mapR F6 (coll3 rfl rfl hmw)
    clear F6
    refine MyEnd.intro F6' N6 ⟨⟨_, _, _, _, _, by exact Mine.map5 (a := "told") (b := "table") (c := "order") (d := "turned") (e := "k") (by (repeat (first | exact Mine.Off.refl | (refine Mine.Off.upd (by first | exact .head _ | exact .tail _ (.head _) | exact .tail _ (.tail _ (.head _)) | exact .tail _ (.tail _ (.tail _ (.head _))) | exact .tail _ (.tail _ (.tail _ (.tail _ (.head _)))) | exact .tail _ (.tail _ (.tail _ (.tail _ (.tail _ (.head _)))))) ?_))))⟩, _, otb'', TL' ++ TL, rfl, hd6, Nat.le_trans stored_len (by lia), ?_, ?_⟩ ?_ ?_ ?_
    · intro j x' hj hx'
      by_cases he : x' = mine
      · subst he
        exact ⟨x, ows, stored_at, hperm, hTO.mono fun p hp => List.mem_append_left _ hp⟩
      · have hji : j < i := by
          rcases Nat.lt_succ_iff_lt_or_eq.mp hj with q | rfl
          · exact q
          · rw [hmine] at hx'; cases hx'; exact absurd rfl he
        (refine (let Gk : Prop := _; (?_ : Gk)))
        obtain ⟨a', ows', e1, e2, e3⟩ := htab j x' hji hx'
        ((show Gk); k_unfold; clear Gk)
        exact ⟨a', ows', (stored_ne he).trans e1, e2, e3.mono fun p hp => List.mem_append_right _ hp⟩
    · intro p hp
      rcases List.mem_append.mp hp with hp | hp
      · exact ⟨(hTL' p hp).1, fun q hq => (hTL' p hp).2 q (.tail _ (.tail _ (List.mem_append_right _ hq)))⟩
      · exact hTL p hp
    · intro p hp
      rw [List.mem_singleton.mp hp]
      exact .tail _ (.tail _ (.tail _ (List.mem_append_right _ (.tail _ (.head _)))))
    · intro p hp
      simp only [List.mem_cons, List.mem_append] at hp ⊢
      rcases hp with hp | hp | hp | hp | (hp | hp) | hp <;> simp [hp]
    · intro p hp q hq
      rw [List.mem_singleton.mp hq]
      simp only [List.mem_cons, List.mem_append] at hp
      rcases hp with hp | hp | hp | hp | (hp | hp) | hp
      · rw [hp]; exact hoff (tb, otb') (.head _)
      · rw [hp]; exact hoff (wy, LCg.lst zs) (.tail _ (.head _))
      · rw [hp]; exact hoff (L' + 1 + 1, o2) (.tail _ (.tail _ (.head _)))
      · rw [hp]; exact hoff (L' + 1, o1) (.tail _ (.tail _ (.tail _ (.head _))))
      · exact Ne.symm ((hTL' p hp).2 (I, oI) (.tail _ (.head _)))
      · exact hoff p (.tail _ (.tail _ (.tail _ (.tail _ (List.mem_append_left _ hp)))))
      · exact hoff p (.tail _ (.tail _ (.tail _ (.tail _ (List.mem_append_right _ hp)))))
  · intro m₂ news₂ h2 tk2 hJ52 F2 N2
    (refine (let Gk : Prop := _; (?_ : Gk)))
    obtain ⟨⟨u1, u2, u3, u4, u5, rfl⟩, kvs, otb', TL, rfl, hd', hkl, htab, hTL⟩ := hJ52
    ((show Gk); k_unfold; clear Gk)
    refine hret u1 u2 u3 u4 u5 h2 tk2 kvs otb' TL hd' (fun x hx => ?_) F2 N2 hTL
    (refine (let Gk : Prop := _; (?_ : Gk)))
    obtain ⟨j, hj, e⟩ := List.getElem_of_mem hx
    ((show Gk); k_unfold; clear Gk)
    exact htab j x (by rw [← H.len]; exact hj) (by rw [List.getElem?_eq_getElem hj, e])
end Mine
namespace Mine
open PySem PySem.W PySem.Calls PyProof.Rows PyProof.V PySem.Spec
inductive KVR : List (Str × Value) → List (Str × Int) → Prop
  | nil : KVR [] []
  | cons {k : Str} {g : Int} {t : Tok} {kvs : List (Str × Value)} {c : List (Str × Int)} : KVR kvs c → KVR ((k, .int g t) :: kvs) ((k, g) :: c)
theorem KVR.snoc {k : Str} {g : Int} {t : Tok} {kvs : List (Str × Value)} {c : List (Str × Int)} (H : KVR kvs c) : KVR (kvs ++ [(k, .int g t)]) (c ++ [(k, g)]) := by
  induction H with
  | nil => exact .cons .nil
  | cons _ ih => exact .cons ih
theorem KVR.keys {kvs : List (Str × Value)} {c : List (Str × Int)} (H : KVR kvs c) : kvs.map (·.1) = c.map (·.1) := by
  induction H with
  | nil => rfl
  | cons _ ih => exact congrArg (List.cons _) ih
theorem KVR.flat {kvs : List (Str × Value)} {c : List (Str × Int)} (H : KVR kvs c) : FlatPairs PyData.str kvs (kdpD c) := by
  induction H with
  | nil => exact .nil
  | cons _ ih => exact .cons (PyProof.V.Flat.int _ _) ih
theorem KVR.stored {k : Str} {g : Int} {t : Tok} {kvs : List (Str × Value)} {c : List (Str × Int)} (h : KVR kvs c) (hk : k ∉ c.map (·.1)) : KVR (stored kvs k (.int g t)) (c ++ [(k, g)]) := by
  have : kvs.any (fun kv => decide (kv.1 = k)) = false := by
    rw [List.any_eq_false]
    intro kv hkv q
    have e : kv.1 = k := by simpa using q
    exact hk (by rw [← h.keys, ← e]; exact List.mem_map_of_mem hkv)
  unfold PySem.stored
  rw [this]
  exact h.snoc
section
variable {prog : Program} {w : World} {A : Around} {E : Value → Shared → Prop} {R : Result → Shared → Prop} {s : Shared} {h₀ : Heap} {L : Addr} {m : Str → Option Value} {env : Env}
theorem compLoop_D2 {kx vx target iter : Expr} {scope : Scope} {pos : Pos} {it : Value} {D : Addr} {env : Env} (I : Nat → Shared → Prop)
    (turn : ∀ n s, I n s → wpAny (model prog w) A (pyNext it) (fun r s₁ => match r with
      | none => R (.ok .next) s₁
      | some v => wpAny (model prog w) A (letOwnedTupleGo target it v) (fun _ s₂ => wpAny (model prog w) A (assign target env v) (fun _ s₃ =>
            wpAny (model prog w) A (eval kx env) (fun kv s₄ => wpAny (model prog w) A (eval vx env) (fun vv s₅ =>
              wpAny (model prog w) A (dictSet D kv vv) (fun _ s₆ => ∃ m, m < n ∧ I m s₆) (notedBy (model prog w) A env fun e s' => R (.error e) s') s₅) (notedBy (model prog w) A env fun e s' => R (.error e) s') s₄) (notedBy (model prog w) A env fun e s' => R (.error e) s') s₃)
            (notedBy (model prog w) A env fun e s' => R (.error e) s') s₂) (notedBy (model prog w) A env fun e s' => R (.error e) s') s₁) (notedBy (model prog w) A env fun e s' => R (.error e) s') s)
    (n : Nat) (h : I n s) : codeAny (model prog w) A (.compLoop (.DictComp kx vx [⟨target, iter, [], 0⟩] scope pos) 0 it (.ref D) env) R s := by
  refine codeAny_loop rfl I (fun n s hI => ?_) n h
  show wpAny _ A ((compTurn (.DictComp kx vx [⟨target, iter, [], 0⟩] scope pos) 0 it (.ref D) env).onRaise (fun x => do noteFrame x env; theTreesLotGoes x)) _ _ s
  refine wpAny_noted ?_
  rw [compTurn_dict]
  refine wpAny_bind (wpAny_standAt (wpAny_bind (wpAny_mono (turn n s hI) (fun r s₁ h₁ => ?_) fun _ _ h' => h')))
  cases r with
  | none => exact wpAny_pure h₁
  | some v =>
    refine wpAny_bind (wpAny_mono h₁ (fun _ s₂ h₂ => wpAny_bind (wpAny_mono h₂ (fun _ s₃ h₃ => ?_) fun _ _ h' => h')) fun _ _ h' => h')
    simp only [List.forIn_nil]
    exact wpAny_bind (wpAny_pure (wpAny_bind (wpAny_bind (wpAny_mono h₃ (fun kv s₄ h₄ => wpAny_bind (wpAny_holding (wpAny_mono h₄ (fun vv s₅ h₅ => wpAny_bind (wpAny_standAt (wpAny_holding (wpAny_mono h₅ (fun _ s₆ h₆ => wpAny_pure ⟨rfl, h₆⟩) fun _ _ h' => h')))) fun _ _ h' => h'))) fun _ _ h' => h'))))
end
end Mine
namespace Mine
open PySem PySem.W PySem.Calls PyProof.Rows PyProof.V PySem.Spec
abbrev ZSt (z TI TO i1 i2 l1 l2 : Addr) (xs ys : Array Value) (i : Nat) (h : Heap) : Prop :=
  IsZip h z TI TO .none ∧ IsPair h TI (.ref i1) (.ref i2) ∧ (∃ a b, IsPair h TO a b) ∧ h.IsListIter i1 l1 i ∧ h.IsListIter i2 l2 i ∧ h.IsList l1 xs ∧ h.IsList l2 ys
section
variable {prog : Program} {w : World} {A : Around} {E : Value → Shared → Prop} {R : Result → Shared → Prop} {s : Shared} {h₀ : Heap} {L : Addr} {m : Str → Option Value} {env : Env}
theorem block_zipD {kx vx iter : Expr} {x1 x2 : Str} {p1 p2 : Pos} {kk : Nat} {pt : Pos} {scope : Scope} {cl : List (Str × Addr)} {pos : Pos} {s₂ : Shared} {z TI TO i1 i2 l1 l2 : Addr} {xs ys : Array Value} {news : Led} {RR : Value → Addr → Result → Shared → Prop} (hh : A.handled = none)
    (D0 : ZipApart z TI TO i1 i2 l1 l2) (hst : ZSt z TI TO i1 i2 l1 l2 xs ys 0 s₂.heap) (hfp : ∀ b ∈ [z, TI, TO, i1, i2, l1, l2], b < s₂.heap.objs.size) (c : List (Str × Int)) (hcx : xs.size = c.length) (hcy : ys.size = c.length) (hsz : c.length ≤ 1000) (hnd : (c.map (·.1)).Nodup)
    (hcell : ∀ y ∈ scope.names, y.2 ≠ .cell) (hkind : scope.kind = .function) (hx1 : scope.names.lookup x1 = some .local) (hx2 : scope.names.lookup x2 = some .local) (hne : x1 ≠ x2)
    (F : Fr h₀ L s₂.heap m) (N : News h₀ L s₂.heap news) (hL : L ∉ [z, TO, i1, i2]) (hz₀ : ∀ b ∈ [z, TO, i1, i2], h₀.get? b = none) (off : ∀ p ∈ news, p.1 ∉ [z, TO, i1, i2])
    (step : ∀ (i : Nat) (x y : Value) (k : Str) (g : Int), xs[i]? = some x → ys[i]? = some y → c[i]? = some (k, g) → ∀ C oC m₂ h tk (E' : Value → Shared → Prop), LCg.NsObj oC m₂ → m₂ x1 = some x → m₂ x2 = some y → Fr h₀ L h m → News h₀ L h ((C, oC) :: news) →
      wpAny (model prog w) A (eval kx (compEnvC scope cl C env)) (fun kv s₄ => ∃ t tk4, kv = .str k t ∧ s₄ = { s₂ with heap := h, toks := tk4 } ∧
        wpAny (model prog w) A (eval vx (compEnvC scope cl C env)) (fun vv s₅ => ∃ t tk5, vv = .int g t ∧ s₅ = { s₂ with heap := h, toks := tk5 }) E' s₄) E' { s₂ with heap := h, toks := tk })
    (hRR : ∀ D C h tk m' kvs, Fr h₀ L h m → News h₀ L h news → h.Ns C m' → h.DictOf (PySem.strKind prog w) D kvs → KVR kvs c → s₂.heap.get? D = none → s₂.heap.get? C = none → D ≠ C → s₂.heap.objs.size ≤ D → RR (.ref D) C (.ok .next) { s₂ with heap := h, toks := tk }) :
    wpAny (model prog w) A newDict (fun acc s₃ => wpAny (model prog w) A (newFunctionEnv scope env.globals cl [] env.qual none .none (some env)) (fun cenv s₄ =>
      codeAny (model prog w) A (.compStart (.DictComp kx vx [⟨.Tuple [.Name x1 p1, .Name x2 p2] kk pt, iter, [], 0⟩] scope pos) 0 (.ref z) acc { cenv with scope := relabel scope env }) (RR acc cenv.locals) s₄) E s₃) E s₂ := by
  revert RR hh D0 hst hfp hcx hcy hsz hnd hcell hkind hx1 hx2 hne F N hL hz₀ off step hRR
  revert prog w A E h₀ L m env kx vx iter x1 x2 p1 p2 kk pt scope cl pos s₂ z TI TO i1 i2 l1 l2 xs ys news c
  iterate 2 refine no_implicit_lambda% (Mine.pad1 ?_)
  refine' no_implicit_lambda% (Mine.hk34 ?ne ?_)
  case ne => (repeat' (first | (refine Mine.nePair ?_ ?_) | exact Mine.neWorld | exact Mine.neAround | exact Mine.neShared | infer_instance))
  generalize Mine.A3 _ = prog; generalize Mine.A4 _ = w; generalize Mine.A5 _ = A; generalize Mine.A6 _ = E; generalize Mine.A7 _ = h₀; generalize Mine.A8 _ = L; generalize Mine.A9 _ = m; generalize Mine.A10 _ = env; generalize Mine.A11 _ = kx; generalize Mine.A12 _ = vx; generalize Mine.A13 _ = iter; generalize Mine.A14 _ = x1; generalize Mine.A15 _ = x2; generalize Mine.A16 _ = p1; generalize Mine.A17 _ = p2; generalize Mine.A18 _ = kk; generalize Mine.A19 _ = pt; generalize Mine.A20 _ = scope; generalize Mine.A21 _ = cl; generalize Mine.A22 _ = pos; generalize Mine.A23 _ = s₂; generalize Mine.A24 _ = z; generalize Mine.A25 _ = TI; generalize Mine.A26 _ = TO; generalize Mine.A27 _ = i1; generalize Mine.A28 _ = i2; generalize Mine.A29 _ = l1; generalize Mine.A30 _ = l2; generalize Mine.A31 _ = xs; generalize Mine.A32 _ = ys; generalize Mine.A33 _ = news; generalize Mine.A34 _ = c
  intro uHk
  clear uHk
  intro RR hh D0 hst hfp hcx hcy hsz hnd hcell hkind hx1 hx2 hne F N hL hz₀ off step hRR
  refine wpAny_newObj_type (wpAny_newFunctionEnv hcell (by intro y hy; simp at hy) (fun h₁ hns₁ hsb₁ => ?_) hkind)
  dsimp only at hns₁ hsb₁ ⊢
  have hnew : (s₂.heap.push { cls := .type "dict", dict := none, data := .dict #[] }).DictOf (PySem.strKind prog w) s₂.heap.objs.size [] := Heap.DictOf.new s₂.heap
  generalize hH2 : s₂.heap.push { cls := .type "dict", dict := none, data := .dict #[] } = H2 at hns₁ hsb₁ hnew ⊢
  have hC : H2.objs.size = s₂.heap.objs.size + 1 := by rw [← hH2, Heap.size_push]
  have hDC : s₂.heap.objs.size ≠ H2.objs.size := by rw [hC]; exact Nat.ne_of_lt (Nat.lt_succ_self _)
  have below : ∀ b, b < s₂.heap.objs.size → b ≠ H2.objs.size ∧ b ≠ s₂.heap.objs.size := fun b hb => ⟨by rw [hC]; exact Nat.ne_of_lt (Nat.lt_succ_of_lt hb), Nat.ne_of_lt hb⟩
  have old : ∀ b o, s₂.heap.get? b = some o → h₁.get? b = some o := fun b o e => hsb₁.extBut b o (below b (Heap.lt_size e)).1 (Heap.get?_push_of_some _ (hH2 ▸ Heap.get?_push_of_some _ e))
  have hacc : h₁.DictOf (PySem.strKind prog w) s₂.heap.objs.size [] := hnew.at fun o e => hsb₁.extBut _ _ hDC (Heap.get?_push_of_some _ e)
  have W := WalksT.zip2 (prog := prog) (w := w) hh z TI TO i1 i2 l1 l2 D0 xs ys
  have hmin : min xs.size ys.size = c.length := by rw [hcx, hcy, Nat.min_self]
  rw [hmin] at W
  have hst₁ : ZSt z TI TO i1 i2 l1 l2 xs ys 0 h₁ := W.frame _ _ _ hst fun b _ o e => old b o e
  have fresh : ∀ a, s₂.heap.objs.size ≤ a → s₂.heap.get? a = none := fun a ha => by
    cases e : s₂.heap.get? a with
    | none => rfl
    | some o' => exact absurd (Heap.lt_size e) (Nat.not_lt.mpr ha)
  have fresh₀ : ∀ a, s₂.heap.objs.size ≤ a → h₀.get? a = none := fun a ha => by
    cases e : h₀.get? a with
    | none => rfl
    | some o' => have := F.keep a o' e; rw [fresh a ha] at this; cases this
  have hD₀ := fresh₀ _ (Nat.le_refl s₂.heap.objs.size)
  have hC₀ : h₀.get? H2.objs.size = none := fresh₀ _ (by rw [hC]; exact Nat.le_succ _)
  have hLlt : L < s₂.heap.objs.size := F.ns.lt
  have hDf : s₂.heap.objs.size ∉ [z, TI, TO, i1, i2, l1, l2] := fun hm => Nat.lt_irrefl _ (hfp _ hm)
  have hCf : H2.objs.size ∉ [z, TI, TO, i1, i2, l1, l2] := fun hm => by have := hfp _ hm; rw [hC] at this; exact Nat.lt_irrefl _ (Nat.lt_of_succ_lt this)
  have hCw : H2.objs.size ∉ [z, TO, i1, i2] := fun h => hCf (W.sub _ h)
  have hDw : s₂.heap.objs.size ∉ [z, TO, i1, i2] := fun h => hDf (W.sub _ h)
  have frS : ∀ h : Heap, (∀ b o, b ≠ H2.objs.size → b ∉ [z, TO, i1, i2] → b ≠ s₂.heap.objs.size → s₂.heap.get? b = some o → h.get? b = some o) → Fr h₀ L h m ∧ News h₀ L h news := fun h k =>
    ⟨⟨F.ns.at' fun o e => k L o (below L hLlt).1 hL (below L hLlt).2 e, fun b o e => k b o (fun q => by rw [q, hC₀] at e; cases e) (fun q => by rw [hz₀ b q] at e; cases e) (fun q => by rw [q, hD₀] at e; cases e) (F.keep b o e), F.above⟩,
     fun p hp => ⟨k _ _ (below _ (Heap.lt_size (N p hp).1)).1 (off p hp) (below _ (Heap.lt_size (N p hp).1)).2 (N p hp).1, (N p hp).2⟩⟩
  have loop : ∀ s₃ : Shared, s₃ = { s₂ with heap := h₁, toks := s₂.toks + ([] : List (Str × Value)).length } →
      codeAny (model prog w) A (.compLoop (.DictComp kx vx [⟨.Tuple [.Name x1 p1, .Name x2 p2] kk pt, iter, [], 0⟩] scope pos) 0 (.ref z) (.ref s₂.heap.objs.size) (compEnvC scope cl H2.objs.size env))
        (RR (.ref s₂.heap.objs.size) H2.objs.size) s₃ := by
    rintro s₃ rfl
    refine compLoop_D2
      (fun k s' => ∃ h' tk i m' kvs, s' = { s₂ with heap := h', toks := tk } ∧ i ≤ c.length ∧ k = c.length + 1 - i ∧ ZSt z TI TO i1 i2 l1 l2 xs ys i h' ∧ h'.DictOf (PySem.strKind prog w) s₂.heap.objs.size kvs ∧ h'.Ns H2.objs.size m' ∧ KVR kvs (c.take i) ∧
        (∀ b o, b ≠ H2.objs.size → b ∉ [z, TO, i1, i2] → b ≠ s₂.heap.objs.size → s₂.heap.get? b = some o → h'.get? b = some o)) ?_ (c.length + 1)
      ⟨h₁, _, 0, _, [], rfl, Nat.zero_le _, rfl, hst₁, hacc, hns₁, .nil, fun b o _ _ _ e => old b o e⟩
    intro k s' hJ54
    (refine (let Gk : Prop := _; (?_ : Gk)))
    obtain ⟨h', tk, i, m', kvs, rfl, hi, rfl, hst', hacc', hn', hkv, hk'⟩ := hJ54
    ((show Gk); k_unfold; clear Gk)
    by_cases hlt : i < c.length
    · refine W.item i _ _ _ hlt hst' fun T vals h₂ tk₂ hPt hTs hT hMid hk₂ => ?_
      (refine (let Gk : Prop := _; (?_ : Gk)))
      obtain ⟨x, y, hxi, hyi, rfl⟩ := hPt
      have hTw := W.apart _ _ _ hMid
      ((show Gk); k_unfold; clear Gk)
      refine W.go _ _ _ i T _ _ _ hMid fun h₃ hst₃ hk₃ => ?_
      have hT₃ : h₃.IsTuple T #[x, y] := by
        (refine (let Gk : Prop := _; (?_ : Gk)))
        obtain ⟨o, e, r⟩ := hT
        ((show Gk); k_unfold; clear Gk)
        exact ⟨o, hk₃ _ _ hTw e, r⟩
      refine wpAny_assign_Tuple hh hT₃ rfl rfl fun h₄ hx₄ => ?_
      have old₄ : ∀ b o, h₃.get? b = some o → h₄.get? b = some o := fun b o e => hx₄ b o (Nat.ne_of_lt (Heap.lt_size e)) e
      have up4 : ∀ b o, b ∉ [z, TO, i1, i2] → h'.get? b = some o → h₄.get? b = some o := fun b o hb e => old₄ b o (hk₃ b o hb (hk₂ b o hb e))
      have hn₄ : h₄.Ns H2.objs.size m' := hn'.at' fun o e => up4 _ o hCw e
      have hst₄ : ZSt z TI TO i1 i2 l1 l2 xs ys (i + 1) h₄ := W.frame _ _ _ hst₃ fun b _ o e => old₄ b o e
      have hp : ((compEnvC scope cl H2.objs.size env).scope.kind == .class || ((compEnvC scope cl H2.objs.size env).scope.kind == .module && (compEnvC scope cl H2.objs.size env).locals != (compEnvC scope cl H2.objs.size env).globals)) = false := by simp [compEnvC, relabel, hkind]
      show wpAny _ A (do holding [y] (assign (.Name x1 p1) (compEnvC scope cl H2.objs.size env) x); do holding [] (assign (.Name x2 p2) (compEnvC scope cl H2.objs.size env) y); pure ()) _ _ _
      refine wpAny_bind (wpAny_holding (wpAny_assign_Name (wpAny_storeName_local (lookup_relabel_local hx1) hn₄ (fun h₅ hn₅ hs₅ => ?_) hp)))
      replace hs₅ : Heap.SameBut H2.objs.size h₄ h₅ := hs₅
      refine wpAny_bind (wpAny_holding (wpAny_assign_Name (wpAny_storeName_local (lookup_relabel_local hx2) hn₅ (fun h₆ hn₆ hs₆ => wpAny_pure ?_) hp)))
      replace hs₆ : Heap.SameBut H2.objs.size h₅ h₆ := hs₆
      have up6 : ∀ b o, b ≠ H2.objs.size → b ∉ [z, TO, i1, i2] → h'.get? b = some o → h₆.get? b = some o := fun b o hbC hb e => hs₆.extBut b o hbC (hs₅.extBut b o hbC (up4 b o hb e))
      have k6 : ∀ b o, b ≠ H2.objs.size → b ∉ [z, TO, i1, i2] → b ≠ s₂.heap.objs.size → s₂.heap.get? b = some o → h₆.get? b = some o := fun b o hbC hb hbD e => up6 b o hbC hb (hk' b o hbC hb hbD e)
      obtain ⟨F6, N6⟩ := frS h₆ k6
      have hst₆ : ZSt z TI TO i1 i2 l1 l2 xs ys (i + 1) h₆ := W.frame _ _ _ hst₄ fun b hb o e => hs₆.extBut b o (fun q => hCf (q ▸ hb)) (hs₅.extBut b o (fun q => hCf (q ▸ hb)) e)
      (refine (let Gk : Prop := _; (?_ : Gk)))
      obtain ⟨oC, heC, hoC⟩ := LCg.ns_obj hn₆
      obtain ⟨kg, hkg⟩ : ∃ kg, c[i]? = some kg := ⟨_, List.getElem?_eq_getElem hlt⟩
      obtain ⟨kn, gn⟩ := kg
      ((show Gk); k_unfold; clear Gk)
      refine wpAny_mono (step i x y kn gn hxi hyi hkg H2.objs.size oC _ h₆ _ _ hoC (by simp [hne]) (by simp) F6 (fun p hp => by
        rcases List.mem_cons.mp hp with rfl | hp
        · exact ⟨heC, Ne.symm (below L hLlt).1, hC₀⟩
        · exact N6 p hp)) (fun kv s₄ h₄' => ?_) fun _ _ e => e
      (refine (let Gk : Prop := _; (?_ : Gk)))
      obtain ⟨t, tk4, rfl, rfl, h₄'⟩ := h₄'
      ((show Gk); k_unfold; clear Gk)
      refine wpAny_mono h₄' (fun vv s₅ h₅' => ?_) fun _ _ e => e
      (refine (let Gk : Prop := _; (?_ : Gk)))
      obtain ⟨t', tk5, rfl, rfl⟩ := h₅'
      have hkl : kvs.length ≤ sizeLine := by
        have := congrArg List.length hkv.keys
        simp only [List.length_map, List.length_take] at this
        rw [sizeLine_eq]; lia
      ((show Gk); k_unfold; clear Gk)
      refine wpAny_dictSet_pairs (hsz := hkl) (strKind_is _ _ _ _) (hacc'.at fun o e => up6 _ o hDC hDw e) fun h₇ hl₇ hs₇ => ?_
      refine ⟨c.length + 1 - (i + 1), by lia, h₇, _, i + 1, _, stored kvs kn (.int gn t'), rfl, hlt, rfl, ?_, hl₇, hn₆.sameBut hs₇ (Ne.symm hDC), ?_, fun b o hbC hb hbD e => hs₇.extBut b o hbD (k6 b o hbC hb hbD e)⟩
      · exact W.frame _ _ _ hst₆ fun b hb o e => hs₇.extBut b o (fun q => hDf (q ▸ hb)) e
      · rw [List.take_add_one, hkg]
        refine hkv.stored fun hm => ?_
        (refine (let Gk : Prop := _; (?_ : Gk)))
        obtain ⟨q, hq, e⟩ := List.mem_map.mp hm
        obtain ⟨j, hj, ej⟩ := List.getElem_of_mem hq
        have hji : j < i := by simpa using (Nat.lt_of_lt_of_le hj (by simp [List.length_take]; lia))
        have h1 : (c.map (·.1))[j]? = some kn := by
          rw [List.getElem?_map, List.getElem?_eq_getElem (by lia)]
          rw [List.getElem_take] at ej
          rw [ej]; exact congrArg some e
        have h2 : (c.map (·.1))[i]? = some kn := by rw [List.getElem?_map, hkg]; rfl
        ((show Gk); k_unfold; clear Gk)
        exact absurd ((List.getElem?_inj (by simpa using (by lia : j < c.length)) hnd).mp (h1.trans h2.symm)) (by lia)
    · obtain rfl : i = c.length := Nat.le_antisymm hi (Nat.not_lt.mp hlt)
      refine W.done _ _ _ hst' fun h₂ tk₂ hk₂ => ?_
      have kk2 : ∀ b o, b ≠ H2.objs.size → b ∉ [z, TO, i1, i2] → b ≠ s₂.heap.objs.size → s₂.heap.get? b = some o → h₂.get? b = some o := fun b o hbC hb hbD e => hk₂ b o hb (hk' b o hbC hb hbD e)
      obtain ⟨F2, N2⟩ := frS h₂ kk2
      rw [List.take_length] at hkv
      exact hRR _ _ h₂ tk₂ _ kvs F2 N2 (hn'.at' fun o e => hk₂ _ o hCw e) (hacc'.at fun o e => hk₂ _ o hDw e) hkv (fresh _ (Nat.le_refl _)) (fresh _ (by rw [hC]; exact Nat.le_succ _)) hDC (Nat.le_refl _)
  exact codeAny_compStart_dict (loop _ rfl) (W.self 0 _ _ _ hst₁ (loop _ rfl))
end
end Mine
theorem Mine.off26 : True := by w_top off; trivial
namespace Mine
open PySem PySem.W PySem.Calls PyProof.Rows PyProof.V PySem.Spec
section
variable {prog : Program} {w : World} {A : Around} {E : Value → Shared → Prop} {s : Shared} {h₀ : Heap} {L : Addr} {m : Str → Option Value} {env : Env}
theorem eval_comp_zipD {kx vx iter : Expr} {x1 x2 : Str} {p1 p2 : Pos} {kk : Nat} {pt : Pos} {scope : Scope} {cl : List (Str × Addr)} {pos : Pos} {Q : Value → Shared → Prop} (F₀ : Fr h₀ L s.heap m)
    (hclos : closureFor scope env = pure cl) (hcell : ∀ y ∈ scope.names, y.2 ≠ .cell) (hkind : scope.kind = .function) (hnames : ∀ z ∈ scope.names, z.2 = .local → scope.names.lookup z.1 = some .local)
    (hx1 : scope.names.lookup x1 = some .local) (hx2 : scope.names.lookup x2 = some .local) (hne : x1 ≠ x2)
    (h : wpAny (model prog w) A (eval iter env) (fun xv s₁ => ∃ z TI TO i1 i2 l1 l2 xs ys news, ∃ c : List (Str × Int), xv = .ref z ∧ A.handled = none ∧ ZipApart z TI TO i1 i2 l1 l2 ∧ ZSt z TI TO i1 i2 l1 l2 xs ys 0 s₁.heap ∧ (∀ b ∈ [z, TI, TO, i1, i2, l1, l2], b < s₁.heap.objs.size) ∧
      xs.size = c.length ∧ ys.size = c.length ∧ c.length ≤ 1000 ∧ (c.map (·.1)).Nodup ∧ Fr h₀ L s₁.heap m ∧ News h₀ L s₁.heap news ∧ L ∉ [z, TO, i1, i2] ∧ (∀ b ∈ [z, TO, i1, i2], h₀.get? b = none) ∧ (∀ p ∈ news, p.1 ∉ [z, TO, i1, i2]) ∧
      (∀ (i : Nat) (x y : Value) (k : Str) (g : Int), xs[i]? = some x → ys[i]? = some y → c[i]? = some (k, g) → ∀ C oC m₂ h tk (E' : Value → Shared → Prop), LCg.NsObj oC m₂ → m₂ x1 = some x → m₂ x2 = some y → Fr h₀ L h m → News h₀ L h ((C, oC) :: news) →
        wpAny (model prog w) A (eval kx (compEnvC scope cl C env)) (fun kv s₄ => ∃ t tk4, kv = .str k t ∧ s₄ = { s₁ with heap := h, toks := tk4 } ∧
          wpAny (model prog w) A (eval vx (compEnvC scope cl C env)) (fun vv s₅ => ∃ t tk5, vv = .int g t ∧ s₅ = { s₁ with heap := h, toks := tk5 }) E' s₄) E' { s₁ with heap := h, toks := tk }) ∧
      (∀ D od h' tk kvs, Fr h₀ L h' m → News h₀ L h' ((D, od) :: news) → od.IsDictOf (PySem.strKind prog w) kvs → KVR kvs c → (∀ p ∈ news, p.1 ≠ D) → L < D → Q (.ref D) { s₁ with heap := h', toks := tk })) E s)
    (hs : ∀ x, foldedSetIterable iter env x = pure x := by intro _; rfl) :
    wpAny (model prog w) A (eval (.DictComp kx vx [⟨.Tuple [.Name x1 p1, .Name x2 p2] kk pt, iter, [], 0⟩] scope pos) env) Q E s := by
  revert F₀ hclos hcell hkind hnames hx1 hx2 hne h hs
  revert prog w A E s h₀ L m env kx vx iter x1 x2 p1 p2 kk pt scope cl pos Q
  iterate 6 refine no_implicit_lambda% (Mine.pad1 ?_)
  refine' no_implicit_lambda% (Mine.hk28 ?ne ?_)
  case ne => (repeat' (first | (refine Mine.nePair ?_ ?_) | exact Mine.neWorld | exact Mine.neAround | exact Mine.neShared | infer_instance))
  generalize Mine.A7 _ = prog; generalize Mine.A8 _ = w; generalize Mine.A9 _ = A; generalize Mine.A10 _ = E; generalize Mine.A11 _ = s; generalize Mine.A12 _ = h₀; generalize Mine.A13 _ = L; generalize Mine.A14 _ = m; generalize Mine.A15 _ = env; generalize Mine.A16 _ = kx; generalize Mine.A17 _ = vx; generalize Mine.A18 _ = iter; generalize Mine.A19 _ = x1; generalize Mine.A20 _ = x2; generalize Mine.A21 _ = p1; generalize Mine.A22 _ = p2; generalize Mine.A23 _ = kk; generalize Mine.A24 _ = pt; generalize Mine.A25 _ = scope; generalize Mine.A26 _ = cl; generalize Mine.A27 _ = pos; generalize Mine.A28 _ = Q
  intro uHk
  clear uHk
  intro F₀ hclos hcell hkind hnames hx1 hx2 hne h hs
  rw [arm_eval_DictComp]
  refine wpAny_comprehension_free (use := none) rfl hs hclos hkind hnames (wpAny_mono h (fun xv s₁ h₁ => ?_) fun _ _ e => e)
  (refine (let Gk : Prop := _; (?_ : Gk)))
  obtain ⟨z, TI, TO, i1, i2, l1, l2, xs, ys, news, c, rfl, hh, D0, hst, hfp, hcx, hcy, hsz, hnd, F, N, hL, hz₀, off, step, fin⟩ := h₁
  ((show Gk); k_unfold; clear Gk)
  refine wpAny_pyIter_zip hst.1 ?_
  refine block_zipD hh D0 hst hfp c hcx hcy hsz hnd hcell hkind hx1 hx2 hne F N hL hz₀ off step ?_
  intro D C h' tk m' kvs F' N' hn hd hkv hDn hCn hDC hDs
  have hCL := fr_ne F hCn
  have hC₀ := base_none F hCn
  refine ⟨m', hn, fun h'' hs'' => ?_⟩
  (refine (let Gk : Prop := _; (?_ : Gk)))
  obtain ⟨od, hod, hoi⟩ := Heap.dictOf_iff.mp (hd.extBut hs''.extBut hDC)
  ((show Gk); k_unfold; clear Gk)
  refine fin D od h'' tk kvs (F'.change hs'' hCL hC₀) (fun p hp => ?_) hoi hkv (fun p hp => Ne.symm (get_ne hDn (N p hp).1)) (Nat.lt_of_lt_of_le F.ns.lt hDs)
  rcases List.mem_cons.mp hp with rfl | hp
  · exact ⟨hod, fr_ne F hDn, base_none F hDn⟩
  · exact ⟨hs''.extBut _ _ (Ne.symm (get_ne hCn (N p hp).1)) (N' p hp).1, (N' p hp).2⟩
end
end Mine
namespace Mine
open PySem PySem.W PySem.Calls PyProof.Rows
noncomputable def lrKey (i : Nat) : Stmt := nthStmtF (forBody (lrStmt 7)) i
noncomputable def farD (kv : Int) (ns : List Int) : List (Str × Int) := (ns.map wayOf).zip (ns.map fun x => Builtin.bitXor x kv)
theorem farD_len (kv : Int) (ns : List Int) : (farD kv ns).length = ns.length := by unfold farD; simp
theorem farD_keys (kv : Int) (ns : List Int) : (farD kv ns).map (·.1) = ns.map wayOf := by unfold farD; rw [List.map_fst_zip (by simp)]
theorem run_far {w : World} {p : Program} {loose : List Str} {mean : ExcName → Option Value} {mg mb : Str → Option Value} {dp un : Nat} {gd : Option (List Code)} {cn : Str} {cs : Scope} {a : Addr} {ccd : Value} {cl : List (Str × Addr)} {outer : List Env} {base h₀ : Heap} {L L' : Addr} {m0 : Str → Option Value} {s : Shared} {Q : Flow → Shared → Prop} {E : Value → Shared → Prop} {nm wy : Addr} {o3 o4 : Obj} {us zs : List Value} {ns : List Int} {rest : Led} {kv : Int} {tk0 : Tok} {v4 : Option Value}
    (B : Below (ktrTop dp un gd cn cs L a ccd cl outer) base (envX cn cs L a ccd cl :: outer) h₀) (X : (hd.heap_39 w.params).In h₀) (T : Top p loose mean mg mb h₀) (hk : cs.kind = .function) (hdp : dp + 80 < recursionLimit) (hun : un + 1600 < cLine)
    (F : Fr h₀ L' s.heap (fun y => if y = "ways" then some (.ref wy) else if y = "numbers" then some (.ref nm) else m0 y)) (N : News h₀ L' s.heap ((L' + 1 + 1 + 1 + 1, o4) :: (wy, LCg.lst zs) :: (nm, LCg.lst us) :: (L' + 1 + 1 + 1, o3) :: rest))
    (hus : IntsAre us ns) (hns : ns.length = 5) (hb : ∀ x ∈ ns, 0 ≤ x ∧ x < 65536) (hzs : Strs zs (ns.map wayOf)) (hnd : (ns.map wayOf).Nodup) (ho3 : o3.data = Data.cell (some (.int kv tk0))) (ho4 : o4.data = Data.cell v4) (hkv : 0 ≤ kv ∧ kv < 65536)
    (hoff4 : ∀ p ∈ (wy, LCg.lst zs) :: (nm, LCg.lst us) :: (L' + 1 + 1 + 1, o3) :: rest, p.1 ≠ L' + 1 + 1 + 1 + 1)
    (hret : ∀ D od kvs o4' h' tk, od.IsDictOf (PySem.strKind PySem.Challenge.pw_rt0090_01 w) kvs → KVR kvs (farD kv ns) → o4'.data = Data.cell (some (.ref D)) → Fr h₀ L' h' (fun y => if y = "ways" then some (.ref wy) else if y = "numbers" then some (.ref nm) else m0 y) → News h₀ L' h' ((D, od) :: (L' + 1 + 1 + 1 + 1, o4') :: (wy, LCg.lst zs) :: (nm, LCg.lst us) :: (L' + 1 + 1 + 1, o3) :: rest) → L' < D → (∀ p ∈ (L' + 1 + 1 + 1 + 1, o4) :: (wy, LCg.lst zs) :: (nm, LCg.lst us) :: (L' + 1 + 1 + 1, o3) :: rest, p.1 ≠ D) → Q .next { s with heap := h', toks := tk })
    (hE : PassesOwn (model PySem.Challenge.pw_rt0090_01 w) ((ktrTop dp un gd cn cs L a ccd cl outer).deeper (envOfC "_law_run" lrScope L' 333 (.ref 332))) (envOfC "_law_run" lrScope L' 333 (.ref 332)) E) :
    wpAny (model PySem.Challenge.pw_rt0090_01 w) ((ktrTop dp un gd cn cs L a ccd cl outer).deeper (envOfC "_law_run" lrScope L' 333 (.ref 332))) (exec (lrKey 0) (envOfC "_law_run" lrScope L' 333 (.ref 332))) Q E s := by
  revert B X T hk hdp hun F N hus hns hb hzs hnd ho3 ho4 hkv hoff4 hret hE
  revert w p loose mean mg mb dp un gd cn cs a ccd cl outer base h₀ L L' m0 s Q E nm wy o3 o4 us zs ns rest kv tk0 v4
  refine' no_implicit_lambda% (Mine.hk34 ?ne ?_)
  case ne => (repeat' (first | (refine Mine.nePair ?_ ?_) | exact Mine.neWorld | exact Mine.neAround | exact Mine.neShared | infer_instance))
  generalize Mine.A1 _ = w; generalize Mine.A2 _ = p; generalize Mine.A3 _ = loose; generalize Mine.A4 _ = mean; generalize Mine.A5 _ = mg; generalize Mine.A6 _ = mb; generalize Mine.A7 _ = dp; generalize Mine.A8 _ = un; generalize Mine.A9 _ = gd; generalize Mine.A10 _ = cn; generalize Mine.A11 _ = cs; generalize Mine.A12 _ = a; generalize Mine.A13 _ = ccd; generalize Mine.A14 _ = cl; generalize Mine.A15 _ = outer; generalize Mine.A16 _ = base; generalize Mine.A17 _ = h₀; generalize Mine.A18 _ = L; generalize Mine.A19 _ = L'; generalize Mine.A20 _ = m0; generalize Mine.A21 _ = s; generalize Mine.A22 _ = Q; generalize Mine.A23 _ = E; generalize Mine.A24 _ = nm; generalize Mine.A25 _ = wy; generalize Mine.A26 _ = o3; generalize Mine.A27 _ = o4; generalize Mine.A28 _ = us; generalize Mine.A29 _ = zs; generalize Mine.A30 _ = ns; generalize Mine.A31 _ = rest; generalize Mine.A32 _ = kv; generalize Mine.A33 _ = tk0; generalize Mine.A34 _ = v4
  intro uHk
  clear uHk
  intro B X T hk hdp hun F N hus hns hb hzs hnd ho3 ho4 hkv hoff4 hret hE
  revert hE
  conv in (occs := *) lrScope => all_goals whnf
  conv in lrKey 0 => whnf
  intro hE
  (refine (let Akₘ : PySem.Around := _; (?_ : wpAny _ Akₘ _ _ _ _)))
  walk1
  ((with_reducible rename News _ _ _ _ => Nz); (with_reducible rename Fr _ _ _ _ => Fz))
  k_dflt (refine eval_comp_zipD (F₀ := Fz) (by with_unfolding_all rfl) (by decide) (by rfl) (by decide) (by rfl) (by rfl) (by decide) ?_)
  (repeat' (first | ((with_reducible show @ite Prop _ _ _ _); walk1) | (k_unfold; (try dsimp only)) | ((fail_if_success (with_reducible (refine Mine.stp 9 ?_ ?_; (focus ((repeat' constructor); done))))); (first | (k_end; wrow_close) | walk1 | (dsimp only; walk1))) | ((fail_if_success (with_reducible show wpAny _ _ _ _ _ _)); dsimp only [Mine.MyPost]) | (leave1; try dsimp only) | fail "no step"))
  ((with_reducible rename News _ _ _ _ => Nz); (with_reducible rename Fr _ _ _ _ => Fz))
  have a1 : wy < s.heap.objs.size := Heap.lt_size (Nz (wy, LCg.lst zs) (by k_mem)).1
  have a2 : nm < s.heap.objs.size := Heap.lt_size (Nz (nm, LCg.lst us) (by k_mem)).1
  have hLs : L' < s.heap.objs.size := Fz.ns.lt
  have hab : h₀.objs.size ≤ L' := Fz.above
  refine call_zip_2 (lst_is (News.get Nz (by k_mem))) (lst_is (News.get Nz (by k_mem))) fun h' hz hTI hTO hit1 hit2 hsz hkk => ?_
  have nw : ∀ k, h₀.get? (s.heap.objs.size + k) = none := fun k => Heap.get?_none_of_le (Nat.le_trans hab (Nat.le_trans (Nat.le_of_lt hLs) (Nat.le_add_right _ k)))
  have dn : ∀ k (b : Addr), b < s.heap.objs.size → b ≠ s.heap.objs.size + k := fun k b hb e => Nat.ne_of_lt (Nat.lt_of_lt_of_le hb (Nat.le_add_right _ k)) e
  have hzl := hzs.len
  have hul := hus.length
  simp only [List.length_map] at hzl
  refine ⟨s.heap.objs.size + 4, s.heap.objs.size + 2, s.heap.objs.size + 3, s.heap.objs.size, s.heap.objs.size + 1, wy, nm, zs.toArray, us.toArray, (L' + 1 + 1 + 1 + 1, o4) :: (wy, LCg.lst zs) :: (nm, LCg.lst us) :: (L' + 1 + 1 + 1, o3) :: rest, farD kv ns, rfl, by rfl, zipApart_new a1 a2, ⟨hz, hTI, ⟨_, _, hTO⟩, hit1, hit2, (lst_is (News.get (news_keeps Nz hkk) (by k_mem))), (lst_is (News.get (news_keeps Nz hkk) (by k_mem)))⟩, ?_, by rw [farD_len]; simp; lia, by rw [farD_len]; simp; lia, by rw [farD_len]; lia, ?_, fr_keeps Fz hkk, news_keeps Nz hkk, ?_, ?_, ?_, ?_, ?_⟩
  · intro b hb
    show b < h'.objs.size
    rw [hsz]
    simp only [List.mem_cons, List.not_mem_nil, or_false] at hb
    rcases hb with rfl | rfl | rfl | rfl | rfl | rfl | rfl
    · exact Nat.add_lt_add_left (by decide) _
    · exact Nat.add_lt_add_left (by decide) _
    · exact Nat.add_lt_add_left (by decide) _
    · exact Nat.lt_add_of_pos_right (by decide)
    · exact Nat.add_lt_add_left (by decide) _
    · exact Nat.lt_of_lt_of_le a1 (Nat.le_add_right _ _)
    · exact Nat.lt_of_lt_of_le a2 (Nat.le_add_right _ _)
  · rw [farD_keys]; exact hnd
  · intro hm
    simp only [List.mem_cons, List.not_mem_nil, or_false] at hm
    rcases hm with e | e | e | e
    · exact dn 4 _ hLs e
    · exact dn 3 _ hLs e
    · exact dn 0 _ hLs e
    · exact dn 1 _ hLs e
  · intro b hb
    simp only [List.mem_cons, List.not_mem_nil, or_false] at hb
    rcases hb with rfl | rfl | rfl | rfl
    · exact nw 4
    · exact nw 3
    · exact nw 0
    · exact nw 1
  · intro p hp hm
    have hq := Heap.lt_size (Nz p hp).1
    simp only [List.mem_cons, List.not_mem_nil, or_false] at hm
    rcases hm with e | e | e | e
    · exact dn 4 _ hq e
    · exact dn 3 _ hq e
    · exact dn 0 _ hq e
    · exact dn 1 _ hq e
  · intro i x y k g hx hy hc C oC m₂ h9 tk9 E' hC hm1 hm2 F9 N9
    clear Fz Nz
    (refine (let Gk : Prop := _; (?_ : Gk)))
    obtain ⟨wx, tx, rfl, hwx⟩ := hzs.at (by simpa using hx)
    obtain ⟨n, tn, rfl, hn⟩ := IntsAre.at hus i y (by simpa using hy)
    have hbx := hb n (List.mem_of_getElem? hn)
    obtain ⟨hk1, hg1⟩ := List.getElem?_zip_eq_some.mp hc
    rw [hwx] at hk1
    obtain rfl : wx = k := Option.some.inj hk1
    rw [List.getElem?_map, hn] at hg1
    obtain rfl := Option.some.inj hg1
    ((show Gk); k_unfold; clear Gk)
    show wpAny _ _ _ _ _ { heap := h9, gens := s.gens, drawn := s.drawn, toks := tk9, os := s.os }
    (try k_fold)
    walk1
    refine ⟨_, _, rfl, rfl, ?_⟩
    (repeat' (first | ((with_reducible show @ite Prop _ _ _ _); walk1) | (k_unfold; (try dsimp only)) | ((fail_if_success (with_reducible (refine Mine.stp 8 ?_ ?_; (focus ((repeat' constructor); done))))); (first | ((fail_if_success (with_reducible show @Exists _ _)); k_end; wrow_close) | walk1 | (dsimp only; walk1))) | ((fail_if_success (with_reducible show wpAny _ _ _ _ _ _)); dsimp only [Mine.MyPost]) | (leave1; try dsimp only) | fail "no step"))
  · intro D od h5 tk5 kvs F5 N5 hd5 hkv5 hne5 hLD
    clear Fz Nz
    have g4 := N5 (L' + 1 + 1 + 1 + 1, o4) (.tail _ (.head _))
    refine wpAny_storeName_cell (by rfl) (by rfl) (c := L' + 1 + 1 + 1 + 1) (by rfl) ⟨o4, g4.1, ho4⟩ (fun h6 hc6 hs6 => ?_)
    (refine (let Gk : Prop := _; (?_ : Gk)))
    obtain ⟨o4', e4', hd4'⟩ := hc6
    have hDL4 : D ≠ L' + 1 + 1 + 1 + 1 := Ne.symm (hne5 _ (.head _))
    have F6 := F5.change hs6 g4.2.1 g4.2.2
    have N6 : News h₀ L' h6 ((D, od) :: (L' + 1 + 1 + 1 + 1, o4') :: (wy, LCg.lst zs) :: (nm, LCg.lst us) :: (L' + 1 + 1 + 1, o3) :: rest) := fun p hp => by
      rcases List.mem_cons.mp hp with rfl | hp
      · exact ⟨hs6.extBut _ _ hDL4 (N5 _ (.head _)).1, (N5 _ (.head _)).2⟩
      rcases List.mem_cons.mp hp with rfl | hp
      · exact ⟨e4', g4.2⟩
      · exact ⟨hs6.extBut _ _ (hoff4 p hp) (N5 p (.tail _ (.tail _ hp))).1, (N5 p (.tail _ (.tail _ hp))).2⟩
    ((show Gk); k_unfold; clear Gk)
    exact hret D od kvs o4' h6 _ hd5 hkv5 hd4' F6 N6 hLD hne5
end Mine
theorem Mine.off27 : True := by w_top off; trivial
namespace Mine
open PySem PySem.W PySem.Calls PyProof.Rows
theorem lam_323 {lam : Led} (H : LamLed lam) : ∃ o, (323, o) ∈ lam := by
  rcases H with rfl | ⟨c', oc, vs, t, rfl, _⟩
  · exact ⟨_, .head _⟩
  · exact ⟨_, .tail _ (.head _)⟩
theorem found_led {h₀ h h' : Heap} {L : Addr} {m : Str → Option Value} {A lam lam' : Led} (F : Fr h₀ L h m) (N : News h₀ L h (A ++ lam)) (h9 : ∃ o, (323, o) ∈ lam) (hap : ∀ p ∈ lam, ∀ q ∈ A, p.1 ≠ q.1) (k : ∀ b o, b ≠ 323 → h.get? b = some o → h'.get? b = some o) (Nl : News h₀ L h' lam') (hn : ∀ p ∈ lam', p ∈ lam ∨ p.1 = 323 ∨ h.get? p.1 = none) :
    Fr h₀ L h' m ∧ News h₀ L h' (A ++ lam') ∧ (∀ p ∈ lam', ∀ q ∈ A, p.1 ≠ q.1) := by
  obtain ⟨o, ho⟩ := h9
  have hz := N _ (List.mem_append_right _ ho)
  refine ⟨fr_but1 F hz.2.2 hz.2.1 k, fun p hp => ?_, fun p hp q hq => ?_⟩
  · rcases List.mem_append.mp hp with hp | hp
    · exact ⟨k _ _ (Ne.symm (hap _ ho p hp)) (N p (List.mem_append_left _ hp)).1, (N p (List.mem_append_left _ hp)).2⟩
    · exact Nl p hp
  · rcases hn p hp with e | e | e
    · exact hap p e q hq
    · rw [e]; exact hap _ ho q hq
    · exact get_ne e (N q (List.mem_append_left _ hq)).1
theorem run_ask {w : World} {p : Program} {loose : List Str} {mean : ExcName → Option Value} {mg mb : Str → Option Value} {dp un : Nat} {gd : Option (List Code)} {cn : Str} {cs : Scope} {a : Addr} {ccd : Value} {cl : List (Str × Addr)} {outer : List Env} {base h₀ : Heap} {L L' : Addr} {m0 : Str → Option Value} {s : Shared} {Q : Flow → Shared → Prop} {E : Value → Shared → Prop} {tb fa wy : Addr} {o2 o4 otb ofa : Obj} {zs : List Value} {ws : List Str} {TL rest lam : Led} {kvs : List (Str × Value)} {c : List (Str × Int)} {tabs : Str → List (Str × Str)} {best : Str}
    (B : Below (ktrTop dp un gd cn cs L a ccd cl outer) base (envX cn cs L a ccd cl :: outer) h₀) (X : (hd.heap_39 w.params).In h₀) (T : Top p loose mean mg mb h₀) (hk : cs.kind = .function) (hdp : dp + 80 < recursionLimit) (hun : un + 1600 < cLine) (C : CodeHd h₀ 327 323)
    (F : Fr h₀ L' s.heap (fun y => if y = "ways" then some (.ref wy) else m0 y)) (N : News h₀ L' s.heap (((wy, LCg.lst zs) :: (L' + 1 + 1, o2) :: (L' + 1 + 1 + 1 + 1, o4) :: (tb, otb) :: (fa, ofa) :: (TL ++ rest)) ++ lam))
    (hzs : Strs zs ws) (hws : ws.length = 5) (ho2 : o2.data = Data.cell (some (.ref tb))) (ho4 : o4.data = Data.cell (some (.ref fa))) (hlam : LamLed lam) (hap : ∀ p ∈ lam, ∀ q ∈ (wy, LCg.lst zs) :: (L' + 1 + 1, o2) :: (L' + 1 + 1 + 1 + 1, o4) :: (tb, otb) :: (fa, ofa) :: (TL ++ rest), p.1 ≠ q.1)
    (hF : ∀ h, News h₀ L' h ((tb, otb) :: (fa, ofa) :: TL) → FoundOk w h tb fa kvs c ws tabs best) (hend : ∀ x ∈ ws, goF c tabs x 4 = best) (hl40 : ∀ x ∈ ws, x.length ≤ 40)
    (hret : ∀ h' tk lam', LamLed lam' → Fr h₀ L' h' (fun y => if y = "ways" then some (.ref wy) else m0 y) → News h₀ L' h' (((wy, LCg.lst zs) :: (L' + 1 + 1, o2) :: (L' + 1 + 1 + 1 + 1, o4) :: (tb, otb) :: (fa, ofa) :: (TL ++ rest)) ++ lam') → (∀ p ∈ lam', ∀ q ∈ (wy, LCg.lst zs) :: (L' + 1 + 1, o2) :: (L' + 1 + 1 + 1 + 1, o4) :: (tb, otb) :: (fa, ofa) :: (TL ++ rest), p.1 ≠ q.1) → Q .next { s with heap := h', toks := tk })
    (hE : PassesOwn (model PySem.Challenge.pw_rt0090_01 w) ((ktrTop dp un gd cn cs L a ccd cl outer).deeper (envOfC "_law_run" lrScope L' 333 (.ref 332))) (envOfC "_law_run" lrScope L' 333 (.ref 332)) E) :
    wpAny (model PySem.Challenge.pw_rt0090_01 w) ((ktrTop dp un gd cn cs L a ccd cl outer).deeper (envOfC "_law_run" lrScope L' 333 (.ref 332))) (exec (lrKey 1) (envOfC "_law_run" lrScope L' 333 (.ref 332))) Q E s := by
  revert tabs B X T hk hdp hun C F N hzs hws ho2 ho4 hlam hap hF hend hl40 hret hE
  revert w p loose mean mg mb dp un gd cn cs a ccd cl outer base h₀ L L' m0 s Q E tb fa wy o2 o4 otb ofa zs ws TL rest lam kvs c best
  iterate 2 refine no_implicit_lambda% (Mine.pad1 ?_)
  refine' no_implicit_lambda% (Mine.hk40 ?ne ?_)
  case ne => (repeat' (first | (refine Mine.nePair ?_ ?_) | exact Mine.neWorld | exact Mine.neAround | exact Mine.neShared | infer_instance))
  generalize Mine.A3 _ = w; generalize Mine.A4 _ = p; generalize Mine.A5 _ = loose; generalize Mine.A6 _ = mean; generalize Mine.A7 _ = mg; generalize Mine.A8 _ = mb; generalize Mine.A9 _ = dp; generalize Mine.A10 _ = un; generalize Mine.A11 _ = gd; generalize Mine.A12 _ = cn; generalize Mine.A13 _ = cs; generalize Mine.A14 _ = a; generalize Mine.A15 _ = ccd; generalize Mine.A16 _ = cl; generalize Mine.A17 _ = outer; generalize Mine.A18 _ = base; generalize Mine.A19 _ = h₀; generalize Mine.A20 _ = L; generalize Mine.A21 _ = L'; generalize Mine.A22 _ = m0; generalize Mine.A23 _ = s; generalize Mine.A24 _ = Q; generalize Mine.A25 _ = E; generalize Mine.A26 _ = tb; generalize Mine.A27 _ = fa; generalize Mine.A28 _ = wy; generalize Mine.A29 _ = o2; generalize Mine.A30 _ = o4; generalize Mine.A31 _ = otb; generalize Mine.A32 _ = ofa; generalize Mine.A33 _ = zs; generalize Mine.A34 _ = ws; generalize Mine.A35 _ = TL; generalize Mine.A36 _ = rest; generalize Mine.A37 _ = lam; generalize Mine.A38 _ = kvs; generalize Mine.A39 _ = c; generalize Mine.A40 _ = best
  intro uHk
  clear uHk
  intro tabs B X T hk hdp hun C F N hzs hws ho2 ho4 hlam hap hF hend hl40 hret hE
  revert hE
  conv in (occs := *) lrScope => all_goals whnf
  conv in lrKey 1 => whnf
  intro hE
  (refine (let Akₘ : PySem.Around := _; (?_ : wpAny _ Akₘ _ _ _ _)))
  simp only [List.cons_append] at N
  (repeat' (first | ((with_reducible show @ite Prop _ _ _ _); walk1) | (k_unfold; (try dsimp only)) | ((fail_if_success (with_reducible (refine Mine.stp 9 ?_ ?_; (focus ((repeat' constructor); done))))); (first | (k_end; wrow_close) | walk1 | (dsimp only; walk1))) | ((fail_if_success (with_reducible show wpAny _ _ _ _ _ _)); dsimp only [Mine.MyPost]) | (leave1; try dsimp only) | fail "no step"))
  ((with_reducible rename News _ _ _ _ => Nz); (with_reducible rename Fr _ _ _ _ => Fz))
  k_dflt (refine LCt.ListComp_T (F₀ := Fz) (by with_unfolding_all rfl) (by decide) (by rfl) (by decide) (by rfl) ?_)
  walk1
  ((with_reducible rename News _ _ _ _ => Nz); (with_reducible rename Fr _ _ _ _ => Fz))
  refine LCt.CompSrcT.ledger (k := zs.length) rfl Fz Nz (its := zs.toArray) (by k_mem) (by rw [sizeLine_eq]; simp [hzs.len, hws]) (fun g => ?_)
  clear Fz Nz
  refine compRestT_of zs.toArray.size (fun i ys news => ys = [] ∧ ∃ lam1, LamLed lam1 ∧ news = (wy, LCg.lst zs) :: (L' + 1 + 1, o2) :: (L' + 1 + 1 + 1 + 1, o4) :: (tb, otb) :: (fa, ofa) :: ((TL ++ rest) ++ lam1) ∧ (∀ p ∈ lam1, ∀ q ∈ (wy, LCg.lst zs) :: (L' + 1 + 1, o2) :: (L' + 1 + 1 + 1 + 1, o4) :: (tb, otb) :: (fa, ofa) :: (TL ++ rest), p.1 ≠ q.1)) ?_ ?_ _ 0 [] _ (Nat.zero_add _) ⟨rfl, lam, hlam, rfl, hap⟩
  · intro i ys news hi hJ55 v I oI Cc oC D m₂ h tk E' hP hC hx2 F2 N2 off ne
    (refine (let Gk : Prop := _; (?_ : Gk)))
    obtain ⟨rfl, lam1, hlam1, rfl, hap1⟩ := hJ55
    obtain ⟨x, tx, rfl, hx⟩ := hzs.at (by simpa using hP)
    have hmem : x ∈ ws := List.mem_of_getElem? hx
    have h40 := hl40 x hmem
    have off' := off.mem
    ((show Gk); k_unfold; clear Gk)
    (repeat' (first | ((with_reducible show @ite Prop _ _ _ _); walk1) | (k_unfold; (try dsimp only)) | ((fail_if_success (with_reducible (refine Mine.stp 9 ?_ ?_; (focus ((repeat' constructor); done))))); (first | (k_end; wrow_close) | walk1 | (dsimp only; walk1))) | ((fail_if_success (with_reducible show wpAny _ _ _ _ _ _)); dsimp only [Mine.MyPost]) | (leave1; try dsimp only) | fail "no step"))
    ((with_reducible rename News _ _ _ _ => Nz); (with_reducible rename Fr _ _ _ _ => Fz))
    have hT' := hF _ (news_sub (news' := (tb, otb) :: (fa, ofa) :: TL) Nz (by intro p hp; simp only [List.mem_cons, List.mem_append] at hp ⊢; rcases hp with hp | hp | hp <;> simp [hp]))
    have Nl := news_sub (news' := lam1) Nz (by intro p hp; simp only [List.mem_cons, List.mem_append]; simp [hp])
    have hap2 : ∀ p ∈ lam1, ∀ q ∈ (I, oI) :: (Cc, oC) :: (D, LCg.lst []) :: (wy, LCg.lst zs) :: (L' + 1 + 1, o2) :: (L' + 1 + 1 + 1 + 1, o4) :: (tb, otb) :: (fa, ofa) :: (TL ++ rest), p.1 ≠ q.1 := fun p hp q hq => by
      have ho := off' p (by simp only [List.mem_cons, List.mem_append]; simp [hp])
      rcases List.mem_cons.mp hq with rfl | hq
      · exact ho.1
      rcases List.mem_cons.mp hq with rfl | hq
      · exact ho.2.1
      rcases List.mem_cons.mp hq with rfl | hq
      · exact ho.2.2
      exact hap1 p hp q hq
    have hled := fun h' lam' => found_led (h' := h') (lam' := lam') Fz (A := (I, oI) :: (Cc, oC) :: (D, LCg.lst []) :: (wy, LCg.lst zs) :: (L' + 1 + 1, o2) :: (L' + 1 + 1 + 1 + 1, o4) :: (tb, otb) :: (fa, ofa) :: (TL ++ rest)) (lam := lam1) (by simpa using Nz) (lam_323 hlam1) hap2
    k_dflt (refine' Mine.c_found w _ tb fa kvs c ws tabs best x _ hT' hmem (hend x hmem) hlam1 ?k1 ?k2 ?k3 ?k5 ?k6 ?k7 ?k8 C Nl ?_; (case k1 => k_asm); (case k2 => k_asm); (case k3 => k_asm); (case k5 => k_asm); (case k6 => first | exact rfl | assumption); (case k7 => ktr_room); (case k8 => ktr_units); k_whole)
    intro h5 tk5 lam5 hlam5 hk5 N5 hn5
    (refine (let Gk : Prop := _; (?_ : Gk)))
    obtain ⟨F6, N6, hap6⟩ := hled h5 lam5 hk5 N5 hn5
    clear Fz Nz Nl hled hT'
    simp only [List.cons_append] at N6
    ((show Gk); k_unfold; clear Gk)
    try dsimp only
    (repeat' (first | ((with_reducible show @ite Prop _ _ _ _); walk1) | (k_unfold; (try dsimp only)) | ((fail_if_success (with_reducible (refine Mine.stp 9 ?_ ?_; (focus ((repeat' constructor); done))))); (first | (k_end; wrow_close) | walk1 | (dsimp only; walk1))) | ((fail_if_success (with_reducible show wpAny _ _ _ _ _ _)); dsimp only [Mine.MyPost]) | (leave1; try dsimp only) | fail "no step"))
    ((with_reducible rename News _ _ _ _ => Nz); (with_reducible rename Fr _ _ _ _ => Fz))
    refine ⟨_, _, (wy, LCg.lst zs) :: (L' + 1 + 1, o2) :: (L' + 1 + 1 + 1 + 1, o4) :: (tb, otb) :: (fa, ofa) :: ((TL ++ rest) ++ lam5), rfl, Fz, Nz, LCg.Off3.of fun p hp => ?_, .inr ⟨_, .head _, rfl, _, rfl⟩, rfl, lam5, hlam5, rfl, fun p hp q hq => hap6 p hp q (.tail _ (.tail _ (.tail _ hq)))⟩
    rcases List.mem_append.mp (show p ∈ ((wy, LCg.lst zs) :: (L' + 1 + 1, o2) :: (L' + 1 + 1 + 1 + 1, o4) :: (tb, otb) :: (fa, ofa) :: (TL ++ rest)) ++ lam5 from hp) with hp | hp
    · exact off' p (List.mem_append_left lam1 hp)
    · exact ⟨hap6 p hp (I, oI) (.head _), hap6 p hp (Cc, oC) (.tail _ (.head _)), hap6 p hp (D, LCg.lst []) (.tail _ (.tail _ (.head _)))⟩
  · intro ys news hJ56 D h tk F2 N2 o1'
    (refine (let Gk : Prop := _; (?_ : Gk)))
    obtain ⟨rfl, lam1, hlam1, rfl, hap1⟩ := hJ56
    ((show Gk); k_unfold; clear Gk)
    show wpAny _ _ _ _ _ { heap := h, gens := s.gens, drawn := s.drawn, toks := tk, os := s.os }
    (try k_fold)
    (repeat' (first | ((with_reducible show @ite Prop _ _ _ _); walk1) | (k_unfold; (try dsimp only)) | ((fail_if_success (with_reducible (refine Mine.stp 9 ?_ ?_; (focus ((repeat' constructor); done))))); (first | (k_end; wrow_close) | walk1 | (dsimp only; walk1))) | ((fail_if_success (with_reducible show wpAny _ _ _ _ _ _)); dsimp only [Mine.MyPost]) | (leave1; try dsimp only) | fail "no step"))
    ((with_reducible rename News _ _ _ _ => Nz); (with_reducible rename Fr _ _ _ _ => Fz))
    refine ne_strs (vs := []) (us := []) (xs := []) (News.get Nz (by k_mem)) (News.get Nz (by k_mem)) .nil .nil (fun x hx => nomatch hx) (by k_units) ?_
    (repeat' (first | ((with_reducible show @ite Prop _ _ _ _); walk1) | (k_unfold; (try dsimp only)) | ((fail_if_success (with_reducible (refine Mine.stp 9 ?_ ?_; (focus ((repeat' constructor); done))))); (first | (k_end; wrow_close) | walk1 | (dsimp only; walk1))) | ((fail_if_success (with_reducible show wpAny _ _ _ _ _ _)); dsimp only [Mine.MyPost]) | (leave1; try dsimp only) | fail "no step"))
    ((with_reducible rename News _ _ _ _ => Nz); (with_reducible rename Fr _ _ _ _ => Fz))
    exact hret _ _ lam1 hlam1 Fz (by rw [List.cons_append, List.cons_append, List.cons_append, List.cons_append, List.cons_append]; exact news_sub Nz (by (intro pₘ hpₘ; (repeat (rcases List.mem_cons.mp hpₘ with hqₘ | hpₘ; (focus (rw [hqₘ]; k_mem)))); (repeat (first | exact hpₘ | apply List.mem_cons_of_mem))))) hap1
end Mine
namespace Mine
open PySem PySem.W PySem.Calls PyProof.Rows
section
variable {prog : Program} {w : World} {A : Around} {E : Value → Shared → Prop} {s : Shared} {env : Env} {h₀ : Heap} {target : Expr} {body : List Stmt} {Q : Flow → Shared → Prop}
theorem tup_is {h : Heap} {l : Addr} {vs : List Value} {n : Nat} (e : h.get? l = some { cls := .type "tuple", data := .seq vs.toArray n }) : h.IsTuple l vs.toArray := ⟨_, e, rfl, n, rfl⟩
theorem iter_tupleL {l : Addr} {vs : List Value} {n : Nat} {m₀ : Str → Option Value} {news : Led} (J : Nat → (Str → Option Value) → Led → Prop)
    (hh : A.handled = none) (F : Fr h₀ env.locals s.heap m₀) (N : News h₀ env.locals s.heap ((l, { cls := .type "tuple", data := .seq vs.toArray n }) :: news)) (hln : ∀ p ∈ news, p.1 ≠ l) (hj : J 0 m₀ news)
    (turn : ∀ i v m₁ news₁ h tk I o, vs[i]? = some v → J i m₁ news₁ → (∀ p ∈ news₁, p.1 ≠ I ∧ p.1 ≠ l) → Fr h₀ env.locals h m₁ → News h₀ env.locals h ((I, o) :: (l, { cls := .type "tuple", data := .seq vs.toArray n }) :: news₁) →
      wpAny (model prog w) A (assign target env v) (fun _ s₂ => wpAny (model prog w) A (execs body env) (MyPost h₀ env.locals [(I, o), (l, { cls := .type "tuple", data := .seq vs.toArray n })] (J (i + 1)) s Q) E s₂) E { s with heap := h, toks := tk })
    (done : ∀ m₁ news₁ h tk, J vs.length m₁ news₁ → Fr h₀ env.locals h m₁ → News h₀ env.locals h news₁ → Q .next { s with heap := h, toks := tk })
    (hE : PassesOwn (model prog w) A env E := by passes_own) :
    wpAny (model prog w) A (pyIter (.ref l)) (fun it s₂ => MyLoop prog w A env target body Q E it s₂) E s := by
  revert J hh F N hln hj turn done hE
  revert prog w A E s env h₀ target body Q l vs n m₀ news
  iterate 1 refine no_implicit_lambda% (Mine.pad1 ?_)
  refine' no_implicit_lambda% (Mine.hk16 ?ne ?_)
  case ne => (repeat' (first | (refine Mine.nePair ?_ ?_) | exact Mine.neWorld | exact Mine.neAround | exact Mine.neShared | infer_instance))
  generalize Mine.A2 _ = prog; generalize Mine.A3 _ = w; generalize Mine.A4 _ = A; generalize Mine.A5 _ = E; generalize Mine.A6 _ = s; generalize Mine.A7 _ = env; generalize Mine.A8 _ = h₀; generalize Mine.A9 _ = target; generalize Mine.A10 _ = body; generalize Mine.A11 _ = Q; generalize Mine.A12 _ = l; generalize Mine.A13 _ = vs; generalize Mine.A14 _ = n; generalize Mine.A15 _ = m₀; generalize Mine.A16 _ = news
  intro uHk
  clear uHk
  intro J hh F N hln hj turn done hE
  have hg := (N _ (.head _)).1
  have hlL := (N _ (.head _)).2.1
  have hl0 := (N _ (.head _)).2.2
  have hls : s.heap.IsTuple l vs.toArray := tup_is hg
  have hlt : l < s.heap.objs.size := Heap.lt_size hg
  have hne : l ≠ s.heap.objs.size := Nat.ne_of_lt hlt
  have hI : h₀.get? s.heap.objs.size = none := next_is_new F
  refine wpAny_pyIter_tuple hls ?_
  have W0 := Walks.tuple (prog := prog) (w := w) hh s.heap.objs.size l hne vs.toArray
  have W : Itr prog w A target s.heap.objs.size [s.heap.objs.size, l] [s.heap.objs.size, l] vs.length (fun i v fr => vs[i]? = some v ∧ fr = []) (fun i h => h.IsTupleIter s.heap.objs.size l i ∧ h.get? l = some { cls := .type "tuple", data := .seq vs.toArray n }) := by
    refine ⟨fun b hb => hb, fun i h h' st k => ?_, fun i s' Q' E' hi st k => ?_, fun s' Q' E' st k => ?_⟩
    · (refine (let Gk : Prop := _; (?_ : Gk)))
      obtain ⟨o, ho, hc, hd⟩ := st.1
      ((show Gk); k_unfold; clear Gk)
      exact ⟨⟨o, k _ (.head _) _ ho, hc, hd⟩, k _ (.tail _ (.head _)) _ st.2⟩
    · refine W0.item i s' _ _ (by simpa using hi) ⟨st.1, tup_is st.2⟩ fun v h' tk hP st' hk' => ?_
      have hgl : h'.get? l = some { cls := .type "tuple", data := .seq vs.toArray n } := hk' _ _ (by simpa using hne) st.2
      exact letGo_tupleiter st'.1 (k v [] h' tk ⟨by simpa using hP, rfl⟩ (fun _ hp => nomatch hp) ⟨st'.1, hgl⟩ (fun b o hb e => hk' b o (fun q => hb (by rw [List.mem_singleton.mp q]; exact .head _)) e))
    · refine W0.done s' _ _ ⟨by simpa using st.1, tup_is st.2⟩ fun h' tk hk' => k h' tk fun b o hb e => hk' b o (fun q => hb (by rw [List.mem_singleton.mp q]; exact .head _)) e
  have gI : ∀ i (h : Heap), (h.IsTupleIter s.heap.objs.size l i ∧ h.get? l = some { cls := .type "tuple", data := .seq vs.toArray n }) → ∃ o, h.get? s.heap.objs.size = some o := fun i h st => let ⟨o, ho, _⟩ := st.1; ⟨o, ho⟩
  refine forLoop_my (s := { s with heap := s.heap.push { cls := .type "tuple_iterator", data := .fields #[.ref l, .int 0 0] } }) (news := news) W ?_ ?_ ?_
    ⟨⟨_, Heap.get?_push_size _ rfl, rfl, rfl⟩, Heap.get?_push_of_some _ hg⟩ (F.push _) (fun p hp => ⟨Heap.get?_push_of_some _ (N p (.tail _ hp)).1, (N p (.tail _ hp)).2⟩)
    (fun h => match h.get? s.heap.objs.size with | some o => [(s.heap.objs.size, o), (l, { cls := .type "tuple", data := .seq vs.toArray n })] | none => []) ?_ ?_ J hj ?_ ?_ ?_ hE
  · intro hm
    rcases List.mem_cons.mp hm with e | hm
    · exact absurd F.ns.lt (e ▸ Nat.lt_irrefl _)
    · exact hlL (List.mem_singleton.mp hm).symm
  · intro b hb
    rcases List.mem_cons.mp hb with e | hb
    · rw [e]; exact hI
    · rw [List.mem_singleton.mp hb]; exact hl0
  · intro p hp hw
    rcases List.mem_cons.mp hw with e | hw
    · exact absurd (Heap.lt_size (N p (.tail _ hp)).1) (e ▸ Nat.lt_irrefl _)
    · exact hln p hp (List.mem_singleton.mp hw)
  · intro i h st
    obtain ⟨o, ho⟩ := gI i h st
    rw [ho]
    refine ⟨fun p hp => ?_, fun b hb => ?_⟩
    · rcases List.mem_cons.mp hp with e | hp
      · rw [e]; exact ⟨ho, hI, .head _⟩
      · rw [List.mem_singleton.mp hp]; exact ⟨st.2, hl0, .tail _ (.head _)⟩
    · rcases List.mem_cons.mp hb with e | hb
      · exact ⟨o, by rw [e]; exact .head _⟩
      · exact ⟨_, by rw [List.mem_singleton.mp hb]; exact .tail _ (.head _)⟩
  · intro i h h' st k k' hp
    obtain ⟨o, ho⟩ := gI i h st
    rw [ho] at hp
    refine ⟨st.1.at fun o' e => ?_, hp (l, _) (.tail _ (.head _))⟩
    rw [ho] at e; cases e
    exact hp (s.heap.objs.size, o) (.head _)
  · intro i v fr m₁ news₁ h₁ tk₁ hin hJ57 st hJ hoff F₁ N₁
    (refine (let Gk : Prop := _; (?_ : Gk)))
    obtain ⟨hP, rfl⟩ := hJ57
    obtain ⟨o, hg⟩ := gI _ _ st
    ((show Gk); k_unfold; clear Gk)
    simp only [hg] at hoff N₁ ⊢
    exact turn i v m₁ news₁ h₁ tk₁ s.heap.objs.size o hP hJ (fun p hp => ⟨hoff p hp (s.heap.objs.size, o) (.head _), hoff p hp (l, _) (.tail _ (.head _))⟩) F₁ (by simpa using N₁)
  · intro i h st p hp
    obtain ⟨o, ho⟩ := gI i h st
    rw [ho] at hp
    rcases List.mem_cons.mp hp with e | hp
    · rw [e]; exact .head _
    · rw [List.mem_singleton.mp hp]; exact .tail _ (.head _)
  · intro h' tk m' news' hJ F' N'
    exact done m' news' h' tk hJ F' N'
end
end Mine
theorem Mine.off28 : True := by w_top off; trivial
namespace Mine
open PySem PySem.W PySem.Calls PyProof.Rows
theorem allLt_mem {d : Nat} {l : Led} (x : AllLt d l) : ∀ p ∈ l, @LT.lt Nat _ p.1 d := by
  induction l with
  | nil => exact fun _ h => nomatch h
  | cons q r ih =>
    intro p h
    rcases List.mem_cons.mp h with rfl | h
    · exact x.1
    · exact ih x.2 p h
theorem with_o2 {h₀ h : Heap} {L a1 a2 : Addr} {o1 o2 : Obj} {r : Led} {P : Prop} (_ : News h₀ L h ((a1, o1) :: (a2, o2) :: r)) (k : ∀ o, o = o2 → P) : P := k o2 rfl
noncomputable def lrKeys : Stmt := lrStmt 7
theorem run_keys {w : World} {p : Program} {loose : List Str} {mean : ExcName → Option Value} {mg mb : Str → Option Value} {dp un : Nat} {gd : Option (List Code)} {cn : Str} {cs : Scope} {a : Addr} {ccd : Value} {cl : List (Str × Addr)} {outer : List Env} {base h₀ : Heap} {L L' : Addr} {m0 : Str → Option Value} {s : Shared} {Q : Flow → Shared → Prop} {E : Value → Shared → Prop} {oc tb wy nm : Addr} {o1 o2 o3 o4 otb : Obj} {us zs : List Value} {ns : List Int} {TL lam : Led} {kvs : List (Str × Value)} {n : Nat} {tabs : Str → List (Str × Str)} {v3 v4 : Option Value} {c0 c1 c2 c3 c4 c5 c6 c7 c8 : Int} {t0 t1 t2 t3 t4 t5 t6 t7 t8 : Tok}
    (B : Below (ktrTop dp un gd cn cs L a ccd cl outer) base (envX cn cs L a ccd cl :: outer) h₀) (X : (hd.heap_39 w.params).In h₀) (T : Top p loose mean mg mb h₀) (hk : cs.kind = .function) (hdp : dp + 80 < recursionLimit) (hun : un + 1600 < cLine) (C : CodeHd h₀ 327 323)
    (ho : h₀.get? oc = some { cls := .type "list", data := .seq #[.int c0 t0, .int c1 t1, .int c2 t2, .int c3 t3, .int c4 t4, .int c5 t5, .int c6 t6, .int c7 t7, .int c8 t8] n })
    (F : Fr h₀ L' s.heap m0) (hmw : m0 "ways" = some (.ref wy)) (hmn : m0 "numbers" = some (.ref nm)) (N : News h₀ L' s.heap ((L' + 1 + 1 + 1, o3) :: (L' + 1 + 1 + 1 + 1, o4) :: (wy, LCg.lst zs) :: (nm, LCg.lst us) :: (L' + 1 + 1, o2) :: (L' + 1, o1) :: (tb, otb) :: (TL ++ lam)))
    (hus : IntsAre us ns) (hns : ns.length = 5) (hb : ∀ x ∈ ns, 0 ≤ x ∧ x < 65536) (hzs : Strs zs (ns.map wayOf)) (hnd : (ns.map wayOf).Nodup) (ho1 : o1.data = Data.cell (some (.ref oc))) (ho2 : o2.data = Data.cell (some (.ref tb))) (ho3 : o3.data = Data.cell v3) (ho4 : o4.data = Data.cell v4)
    (h3 : ∀ p ∈ (L' + 1 + 1 + 1 + 1, o4) :: (wy, LCg.lst zs) :: (nm, LCg.lst us) :: (L' + 1 + 1, o2) :: (L' + 1, o1) :: (tb, otb) :: (TL ++ lam), p.1 ≠ L' + 1 + 1 + 1) (h4 : ∀ p ∈ (wy, LCg.lst zs) :: (nm, LCg.lst us) :: (L' + 1 + 1, o2) :: (L' + 1, o1) :: (tb, otb) :: (TL ++ lam), p.1 ≠ L' + 1 + 1 + 1 + 1)
    (hlam : LamLed lam) (hap : ∀ p ∈ lam, ∀ q ∈ (L' + 1 + 1 + 1, o3) :: (L' + 1 + 1 + 1 + 1, o4) :: (wy, LCg.lst zs) :: (nm, LCg.lst us) :: (L' + 1 + 1, o2) :: (L' + 1, o1) :: (tb, otb) :: TL, p.1 ≠ q.1)
    (hF : ∀ key : Int, 0 ≤ key → key < 65536 → ∃ best, (∀ h fa ofa kvf, News h₀ L' h ((tb, otb) :: (fa, ofa) :: TL) → ofa.IsDictOf (PySem.strKind PySem.Challenge.pw_rt0090_01 w) kvf → KVR kvf (farD key ns) → L' < fa → FoundOk w h tb fa kvs (farD key ns) (ns.map wayOf) tabs best) ∧ (∀ x ∈ ns.map wayOf, goF (farD key ns) tabs x 4 = best))
    (hret : ∀ h' tk m' lam', LamLed lam' → Fr h₀ L' h' m' → News h₀ L' h' lam' → Q .next { s with heap := h', toks := tk })
    (hE : PassesOwn (model PySem.Challenge.pw_rt0090_01 w) ((ktrTop dp un gd cn cs L a ccd cl outer).deeper (envOfC "_law_run" lrScope L' 333 (.ref 332))) (envOfC "_law_run" lrScope L' 333 (.ref 332)) E) :
    wpAny (model PySem.Challenge.pw_rt0090_01 w) ((ktrTop dp un gd cn cs L a ccd cl outer).deeper (envOfC "_law_run" lrScope L' 333 (.ref 332))) (exec lrKeys (envOfC "_law_run" lrScope L' 333 (.ref 332))) Q E s := by
  revert tabs B X T hk hdp hun C ho F hmw hmn N hus hns hb hzs hnd ho1 ho2 ho3 ho4 h3 h4 hlam hap hF hret hE
  revert w p loose mean mg mb dp un gd cn cs a ccd cl outer base h₀ L L' m0 s Q E oc tb wy nm o1 o2 o3 o4 otb us zs ns TL lam kvs n v3 v4 c0 c1 c2 c3 c4 c5 c6 c7 c8 t0 t1 t2 t3 t4 t5 t6 t7 t8
  refine' no_implicit_lambda% (Mine.hk59 ?ne ?_)
  case ne => (repeat' (first | (refine Mine.nePair ?_ ?_) | exact Mine.neWorld | exact Mine.neAround | exact Mine.neShared | infer_instance))
  generalize Mine.A1 _ = w; generalize Mine.A2 _ = p; generalize Mine.A3 _ = loose; generalize Mine.A4 _ = mean; generalize Mine.A5 _ = mg; generalize Mine.A6 _ = mb; generalize Mine.A7 _ = dp; generalize Mine.A8 _ = un; generalize Mine.A9 _ = gd; generalize Mine.A10 _ = cn; generalize Mine.A11 _ = cs; generalize Mine.A12 _ = a; generalize Mine.A13 _ = ccd; generalize Mine.A14 _ = cl; generalize Mine.A15 _ = outer; generalize Mine.A16 _ = base; generalize Mine.A17 _ = h₀; generalize Mine.A18 _ = L; generalize Mine.A19 _ = L'; generalize Mine.A20 _ = m0; generalize Mine.A21 _ = s; generalize Mine.A22 _ = Q; generalize Mine.A23 _ = E; generalize Mine.A24 _ = oc; generalize Mine.A25 _ = tb; generalize Mine.A26 _ = wy; generalize Mine.A27 _ = nm; generalize Mine.A28 _ = o1; generalize Mine.A29 _ = o2; generalize Mine.A30 _ = o3; generalize Mine.A31 _ = o4; generalize Mine.A32 _ = otb; generalize Mine.A33 _ = us; generalize Mine.A34 _ = zs; generalize Mine.A35 _ = ns; generalize Mine.A36 _ = TL; generalize Mine.A37 _ = lam; generalize Mine.A38 _ = kvs; generalize Mine.A39 _ = n; generalize Mine.A40 _ = v3; generalize Mine.A41 _ = v4; generalize Mine.A42 _ = c0; generalize Mine.A43 _ = c1; generalize Mine.A44 _ = c2; generalize Mine.A45 _ = c3; generalize Mine.A46 _ = c4; generalize Mine.A47 _ = c5; generalize Mine.A48 _ = c6; generalize Mine.A49 _ = c7; generalize Mine.A50 _ = c8; generalize Mine.A51 _ = t0; generalize Mine.A52 _ = t1; generalize Mine.A53 _ = t2; generalize Mine.A54 _ = t3; generalize Mine.A55 _ = t4; generalize Mine.A56 _ = t5; generalize Mine.A57 _ = t6; generalize Mine.A58 _ = t7; generalize Mine.A59 _ = t8
  intro uHk
  clear uHk
  intro tabs B X T hk hdp hun C ho F hmw hmn N hus hns hb hzs hnd ho1 ho2 ho3 ho4 h3 h4 hlam hap hF hret hE
  revert hE
  conv in (occs := *) lrScope => all_goals whnf
  conv in lrKeys => whnf
  intro hE
  (refine (let Akₘ : PySem.Around := _; (?_ : wpAny _ Akₘ _ _ _ _)))
  (refine PySem.wpAny_For ?_ (by first | (intro _; rfl) | (intro xₘ; rfl)))
  (repeat' (first | ((with_reducible show @ite Prop _ _ _ _); walk1) | (k_unfold; (try dsimp only)) | ((fail_if_success (with_reducible (refine Mine.stp 9 ?_ ?_; (focus ((repeat' constructor); done))))); (first | (k_end; wrow_close) | walk1 | (dsimp only; walk1))) | ((fail_if_success (with_reducible show wpAny _ _ _ _ _ _)); dsimp only [Mine.MyPost]) | (leave1; try dsimp only) | fail "no step"))
  ((with_reducible rename News _ _ _ _ => Nz); (with_reducible rename Fr _ _ _ _ => Fz))
  refine item_at (vs := [.int c0 t0, .int c1 t1, .int c2 t2, .int c3 t3, .int c4 t4, .int c5 t5, .int c6 t6, .int c7 t7, .int c8 t8]) (k := 7) ⟨_, Fz.keep _ _ ho, rfl, n, rfl⟩ rfl (by simp) ?_
  (repeat' (first | ((with_reducible show @ite Prop _ _ _ _); walk1) | (k_unfold; (try dsimp only)) | ((fail_if_success (with_reducible (refine Mine.stp 9 ?_ ?_; (focus ((repeat' constructor); done))))); (first | (k_end; wrow_close) | walk1 | (dsimp only; walk1))) | ((fail_if_success (with_reducible show wpAny _ _ _ _ _ _)); dsimp only [Mine.MyPost]) | (leave1; try dsimp only) | fail "no step"))
  try dsimp only
  ((with_reducible rename News _ _ _ _ => Nz); (with_reducible rename Fr _ _ _ _ => Fz))
  refine item_at (vs := [.int c0 t0, .int c1 t1, .int c2 t2, .int c3 t3, .int c4 t4, .int c5 t5, .int c6 t6, .int c7 t7, .int c8 t8]) (k := 8) ⟨_, Fz.keep _ _ ho, rfl, n, rfl⟩ rfl (by simp) ?_
  (repeat' (first | ((with_reducible show @ite Prop _ _ _ _); walk1) | (k_unfold; (try dsimp only)) | ((fail_if_success (with_reducible (refine Mine.stp 9 ?_ ?_; (focus ((repeat' constructor); done))))); (first | (k_end; wrow_close) | walk1 | (dsimp only; walk1))) | ((fail_if_success (with_reducible show wpAny _ _ _ _ _ _)); dsimp only [Mine.MyPost]) | (leave1; try dsimp only) | fail "no step"))
  ((with_reducible rename News _ _ _ _ => Nz); (with_reducible rename Fr _ _ _ _ => Fz))
  have Nz' := Nz
  refine with_hdL Nz fun D eD => ?_
  rw [← eD] at Nz'
  rename _ ∧ _ => l1
  rw [← eD] at l1
  rw [← eD]
  clear Nz
  refine with_map Fz fun m1 em => ?_
  subst em
  have hb7 : 0 ≤ c7.fmod 65536 ∧ c7.fmod 65536 < 65536 := by rw [Int.fmod_eq_emod_of_nonneg _ (by decide)]; lia
  have hb8 : 0 ≤ c8.fmod 65536 ∧ c8.fmod 65536 < 65536 := by rw [Int.fmod_eq_emod_of_nonneg _ (by decide)]; lia
  refine iter_tupleL (l := D) (vs := [.int (c7.fmod 65536) _, .int (c8.fmod 65536) _]) (n := 0) (news := (L' + 1 + 1 + 1, o3) :: (L' + 1 + 1 + 1 + 1, o4) :: (wy, LCg.lst zs) :: (nm, LCg.lst us) :: (L' + 1 + 1, o2) :: (L' + 1, o1) :: (tb, otb) :: (TL ++ lam))
    (fun i m news => m = m1 ∧ ∃ o3 o4 v3 v4 lam, news = (L' + 1 + 1 + 1, o3) :: (L' + 1 + 1 + 1 + 1, o4) :: (wy, LCg.lst zs) :: (nm, LCg.lst us) :: (L' + 1 + 1, o2) :: (L' + 1, o1) :: (tb, otb) :: (TL ++ lam) ∧ o3.data = Data.cell v3 ∧ o4.data = Data.cell v4 ∧ LamLed lam ∧ (∀ p ∈ lam, ∀ q ∈ (L' + 1 + 1 + 1, o3) :: (L' + 1 + 1 + 1 + 1, o4) :: (wy, LCg.lst zs) :: (nm, LCg.lst us) :: (L' + 1 + 1, o2) :: (L' + 1, o1) :: (tb, otb) :: TL, p.1 ≠ q.1))
    rfl Fz Nz' ?_ ?_ ?_ ?_
  · intro p hp e
    exact Nat.ne_of_lt (allLt_mem (show AllLt D ((L' + 1 + 1 + 1, o3) :: (L' + 1 + 1 + 1 + 1, o4) :: (wy, LCg.lst zs) :: (nm, LCg.lst us) :: (L' + 1 + 1, o2) :: (L' + 1, o1) :: (tb, otb) :: (TL ++ lam)) from l1) p hp) e
  · exact ⟨rfl, o3, o4, v3, v4, lam, rfl, ho3, ho4, hlam, hap⟩
  · intro i v m₁ news₁ h₁ tk₁ I oI hv hJ58 hoff F2 N2
    (refine (let Gk : Prop := _; (?_ : Gk)))
    obtain ⟨rfl, o3', o4', v3', v4', lam', rfl, ho3', ho4', hlam', hap'⟩ := hJ58
    clear Fz Nz' hret
    obtain ⟨kv, tkv, rfl, hkv⟩ : ∃ kv tkv, v = .int kv tkv ∧ 0 ≤ kv ∧ kv < 65536 := by
      rcases i with _ | _ | i
      · cases hv; exact ⟨_, _, rfl, hb7⟩
      · cases hv; exact ⟨_, _, rfl, hb8⟩
      · rw [List.getElem?_eq_none (by simp)] at hv; cases hv
    ((show Gk); k_unfold; clear Gk)
    refine with_o2 N2 fun oD eoD => ?_
    rw [← eoD] at N2 ⊢
    (try dsimp only [envOf] at F2 N2)
    (show wpAny _ _ _ _ _ _)
    k_fold
    have g3 := N2 (L' + 1 + 1 + 1, o3') (.tail _ (.tail _ (.head _)))
    refine wpAny_assign_Name (wpAny_storeName_cell (by rfl) (by rfl) (c := L' + 1 + 1 + 1) (by rfl) ⟨o3', g3.1, ho3'⟩ (fun h6 hc6 hs6 => ?_))
    try dsimp only
    k_unfold
    try dsimp only
    (refine (let Gk : Prop := _; (?_ : Gk)))
    obtain ⟨o3n, e3n, hd3n⟩ := hc6
    have F6 := F2.change hs6 g3.2.1 g3.2.2
    have hapL : ∀ p ∈ lam', p.1 ≠ L' + 1 + 1 + 1 ∧ p.1 ≠ L' + 1 + 1 + 1 + 1 := fun p hp => ⟨hap' p hp _ (.head _), hap' p hp _ (.tail _ (.head _))⟩
    have hoI := (hoff (L' + 1 + 1 + 1, o3') (.head _))
    have hoI4 := (hoff (L' + 1 + 1 + 1 + 1, o4') (.tail _ (.head _)))
    have h3' : ∀ p ∈ (L' + 1 + 1 + 1 + 1, o4') :: (wy, LCg.lst zs) :: (nm, LCg.lst us) :: (L' + 1 + 1, o2) :: (L' + 1, o1) :: (tb, otb) :: (TL ++ lam'), p.1 ≠ L' + 1 + 1 + 1 := by
      intro p hp
      simp only [List.mem_cons, List.mem_append] at hp
      rcases hp with hp | hp | hp | hp | hp | hp | hp | hp
      · rw [hp]; exact h3 (L' + 1 + 1 + 1 + 1, o4) (.head _)
      · exact h3 p (by simp [hp])
      · exact h3 p (by simp [hp])
      · exact h3 p (by simp [hp])
      · exact h3 p (by simp [hp])
      · exact h3 p (by simp [hp])
      · exact h3 p (by simp [hp])
      · exact (hapL p hp).1
    have N6 : News h₀ L' h6 ((L' + 1 + 1 + 1, o3n) :: (I, oI) :: (D, oD) :: (L' + 1 + 1 + 1 + 1, o4') :: (wy, LCg.lst zs) :: (nm, LCg.lst us) :: (L' + 1 + 1, o2) :: (L' + 1, o1) :: (tb, otb) :: (TL ++ lam')) := fun p hp => by
      rcases List.mem_cons.mp hp with rfl | hp
      · exact ⟨e3n, g3.2⟩
      rcases List.mem_cons.mp hp with rfl | hp
      · exact ⟨hs6.extBut _ _ (Ne.symm hoI.1) (N2 _ (.head _)).1, (N2 _ (.head _)).2⟩
      rcases List.mem_cons.mp hp with rfl | hp
      · exact ⟨hs6.extBut _ _ (Ne.symm hoI.2) (N2 _ (.tail _ (.head _))).1, (N2 _ (.tail _ (.head _))).2⟩
      have z := N2 p (.tail _ (.tail _ (.tail _ hp)))
      exact ⟨hs6.extBut _ _ (h3' p hp) z.1, z.2⟩
    clear F2 N2
    have F7 := fr_mapR F6 (with_m2 (a := "ways") (b := "numbers") hmw hmn)
    clear F6
    ((show Gk); k_unfold; clear Gk)
    refine wpAny_execs_cons (run_far (by assumption) (by assumption) (by assumption) (by first | exact rfl | assumption) (by k_room) (by k_units) F7 (news_sub (news' := (L' + 1 + 1 + 1 + 1, o4') :: (wy, LCg.lst zs) :: (nm, LCg.lst us) :: (L' + 1 + 1 + 1, o3n) :: (I, oI) :: (D, oD) :: (L' + 1 + 1, o2) :: (L' + 1, o1) :: (tb, otb) :: (TL ++ lam')) N6 (by (intro pₘ hpₘ; (repeat (rcases List.mem_cons.mp hpₘ with hqₘ | hpₘ; (focus (rw [hqₘ]; k_mem)))); (repeat (first | exact hpₘ | apply List.mem_cons_of_mem))))) hus hns hb hzs hnd hd3n ho4' hkv ?_ (fun fa od kvf o4n h8 tk8 hd8 hkv8 hd4n F8 N8 hLf hne8 => ?_) (by passes_own))
    · intro p hp
      simp only [List.mem_cons, List.mem_append] at hp
      rcases hp with hp | hp | hp | hp | hp | hp | hp | hp | hp | hp
      · exact h4 p (by simp [hp])
      · exact h4 p (by simp [hp])
      · rw [hp]; exact Ne.symm (h3' (L' + 1 + 1 + 1 + 1, o4') (.head _))
      · rw [hp]; exact Ne.symm hoI4.1
      · rw [hp]; exact Ne.symm hoI4.2
      · exact h4 p (by simp [hp])
      · exact h4 p (by simp [hp])
      · exact h4 p (by simp [hp])
      · exact h4 p (by simp [hp])
      · exact (hapL p hp).2
    clear F7 N6
    try dsimp only
    (refine (let Gk : Prop := _; (?_ : Gk)))
    obtain ⟨best, hFB, hend⟩ := hF kv hkv.1 hkv.2
    have hap8 : ∀ p ∈ lam', ∀ q ∈ (wy, LCg.lst zs) :: (L' + 1 + 1, o2) :: (L' + 1 + 1 + 1 + 1, o4n) :: (tb, otb) :: (fa, od) :: (TL ++ ((nm, LCg.lst us) :: (L' + 1 + 1 + 1, o3n) :: (L' + 1, o1) :: (I, oI) :: [(D, oD)])), p.1 ≠ q.1 := by
      intro p hp q hq
      simp only [List.mem_cons, List.mem_append, List.not_mem_nil, or_false] at hq
      have hI := hoff p (by simp [hp])
      rcases hq with hq | hq | hq | hq | hq | hq | hq | hq | hq | hq | hq
      · exact hap' p hp q (by simp [hq])
      · exact hap' p hp q (by simp [hq])
      · rw [hq]; exact (hapL p hp).2
      · exact hap' p hp q (by simp [hq])
      · rw [hq]; exact hne8 p (by simp [hp])
      · exact hap' p hp q (by simp [hq])
      · exact hap' p hp q (by simp [hq])
      · rw [hq]; exact (hapL p hp).1
      · exact hap' p hp q (by simp [hq])
      · rw [hq]; exact hI.1
      · rw [hq]; exact hI.2
    ((show Gk); k_unfold; clear Gk)
    refine wpAny_execs_cons (run_ask (rest := (nm, LCg.lst us) :: (L' + 1 + 1 + 1, o3n) :: (L' + 1, o1) :: (I, oI) :: [(D, oD)]) (by assumption) (by assumption) (by assumption) (by first | exact rfl | assumption) (by k_room) (by k_units) C F8 (news_sub N8 ?_) hzs (by simp [hns]) ho2 hd4n hlam' hap8 (fun h Nh => hFB h fa od kvf Nh hd8 hkv8 hLf) hend (fun x hx => ?_) (fun h9 tk9 lam9 hlam9 F9 N9 hap9 => ?_) (by passes_own))
    · intro p hp
      simp only [List.mem_cons, List.mem_append, List.not_mem_nil, or_false] at hp ⊢
      rcases hp with (hp | hp | hp | hp | hp | hp | hp | hp | hp | hp | hp) | hp <;> simp [hp]
    · (refine (let Gk : Prop := _; (?_ : Gk)))
      obtain ⟨y, hy, rfl⟩ := List.mem_map.mp hx
      ((show Gk); k_unfold; clear Gk)
      unfold wayOf
      rw [path_len]
      simp [digs]
    clear F8 N8
    refine wpAny_execs_nil ?_
    have F10 := fr_mapR F9 (with_m2 (a := "ways") (b := "numbers") hmw hmn).symm
    refine MyEnd.intro (news' := (L' + 1 + 1 + 1, o3n) :: (L' + 1 + 1 + 1 + 1, o4n) :: (wy, LCg.lst zs) :: (nm, LCg.lst us) :: (L' + 1 + 1, o2) :: (L' + 1, o1) :: (tb, otb) :: (TL ++ lam9)) F10 N9 ⟨rfl, o3n, o4n, _, _, lam9, rfl, hd3n, hd4n, hlam9, ?_⟩ ?_ ?_ ?_
    · intro p hp q hq
      simp only [List.mem_cons] at hq
      rcases hq with hq | hq | hq | hq | hq | hq | hq | hq <;> exact hap9 p hp q (by simp [hq])
    · intro p hp
      rcases List.mem_cons.mp hp with hp | hp
      · simp [hp]
      · simp [List.mem_singleton.mp hp]
    · intro p hp
      simp only [List.mem_cons, List.mem_append, List.not_mem_nil, or_false, List.cons_append] at hp ⊢
      rcases hp with hp | hp | hp | hp | hp | hp | hp | hp | hp <;> simp [hp]
    · intro p hp q hq
      have key : p.1 ≠ I ∧ p.1 ≠ D := by
        simp only [List.mem_cons, List.mem_append] at hp
        rcases hp with hp | hp | hp | hp | hp | hp | hp | hp | hp
        · rw [hp]; exact hoI
        · rw [hp]; exact hoI4
        · exact hoff p (by simp [hp])
        · exact hoff p (by simp [hp])
        · exact hoff p (by simp [hp])
        · exact hoff p (by simp [hp])
        · exact hoff p (by simp [hp])
        · exact hoff p (by simp [hp])
        · exact ⟨hap9 p hp (I, oI) (by simp), hap9 p hp (D, oD) (by simp)⟩
      rcases List.mem_cons.mp hq with hq | hq
      · rw [hq]; exact key.1
      · rw [List.mem_singleton.mp hq]; exact key.2
  · intro m₁ news₁ h tk hJ59 F2 N2
    (refine (let Gk : Prop := _; (?_ : Gk)))
    obtain ⟨rfl, o3', o4', v3', v4', lam', rfl, ho3', ho4', hlam', hap'⟩ := hJ59
    ((show Gk); k_unfold; clear Gk)
    exact hret _ _ _ lam' hlam' F2 (news_sub N2 (fun p hp => by simp [hp]))
end Mine
namespace Mine
open PySem PySem.W PySem.Calls PyProof.Rows
theorem numF_val (c5 t : Int) : numF c5 t = (t / 1 % 3 * 5 + c5 / 1 % 6) * 1 + (t / 3 % 3 * 5 + c5 / 6 % 6) * 16 + (t / 9 % 3 * 5 + c5 / 36 % 6) * 256 + (t / 27 % 3 * 5 + c5 / 216 % 6) * 4096 := by
  unfold numF
  rw [show List.range 4 = [0, 1, 2, 3] from rfl]
  simp only [List.map_cons, List.map_nil, List.sum_cons, List.sum_nil, numT]
  rw [show (3 : Int) ^ 0 = 1 from rfl, show (3 : Int) ^ 1 = 3 from rfl, show (3 : Int) ^ 2 = 9 from rfl, show (3 : Int) ^ 3 = 27 from rfl, show (6 : Int) ^ 0 = 1 from rfl, show (6 : Int) ^ 1 = 6 from rfl, show (6 : Int) ^ 2 = 36 from rfl, show (6 : Int) ^ 3 = 216 from rfl, show (16 : Int) ^ 0 = 1 from rfl, show (16 : Int) ^ 1 = 16 from rfl, show (16 : Int) ^ 2 = 256 from rfl, show (16 : Int) ^ 3 = 4096 from rfl]
  lia
theorem step16 {a b A B : Int} (h : a + 16 * A = b + 16 * B) (ha : 0 ≤ a ∧ a < 3) (hb : 0 ≤ b ∧ b < 3) : a = b ∧ A = B := by lia
theorem lin5 {p0 p1 p2 p3 q0 q1 q2 q3 a0 a1 a2 a3 : Int} (h : (p0 * 5 + a0) * 1 + (p1 * 5 + a1) * 16 + (p2 * 5 + a2) * 256 + (p3 * 5 + a3) * 4096 = (q0 * 5 + a0) * 1 + (q1 * 5 + a1) * 16 + (q2 * 5 + a2) * 256 + (q3 * 5 + a3) * 4096) : p0 + 16 * (p1 + 16 * (p2 + 16 * p3)) = q0 + 16 * (q1 + 16 * (q2 + 16 * q3)) := by lia
theorem lin_inj {p0 p1 p2 p3 q0 q1 q2 q3 a0 a1 a2 a3 : Int} (h : (p0 * 5 + a0) * 1 + (p1 * 5 + a1) * 16 + (p2 * 5 + a2) * 256 + (p3 * 5 + a3) * 4096 = (q0 * 5 + a0) * 1 + (q1 * 5 + a1) * 16 + (q2 * 5 + a2) * 256 + (q3 * 5 + a3) * 4096)
    (hp : (0 ≤ p0 ∧ p0 < 3) ∧ (0 ≤ p1 ∧ p1 < 3) ∧ (0 ≤ p2 ∧ p2 < 3)) (hq : (0 ≤ q0 ∧ q0 < 3) ∧ (0 ≤ q1 ∧ q1 < 3) ∧ (0 ≤ q2 ∧ q2 < 3)) : p0 = q0 ∧ p1 = q1 ∧ p2 = q2 ∧ p3 = q3 := by
  obtain ⟨e0, h⟩ := step16 (lin5 h) hp.1 hq.1
  obtain ⟨e1, h⟩ := step16 h hp.2.1 hq.2.1
  obtain ⟨e2, h⟩ := step16 h hp.2.2 hq.2.2
  exact ⟨e0, e1, e2, h⟩
theorem rng3 (z : Int) : 0 ≤ z % 3 ∧ z % 3 < 3 := ⟨Int.emod_nonneg _ (by decide), Int.emod_lt_of_pos _ (by decide)⟩
theorem dig3 {x : Int} (hx : 0 ≤ x ∧ x < 81) : x = x / 1 % 3 + 3 * (x / 3 % 3) + 9 * (x / 9 % 3) + 27 * (x / 27 % 3) := by lia
theorem numF_inj {c5 x y : Int} (hx : 0 ≤ x ∧ x < 81) (hy : 0 ≤ y ∧ y < 81) (h : numF c5 x = numF c5 y) : x = y := by
  rw [numF_val, numF_val] at h
  (refine (let Gk : Prop := _; (?_ : Gk)))
  obtain ⟨e0, e1, e2, e3⟩ := lin_inj h ⟨rng3 _, rng3 _, rng3 _⟩ ⟨rng3 _, rng3 _, rng3 _⟩
  ((show Gk); k_unfold; clear Gk)
  rw [dig3 hx, dig3 hy, e0, e1, e2, e3]
theorem dm16 (a b : Nat) : (a = b) = (a / 16 = b / 16 ∧ a % 16 = b % 16) := propext ⟨fun h => h ▸ ⟨rfl, rfl⟩, fun ⟨h1, h2⟩ => by rw [← Nat.div_add_mod a 16, ← Nat.div_add_mod b 16, h1, h2]⟩
theorem top16 {m : Nat} (hm : m < 65536) : m / 4096 % 16 = m / 4096 := Nat.mod_eq_of_lt (Nat.div_lt_of_lt_mul hm)
theorem digs_inj {m n : Nat} (hm : m < 65536) (hn : n < 65536) (h : digs m = digs n) : m = n := by
  have e2 (m : Nat) : m / 256 / 16 = m / 4096 := Nat.div_div_eq_div_mul _ _ _
  have e3 (m : Nat) : m / 16 / 16 = m / 256 := Nat.div_div_eq_div_mul _ _ _
  unfold digs at h
  rw [top16 hm, top16 hn] at h
  simp only [List.cons.injEq, and_true] at h
  rw [dm16 m, dm16 (m / 16), e3, e3, dm16 (m / 256), e2, e2]
  exact ⟨⟨⟨h.1, h.2.1⟩, h.2.2.1⟩, h.2.2.2⟩
theorem way_inj {x y : Int} (hx : 0 ≤ x ∧ x < 65536) (hy : 0 ≤ y ∧ y < 65536) (h : wayOf x = wayOf y) : x = y := by
  have := path_inj (digs_lt _) (digs_lt _) h
  have := digs_inj (m := x.toNat) (n := y.toNat) (by lia) (by lia) this
  lia
theorem nodup_map_on {α β : Type} {f : α → β} {l : List α} (hf : ∀ x ∈ l, ∀ y ∈ l, f x = f y → x = y) (hn : l.Nodup) : (l.map f).Nodup := by
  induction l with
  | nil => exact .nil
  | cons a r ih =>
    have hn' := List.nodup_cons.mp hn
    rw [List.map_cons, List.nodup_cons]
    refine ⟨fun hm => ?_, ih (fun x hx y hy => hf x (.tail _ hx) y (.tail _ hy)) hn'.2⟩
    (refine (let Gk : Prop := _; (?_ : Gk)))
    obtain ⟨y, hy, e⟩ := List.mem_map.mp hm
    ((show Gk); k_unfold; clear Gk)
    exact hn'.1 (hf y (.tail _ hy) a (.head _) e ▸ hy)
theorem rng_dig (z u : Int) : 0 ≤ z % 3 * 5 + u % 6 ∧ z % 3 * 5 + u % 6 < 16 := by
  have := Int.emod_nonneg z (show (3 : Int) ≠ 0 by decide)
  have := Int.emod_lt_of_pos z (show (0 : Int) < 3 by decide)
  have := Int.emod_nonneg u (show (6 : Int) ≠ 0 by decide)
  have := Int.emod_lt_of_pos u (show (0 : Int) < 6 by decide)
  lia
theorem rng_num {a b c d : Int} (ha : 0 ≤ a ∧ a < 16) (hb : 0 ≤ b ∧ b < 16) (hc : 0 ≤ c ∧ c < 16) (hd : 0 ≤ d ∧ d < 16) : 0 ≤ a * 1 + b * 16 + c * 256 + d * 4096 ∧ a * 1 + b * 16 + c * 256 + d * 4096 < 65536 := by lia
theorem nums_ok {ts : List Int} {c5 : Int} (h5 : 0 ≤ c5) (hl : ts.length = 5) (hn : ts.Nodup) (hb : ∀ x ∈ ts, 0 ≤ x ∧ x < 81) : (∀ x ∈ ts.map (numF c5), 0 ≤ x ∧ x < 65536) ∧ ((ts.map (numF c5)).map wayOf).Nodup := by
  have h1 : ∀ x ∈ ts.map (numF c5), 0 ≤ x ∧ x < 65536 := by
    intro x hx
    (refine (let Gk : Prop := _; (?_ : Gk)))
    obtain ⟨t, ht, rfl⟩ := List.mem_map.mp hx
    ((show Gk); k_unfold; clear Gk)
    rw [numF_val]
    exact rng_num (rng_dig _ _) (rng_dig _ _) (rng_dig _ _) (rng_dig _ _)
  refine ⟨h1, nodup_map_on (fun x hx y hy e => way_inj (h1 x hx) (h1 y hy) e) (nodup_map_on (fun x hx y hy e => numF_inj (hb x hx) (hb y hy) e) hn)⟩
end Mine
namespace Mine
open PySem PySem.W PySem.Calls PyProof.Rows
noncomputable def firstF (f : Str → Str) (ws : List Str) (way : Str) : Option Str := ws.find? fun z => decide (f z = f way)
theorem getD_first (f : Str → Str) (ws : List Str) (way d : Str) (h : way ∈ ws) : ws.getD ((ws.map f).idxOf (f way)) d = (ws.find? fun z => decide (f z = f way)).getD d := by
  induction ws with
  | nil => nomatch h
  | cons a r ih =>
    rw [List.map_cons, List.idxOf_cons, List.find?_cons]
    by_cases e : f a = f way
    · simp [e]
    · have hr : way ∈ r := by
        rcases List.mem_cons.mp h with q | q
        · exact absurd (by rw [q]) e
        · exact q
      have e' : (f a == f way) = false := beq_eq_false_iff_ne.mpr e
      rw [e', decide_eq_false e]
      simpa using ih hr
theorem lookF_append {items : List (Str × Str)} {k v nm : Str} : lookF (items ++ [(k, v)]) nm = match lookF items nm with | some z => some z | none => if Txt.lower k = Txt.lower nm then some v else none := by
  unfold lookF
  rw [List.find?_append]
  cases items.find? fun kv => Txt.lower kv.1 == Txt.lower nm with
  | some p => rfl
  | none =>
    by_cases h : Txt.lower k = Txt.lower nm
    · simp [h]
    · simp [h]
structure DueOk (cp : Str → Str) (mine : Str) (ws : List Str) : Prop where
  nd : ws.Nodup
  up : ∀ way ∈ ws, way ≠ mine → (upF (cp way) way 3).1 = besideF mine way
  own : ∀ way ∈ ws, way ≠ mine → besideF mine mine ≠ besideF mine way
  low : ∀ x ∈ ws, ∀ y ∈ ws, Txt.lower (besideF mine x) = Txt.lower (besideF mine y) → besideF mine x = besideF mine y
  idem : ∀ x ∈ ws, Txt.lower (Txt.lower (besideF mine x)) = Txt.lower (besideF mine x)
noncomputable def firstB (mine : Str) (ws : List Str) (i : Nat) (way : Str) : Option Str := (ws.take i).find? fun z => decide (z ≠ mine ∧ besideF mine z = besideF mine way)
theorem firstB_succ {mine : Str} {ws : List Str} {i : Nat} {way0 way : Str} (h : ws[i]? = some way0) : firstB mine ws (i + 1) way = match firstB mine ws i way with | some z => some z | none => if way0 ≠ mine ∧ besideF mine way0 = besideF mine way then some way0 else none := by
  unfold firstB
  rw [List.take_add_one, h, List.find?_append]
  cases (ws.take i).find? fun z => decide (z ≠ mine ∧ besideF mine z = besideF mine way) with
  | some p => rfl
  | none =>
    by_cases q : way0 ≠ mine ∧ besideF mine way0 = besideF mine way
    · simp [q]
    · simp only [Option.none_or, if_neg q, Option.toList_some, List.find?_cons, decide_eq_false q, List.find?_nil]
theorem dueNm_low {cp : Str → Str} {mine : Str} {ws : List Str} (H : DueOk cp mine ws) {way : Str} (h : way ∈ ws) (t : Nat) : Txt.lower (dueNm mine t way) = Txt.lower (besideF mine way) := by
  unfold dueNm
  split
  · rfl
  · exact H.idem way h
theorem tblNm_due {cp : Str → Str} {mine : Str} {ws : List Str} (H : DueOk cp mine ws) {way : Str} (h : way ∈ ws) (hne : way ≠ mine) (t : Nat) : tblNm cp t way = dueNm mine t way := by
  unfold tblNm dueNm
  rw [H.up way h hne]
theorem table_due {cp : Str → Str} {mine : Str} {ws : List Str} (H : DueOk cp mine ws) : ∀ i, i ≤ ws.length → tblAt cp mine ws i = dueAt mine ws i ∧
    ∀ way ∈ ws, way ≠ mine → ∀ nm, Txt.lower nm = Txt.lower (besideF mine way) → lookF (dueAt mine ws i).1 nm = firstB mine ws i way := by
  intro i
  induction i with
  | zero => exact fun _ => ⟨rfl, fun way _ _ nm _ => rfl⟩
  | succ i ih =>
    intro hi
    obtain ⟨ih1, ih2⟩ := ih (Nat.le_of_succ_le hi)
    obtain ⟨way0, h0⟩ : ∃ x, ws[i]? = some x := ⟨_, List.getElem?_eq_getElem hi⟩
    have hm0 := List.mem_of_getElem? h0
    have ht : tblAt cp mine ws (i + 1) = tblStep cp mine (dueAt mine ws i) i way0 := by rw [tblAt, h0, ih1]
    have hd : dueAt mine ws (i + 1) = dueStep mine ws (dueAt mine ws i) i way0 := by rw [dueAt, h0]
    by_cases hne : way0 = mine
    · rw [ht, hd]
      unfold tblStep dueStep
      rw [if_pos hne, if_pos hne]
      refine ⟨rfl, fun way hw hwn nm hnm => ?_⟩
      rw [ih2 way hw hwn nm hnm, firstB_succ h0]
      cases firstB mine ws i way with
      | some z => rfl
      | none => simp [hne]
    · have hz : dueZ mine ws way0 = ((ws.find? fun z => decide (besideF mine z = besideF mine way0)).getD way0) := getD_first (besideF mine) ws way0 way0 hm0
      have hlk := ih2 way0 hm0 hne (tblNm cp i way0) (by rw [tblNm_due H hm0 hne]; exact dueNm_low H hm0 i)
      have hsplit : ws = ws.take i ++ way0 :: ws.drop (i + 1) := by
        have hlt : i < ws.length := hi
        rw [List.getElem?_eq_getElem hlt] at h0
        rw [← Option.some.inj h0]
        conv => lhs; rw [← List.take_append_drop i ws]
        rw [List.drop_eq_getElem_cons hlt]
      have hfind : (ws.find? fun z => decide (besideF mine z = besideF mine way0)) = match firstB mine ws i way0 with | some z => some z | none => some way0 := by
        have hcong : ∀ (l : List Str), (∀ z ∈ l, z ∈ ws) → (l.find? fun z => decide (besideF mine z = besideF mine way0)) = l.find? fun z => decide (z ≠ mine ∧ besideF mine z = besideF mine way0) := by
          intro l hl
          induction l with
          | nil => rfl
          | cons b r ihr =>
            rw [List.find?_cons, List.find?_cons, ihr fun z hz => hl z (.tail _ hz)]
            by_cases e : besideF mine b = besideF mine way0
            · have hb : b ≠ mine := fun q => H.own way0 hm0 hne (by rw [q] at e; exact e)
              rw [decide_eq_true e, decide_eq_true (⟨hb, e⟩ : b ≠ mine ∧ _)]
            · rw [decide_eq_false e, decide_eq_false fun q => e q.2]
        have h1 := hcong (ws.take i) fun z hz => List.mem_of_mem_take hz
        conv => lhs; rw [hsplit]
        rw [List.find?_append, h1]
        show ((firstB mine ws i way0).or _) = _
        cases firstB mine ws i way0 with
        | some z => rfl
        | none => simp
      rw [hfind] at hz
      rw [ht, hd]
      unfold tblStep dueStep
      rw [if_neg hne, if_neg hne, hlk]
      cases hb : firstB mine ws i way0 with
      | some z =>
        rw [hb] at hz
        have hzz : dueZ mine ws way0 = z := hz
        have hzt : z ∈ ws.take i := List.mem_of_find?_eq_some hb
        have hne2 : z ≠ way0 := fun q => by
          have hnd := H.nd
          rw [hsplit, List.nodup_append] at hnd
          exact hnd.2.2 z hzt way0 (.head _) q
        rw [hzz, if_neg hne2]
        refine ⟨rfl, fun way hw hwn nm hnm => ?_⟩
        rw [ih2 way hw hwn nm hnm, firstB_succ h0]
        cases hb2 : firstB mine ws i way with
        | some z => rfl
        | none =>
          have : ¬ (way0 ≠ mine ∧ besideF mine way0 = besideF mine way) := fun q => by
            have e : firstB mine ws i way = firstB mine ws i way0 := by unfold firstB; rw [q.2]
            rw [e, hb] at hb2
            cases hb2
          simp only [if_neg this]
      | none =>
        rw [hb] at hz
        have hzz : dueZ mine ws way0 = way0 := hz
        rw [hzz, if_pos rfl, tblNm_due H hm0 hne]
        refine ⟨rfl, fun way hw hwn nm hnm => ?_⟩
        show lookF ((dueAt mine ws i).1 ++ [(dueNm mine i way0, way0)]) nm = _
        rw [lookF_append, ih2 way hw hwn nm hnm, firstB_succ h0]
        cases firstB mine ws i way with
        | some z => rfl
        | none =>
          rw [dueNm_low H hm0, hnm]
          by_cases e : besideF mine way0 = besideF mine way
          · simp [hne, e]
          · have : ¬ Txt.lower (besideF mine way0) = Txt.lower (besideF mine way) := fun q => e (H.low way0 hm0 way hw q)
            simp [e, this]
end Mine
namespace Mine
open PySem PySem.W PyProof.Rows
theorem xor_cancel {a b k : Nat} (h : (a ^^^ k) = (b ^^^ k)) : a = b := by
  have := congrArg (· ^^^ k) h
  simpa [Nat.xor_assoc] using this
theorem lin_xa {X Y A B u v r t : Nat} (h : X + 2 * Y = A + B) (e : u + 2 * v = r + t) : (2 * X + u) + 2 * (2 * Y + v) = (2 * A + r) + (2 * B + t) := by lia
theorem bit_xa {p q u v : Nat} (hp : p = 0 ∨ p = 1) (hq : q = 0 ∨ q = 1) (hu : u = 0 ∨ u = 1) (hv : v = 0 ∨ v = 1) (x3 : u = 1 ↔ ¬ (p = 1 ↔ q = 1)) (x4 : v = 1 ↔ p = 1 ∧ q = 1) : u + 2 * v = p + q := by
  rcases hp with rfl | rfl <;> rcases hq with rfl | rfl <;> rcases hu with rfl | rfl <;> rcases hv with rfl | rfl <;> first | rfl | (exfalso; simp at x3; done) | (exfalso; simp at x4; done)
theorem xor_add_and (a b : Nat) : (a ^^^ b) + 2 * (a &&& b) = a + b := by
  induction a using Nat.strongRecOn generalizing b with
  | ind a ih =>
    by_cases h : a = 0
    · subst h; simp
    have e := ih (a / 2) (Nat.div_lt_self (Nat.pos_of_ne_zero h) (by decide)) (b / 2)
    rw [← Nat.xor_div_two, ← Nat.and_div_two] at e
    have := lin_xa e (bit_xa (Nat.mod_two_eq_zero_or_one a) (Nat.mod_two_eq_zero_or_one b) (Nat.mod_two_eq_zero_or_one _) (Nat.mod_two_eq_zero_or_one _) (@Nat.xor_mod_two_eq_one a b) (@Nat.and_mod_two_eq_one a b))
    rwa [Nat.div_add_mod, Nat.div_add_mod, Nat.div_add_mod, Nat.div_add_mod] at this
theorem bitXor_nat {x y : Int} (hx : 0 ≤ x) (hy : 0 ≤ y) : Builtin.bitXor x y = ((x.toNat ^^^ y.toNat : Nat) : Int) := by
  rw [bitXor_and]
  unfold Builtin.bitAnd
  rw [decide_eq_true hx, decide_eq_true hy]
  show x + y - 2 * ((x.toNat &&& y.toNat : Nat) : Int) = _
  have := xor_add_and x.toNat y.toNat
  lia
theorem xor_div (a b k : Nat) : (a ^^^ b) / 2 ^ k = (a / 2 ^ k) ^^^ (b / 2 ^ k) := Nat.xor_div_two_pow
theorem xor_block {b z v key K : Nat} (k : Nat) (hK : K = 2 ^ k) (h1 : z / K = b / K) (h2 : v / K ≠ b / K) (h3 : (b ^^^ key) ≤ (v ^^^ key)) : (z ^^^ key) < (v ^^^ key) := by
  subst hK
  have e1 := xor_div b key k
  have e2 := xor_div z key k
  have e3 := xor_div v key k
  rw [h1, ← e1] at e2
  have e4 : (v ^^^ key) / 2 ^ k ≠ (b ^^^ key) / 2 ^ k := fun q => by
    rw [e1, e3] at q
    exact h2 (xor_cancel q)
  have e5 : (b ^^^ key) / 2 ^ k ≤ (v ^^^ key) / 2 ^ k := Nat.div_le_div_right h3
  refine Nat.lt_of_not_le fun q => ?_
  have := Nat.div_le_div_right (c := 2 ^ k) q
  rw [e2] at this
  exact e4 (Nat.le_antisymm this e5)
theorem xor_inj {a b key : Nat} (h : (a ^^^ key) = (b ^^^ key)) : a = b := xor_cancel h
end Mine
namespace Mine
open PySem PySem.W PySem.Calls PyProof.Rows Builtin Builtin.Str
noncomputable def W16 (x : Str) : Prop := ∃ a b c d : Nat, x = path [a, b, c, d] ∧ a < 16 ∧ b < 16 ∧ c < 16 ∧ d < 16
theorem four_lt {a b c d : Nat} (ha : a < 16) (hb : b < 16) (hc : c < 16) (hd : d < 16) : ∀ i ∈ [a, b, c, d], i < 16 := by
  intro i hi
  simp only [List.mem_cons, List.not_mem_nil, or_false] at hi
  lia
theorem way_w16 (x : Int) : W16 (wayOf x) := ⟨_, _, _, _, rfl, by lia, by lia, by lia, by lia⟩
theorem cnt_range (a b c d x y z t : Nat) : 1 ≤ cnt [a, b, c, d] [x, y, z, t] ∧ cnt [a, b, c, d] [x, y, z, t] ≤ 4 := by
  rw [cnt4]
  split
  · split
    · split <;> lia
    · lia
  · lia
theorem beside_iff {a b c d x y z t p q r s : Nat} (h1 : ∀ i ∈ [a, b, c, d], i < 16) (h2 : ∀ i ∈ [x, y, z, t], i < 16) (h3 : ∀ i ∈ [p, q, r, s], i < 16) (hne : [a, b, c, d] ≠ [x, y, z, t]) :
    besideF (path [a, b, c, d]) (path [p, q, r, s]) = besideF (path [a, b, c, d]) (path [x, y, z, t]) ↔ [p, q, r, s].take (cnt [a, b, c, d] [x, y, z, t]) = [x, y, z, t].take (cnt [a, b, c, d] [x, y, z, t]) := by
  revert h1 h2 h3 hne
  revert a b c d x y z t p q r s
  refine' no_implicit_lambda% (Mine.hk12 ?ne ?_)
  case ne => (repeat' (first | (refine Mine.nePair ?_ ?_) | exact Mine.neWorld | exact Mine.neAround | exact Mine.neShared | infer_instance))
  generalize Mine.A1 _ = a; generalize Mine.A2 _ = b; generalize Mine.A3 _ = c; generalize Mine.A4 _ = d; generalize Mine.A5 _ = x; generalize Mine.A6 _ = y; generalize Mine.A7 _ = z; generalize Mine.A8 _ = t; generalize Mine.A9 _ = p; generalize Mine.A10 _ = q; generalize Mine.A11 _ = r; generalize Mine.A12 _ = s
  intro uHk
  clear uHk
  intro h1 h2 h3 hne
  rw [beside_path h1 h3, beside_path h1 h2]
  constructor
  · intro h
    have h' := path_inj (fun i hi => h3 i (List.mem_of_mem_take hi)) (fun i hi => h2 i (List.mem_of_mem_take hi)) h
    have hl := congrArg List.length h'
    have e1 := cnt_range a b c d x y z t
    have e2 := cnt_range a b c d p q r s
    simp only [List.length_take, List.length_cons, List.length_nil] at hl
    have e : cnt [a, b, c, d] [p, q, r, s] = cnt [a, b, c, d] [x, y, z, t] := by lia
    rw [e] at h'
    exact h'
  · intro h
    have e : cnt [a, b, c, d] [p, q, r, s] = cnt [a, b, c, d] [x, y, z, t] := by
      rw [cnt4] at h ⊢
      rw [cnt4]
      by_cases q1 : a = x
      · subst q1
        by_cases q2 : b = y
        · subst q2
          by_cases q3 : c = z
          · subst q3
            simp only [if_true, List.take_succ_cons, List.take_zero, List.cons.injEq, and_true] at h
            (refine (let Gk : Prop := _; (?_ : Gk)))
            obtain ⟨rfl, rfl, rfl, rfl⟩ := h
            ((show Gk); k_unfold; clear Gk)
            simp
          · simp only [if_true, if_neg q3, List.take_succ_cons, List.take_zero, List.cons.injEq, and_true] at h
            (refine (let Gk : Prop := _; (?_ : Gk)))
            obtain ⟨rfl, rfl, rfl⟩ := h
            ((show Gk); k_unfold; clear Gk)
            simp [q3]
        · simp only [if_true, if_neg q2, List.take_succ_cons, List.take_zero, List.cons.injEq, and_true] at h
          obtain ⟨rfl, rfl⟩ := h
          simp [q2]
      · simp only [if_neg q1, List.take_succ_cons, List.take_zero, List.cons.injEq, and_true] at h
        subst h
        simp [q1]
    rw [e, h]
theorem beside_own {a b c d x y z t : Nat} (h1 : ∀ i ∈ [a, b, c, d], i < 16) (h2 : ∀ i ∈ [x, y, z, t], i < 16) (hne : [x, y, z, t] ≠ [a, b, c, d]) : besideF (path [a, b, c, d]) (path [a, b, c, d]) ≠ besideF (path [a, b, c, d]) (path [x, y, z, t]) := by
  rw [beside_path h1 h1, beside_path h1 h2]
  intro h
  have h' := path_inj (fun i hi => h1 i (List.mem_of_mem_take hi)) (fun i hi => h2 i (List.mem_of_mem_take hi)) h
  have e : cnt [a, b, c, d] [a, b, c, d] = 4 := by rw [cnt4]; simp
  rw [e] at h'
  have hl := congrArg List.length h'
  have e1 := cnt_range a b c d x y z t
  simp only [List.length_take, List.length_cons, List.length_nil] at hl
  have e2 : cnt [a, b, c, d] [x, y, z, t] = 4 := by lia
  rw [e2] at h'
  exact hne (by simpa using h'.symm)
theorem good_sg (d : Nat) : goodC (sg d) = true := by
  unfold goodC
  have h1 : (sg d).length = 1 := rfl
  have h2 : (sg d != (".": Str)) = true := by
    refine bne_iff_ne.mpr fun q => ?_
    have := congrArg (fun s : Str => s.cps.toList) q
    rw [show ((Str.ofString ".").cps.toList) = [46] by decide +kernel] at this
    simp only [sg, List.cons.injEq, and_true] at this
    unfold upC at this
    split at this <;> lia
  rw [h1, h2]
  rfl
theorem good_empty : goodC Str.empty = false := by decide +kernel
theorem split_good {a b c d : Nat} (ha : a < 16) (hb : b < 16) (hc : c < 16) (hd : d < 16) : (Txt.split (path [a, b, c, d]) "/").filter goodC = [sg a, sg b, sg c, sg d] := by
  rw [split4 ha hb hc hd]
  show List.filter goodC [Str.empty, sg a, sg b, sg c, sg d] = _
  simp only [List.filter_cons, good_empty, good_sg, if_true, List.filter_nil]
  rfl
theorem join4 (a b c d : Nat) : ("/" : Str) ++ Txt.join "/" [sg a, sg b, sg c, sg d] = path [a, b, c, d] := by
  rw [show ("/" : Str) = ⟨#[47]⟩ from slash_eq]
  show Str.mk (#[47] ++ (#[upC a] ++ #[47] ++ #[upC b] ++ #[47] ++ #[upC c] ++ #[47] ++ #[upC d])) = _
  rfl
theorem len_pre (x y : Str) : (x ++ y).length = x.length + y.length := by
  show (x.cps ++ y.cps).size = _
  rw [Array.size_append]
  rfl
theorem cpok_path {a b c d : Nat} (ha : a < 16) (hb : b < 16) (hc : c < 16) (hd : d < 16) : CpOk (path [a, b, c, d]) (sg a) (sg b) (sg c) (sg d) where
  len := by rw [path_len]; simp
  st := by
    show (_ && subAt (path [a, b, c, d]) "/" 0) = true
    rw [show subAt (path [a, b, c, d]) "/" 0 = true from sub_path _ _]
    rfl
  spl := split_good ha hb hc hd
  nspl := by rw [split4 ha hb hc hd]; simp
  each := by
    intro x hx
    rw [split4 ha hb hc hd] at hx
    simp only [List.mem_cons, List.not_mem_nil, or_false] at hx
    rcases hx with rfl | rfl | rfl | rfl | rfl <;> exact Nat.le_of_ble_eq_true rfl
  l3 := Nat.le_of_ble_eq_true rfl
  l2 := Nat.le_of_ble_eq_true rfl
  l1 := Nat.le_of_ble_eq_true rfl
  l0 := Nat.le_of_ble_eq_true rfl
  j1 := by have := congrArg Str.length (join1 a); rw [len_pre, path_len] at this; simp only [List.length_cons, List.length_nil] at this; lia
  j2 := by have := congrArg Str.length (join2 a b); rw [len_pre, path_len] at this; simp only [List.length_cons, List.length_nil] at this; lia
  j3 := by have := congrArg Str.length (join3 a b c); rw [len_pre, path_len] at this; simp only [List.length_cons, List.length_nil] at this; lia
  j4 := by have := congrArg Str.length (join4 a b c d); rw [len_pre, path_len] at this; simp only [List.length_cons, List.length_nil] at this; lia
noncomputable def cpF (m y : Str) : Str := "/" ++ Txt.join "/" (comPre ((Txt.split m "/").filter goodC) ((Txt.split y "/").filter goodC))
theorem cpF_path {a b c d x y z t : Nat} (ha : a < 16) (hb : b < 16) (hc : c < 16) (hd : d < 16) (hx : x < 16) (hy : y < 16) (hz : z < 16) (ht : t < 16) : cpF (path [a, b, c, d]) (path [x, y, z, t]) = cpD [a, b, c, d] [x, y, z, t] := by
  unfold cpF cpD
  rw [split_good ha hb hc hd, split_good hx hy hz ht]
  rfl
theorem cpD_len {a b c d x y z t : Nat} (ha : a < 16) (hb : b < 16) (hc : c < 16) (hd : d < 16) (hx : x < 16) (hy : y < 16) (hz : z < 16) (ht : t < 16) : (cpD [a, b, c, d] [x, y, z, t]).length ≤ 40 := by
  unfold cpD
  simp only [List.map_cons, List.map_nil]
  by_cases h1 : a = x
  · subst h1
    by_cases h2 : b = y
    · subst h2
      by_cases h3 : c = z
      · subst h3
        by_cases h4 : d = t
        · subst h4
          rw [show comPre [sg a, sg b, sg c, sg d] [sg a, sg b, sg c, sg d] = [sg a, sg b, sg c, sg d] by simp [comPre], join4, path_len]; simp
        · rw [show comPre [sg a, sg b, sg c, sg d] [sg a, sg b, sg c, sg t] = [sg a, sg b, sg c] by simp [comPre, sg_ne hd ht h4], join3, path_len]; simp
      · rw [show comPre [sg a, sg b, sg c, sg d] [sg a, sg b, sg z, sg t] = [sg a, sg b] by simp [comPre, sg_ne hc hz h3], join2, path_len]; simp
    · rw [show comPre [sg a, sg b, sg c, sg d] [sg a, sg y, sg z, sg t] = [sg a] by simp [comPre, sg_ne hb hy h2], join1, path_len]; simp
  · rw [show comPre [sg a, sg b, sg c, sg d] [sg x, sg y, sg z, sg t] = [] by simp [comPre, sg_ne ha hx h1], join0]
    exact Nat.le_of_ble_eq_true rfl
theorem w16_plain {x : Str} (h : W16 x) : Plain x := by
  (refine (let Gk : Prop := _; (?_ : Gk)))
  obtain ⟨a, b, c, d, rfl, ha, hb, hc, hd⟩ := h
  ((show Gk); k_unfold; clear Gk)
  exact path_plain (four_lt ha hb hc hd)
theorem beside_w16 {x y : Str} (h1 : W16 x) (h2 : W16 y) : ∃ ds, besideF x y = path ds ∧ ds.length ≤ 4 ∧ ∀ i ∈ ds, i < 16 := by
  (refine (let Gk : Prop := _; (?_ : Gk)))
  obtain ⟨a, b, c, d, rfl, ha, hb, hc, hd⟩ := h1
  obtain ⟨p, q, r, s, rfl, hp, hq, hr, hs⟩ := h2
  ((show Gk); k_unfold; clear Gk)
  exact ⟨_, beside_path (four_lt ha hb hc hd) (four_lt hp hq hr hs), by rw [List.length_take]; simp only [List.length_cons, List.length_nil]; lia, fun i hi => four_lt hp hq hr hs i (List.mem_of_mem_take hi)⟩
theorem way_beside_plain {x y : Str} (h1 : W16 x) (h2 : W16 y) : Plain (besideF x y) ∧ (besideF x y).length ≤ 8 := by
  (refine (let Gk : Prop := _; (?_ : Gk)))
  obtain ⟨ds, e, h, hp⟩ := beside_w16 h1 h2
  ((show Gk); k_unfold; clear Gk)
  rw [e, path_len]
  exact ⟨path_plain hp, by lia⟩
theorem due_nm {x : Str} {y : Str} (h1 : W16 x) (h2 : W16 y) (t : Nat) : Plain (dueNm x t y) ∧ (dueNm x t y).length ≤ 8 := by
  obtain ⟨p, l⟩ := way_beside_plain h1 h2
  unfold dueNm
  split
  · exact ⟨p, l⟩
  · exact ⟨plain_lower p, by rw [len_lower_plain p]; exact l⟩
theorem due_z {x : Str} {ows : List Str} {way : Str} (h : way ∈ ows) : dueZ x ows way ∈ ows := by
  unfold dueZ
  rw [getD_first (besideF x) ows way way h]
  cases e : ows.find? fun z => decide (besideF x z = besideF x way) with
  | none => exact h
  | some z => exact List.mem_of_find?_eq_some e
theorem due_items {x : Str} {ows : List Str} (i : Nat) : (∀ kv ∈ (dueAt x ows i).1, kv.2 ∈ ows ∧ kv.2 ≠ x ∧ dueZ x ows kv.2 = kv.2 ∧ ∃ t, kv.1 = dueNm x t kv.2) ∧ (dueAt x ows i).1.length ≤ i ∧ ∀ y ∈ (dueAt x ows i).2, y ∈ ows := by
  induction i with
  | zero => exact ⟨fun _ h => (nomatch h), Nat.le_refl _, fun _ h => (nomatch h)⟩
  | succ i ih =>
    (refine (let Gk : Prop := _; (?_ : Gk)))
    obtain ⟨h1, h2, h3⟩ := ih
    ((show Gk); k_unfold; clear Gk)
    cases h0 : ows[i]? with
    | none =>
      have hd : dueAt x ows (i + 1) = dueAt x ows i := by rw [dueAt, h0]
      rw [hd]
      exact ⟨h1, by lia, h3⟩
    | some way =>
      have hm := List.mem_of_getElem? h0
      have hd : dueAt x ows (i + 1) = dueStep x ows (dueAt x ows i) i way := by rw [dueAt, h0]
      rw [hd]
      unfold dueStep
      by_cases e : way = x
      · rw [if_pos e]; exact ⟨h1, by lia, h3⟩
      · rw [if_neg e]
        refine ⟨?_, ?_, ?_⟩
        · by_cases q : dueZ x ows way = way
          · rw [if_pos q]
            intro kv hkv
            rcases List.mem_append.mp hkv with hkv | hkv
            · exact h1 kv hkv
            · rw [List.mem_singleton.mp hkv]
              exact ⟨hm, e, q, i, rfl⟩
          · rw [if_neg q]; exact h1
        · show (if dueZ x ows way = way then (dueAt x ows i).1 ++ [(dueNm x i way, way)] else (dueAt x ows i).1).length ≤ i + 1
          by_cases q : dueZ x ows way = way
          · rw [if_pos q, List.length_append]; simp only [List.length_cons, List.length_nil]; lia
          · rw [if_neg q]; lia
        · intro y hy
          rcases List.mem_append.mp hy with hy | hy
          · exact h3 y hy
          · rw [List.mem_singleton.mp hy]; exact due_z hm
theorem way_due_ok {ws ows : List Str} (hw : ∀ x ∈ ws, W16 x) (hn : ws.Nodup) (hp : ows.Perm ws) {mine : Str} (hm : mine ∈ ws) : DueOk (cpF mine) mine ows where
  nd := hp.nodup_iff.mpr hn
  up := by
    intro way hway hne
    (refine (let Gk : Prop := _; (?_ : Gk)))
    obtain ⟨a, b, c, d, rfl, ha, hb, hc, hd⟩ := hw mine hm
    obtain ⟨x, y, z, t, rfl, hx, hy, hz, ht⟩ := hw way (hp.mem_iff.mp hway)
    ((show Gk); k_unfold; clear Gk)
    rw [cpF_path ha hb hc hd hx hy hz ht, up_path ha hb hc hd hx hy hz ht fun q => hne (by rw [q]), beside_path (four_lt ha hb hc hd) (four_lt hx hy hz ht)]
  own := by
    intro way hway hne
    (refine (let Gk : Prop := _; (?_ : Gk)))
    obtain ⟨a, b, c, d, rfl, ha, hb, hc, hd⟩ := hw mine hm
    obtain ⟨x, y, z, t, rfl, hx, hy, hz, ht⟩ := hw way (hp.mem_iff.mp hway)
    ((show Gk); k_unfold; clear Gk)
    exact beside_own (four_lt ha hb hc hd) (four_lt hx hy hz ht) fun q => hne (by rw [q])
  low := by
    intro x hx y hy h
    (refine (let Gk : Prop := _; (?_ : Gk)))
    obtain ⟨ds, e1, _, l1⟩ := beside_w16 (hw mine hm) (hw x (hp.mem_iff.mp hx))
    obtain ⟨es, e2, _, l2⟩ := beside_w16 (hw mine hm) (hw y (hp.mem_iff.mp hy))
    ((show Gk); k_unfold; clear Gk)
    rw [e1, e2] at h ⊢
    rw [path_lower_inj l1 l2 h]
  idem := fun x hx => lower_lower (way_beside_plain (hw mine hm) (hw x (hp.mem_iff.mp hx))).1
noncomputable def GoodG (x : Str) : Prop := (∃ ds : List Nat, x = path ds ∧ (∀ i ∈ ds, i < 16) ∧ 0 < ds.length ∧ ds.length ≤ 4) ∨ x = ⟨#[47]⟩
theorem goodG_dir {x : Str} (h : GoodG x) : GoodG (dirF x) := by
  rcases h with ⟨ds, rfl, hd, h0, h4⟩ | rfl
  · match ds, h0, h4 with
    | [a], _, _ => exact .inr (dir1' a)
    | [a, b], _, _ => exact .inl ⟨[a], dir2 a b, fun i hi => hd i (by simp at hi ⊢; lia), by simp, by simp⟩
    | [a, b, c], _, _ => exact .inl ⟨[a, b], dir3 a b c, fun i hi => hd i (by simp at hi ⊢; lia), by simp, by simp⟩
    | [a, b, c, d], _, _ => exact .inl ⟨[a, b, c], dir4 a b c d, fun i hi => hd i (by simp at hi ⊢; lia), by simp, by simp⟩
    | _ :: _ :: _ :: _ :: _ :: _, _, h => simp at h
  · exact .inr dir0'
theorem turn_w16 (w : World) {ws : List Str} (hl : ws.length = 5) (hw : ∀ x ∈ ws, W16 x) (hn : ws.Nodup) : TurnOk w GoodG cpF ws where
  g := by
    intro x h
    refine ⟨?_, ?_, goodG_dir h⟩
    · rcases h with ⟨ds, rfl, hd, h0, h4⟩ | rfl
      · exact path_plain hd
      · intro c hc
        have : c = 47 := by simpa using hc
        lia
    · rcases h with ⟨ds, rfl, hd, h0, h4⟩ | rfl
      · rw [path_len]; lia
      · exact Nat.le_of_ble_eq_true rfl
  inG := fun x hx => by
    (refine (let Gk : Prop := _; (?_ : Gk)))
    obtain ⟨a, b, c, d, rfl, ha, hb, hc, hd⟩ := hw x hx
    ((show Gk); k_unfold; clear Gk)
    exact .inl ⟨_, rfl, four_lt ha hb hc hd, by simp, by simp⟩
  len := hl
  nd := hn
  hcp := by
    intro mine hm way hway hne
    (refine (let Gk : Prop := _; (?_ : Gk)))
    obtain ⟨a, b, c, d, rfl, ha, hb, hc, hd⟩ := hw mine hm
    obtain ⟨x, y, z, t, rfl, hx, hy, hz, ht⟩ := hw way hway
    ((show Gk); k_unfold; clear Gk)
    rw [cpF_path ha hb hc hd hx hy hz ht]
    refine ⟨cpD_len ha hb hc hd hx hy hz ht, fun s l n tk u hl => ?_⟩
    refine c_commonpath w _ _ _ _ _ _ _ _ _ _ (cpok_path ha hb hc hd) (cpok_path hx hy hz ht) (fun q => hne ?_) s l n tk u hl
    simp only [List.cons.injEq, and_true] at q
    rw [sg_inj hx ha q.1, sg_inj hy hb q.2.1, sg_inj hz hc q.2.2.1, sg_inj ht hd q.2.2.2]
  td := fun mine hm ows hp => (table_due (way_due_ok hw hn hp hm) 5 (by rw [hp.length_eq, hl]; exact Nat.le_refl _)).1
  ti := by
    intro mine hm ows hp
    (refine (let Gk : Prop := _; (?_ : Gk)))
    obtain ⟨h1, h2, h3⟩ := due_items (x := mine) (ows := ows) 5
    ((show Gk); k_unfold; clear Gk)
    refine ⟨fun kv hkv => ?_, by lia, fun x hx => w16_plain (hw x (hp.mem_iff.mp (h3 x hx)))⟩
    (refine (let Gk : Prop := _; (?_ : Gk)))
    obtain ⟨g1, _, _, t, e⟩ := h1 kv hkv
    ((show Gk); k_unfold; clear Gk)
    refine ⟨?_, w16_plain (hw _ (hp.mem_iff.mp g1))⟩
    rw [e]
    exact (due_nm (hw mine hm) (hw _ (hp.mem_iff.mp g1)) t).1
theorem turn_ok (w : World) {ns : List Int} (hl : ns.length = 5) (hb : ∀ x ∈ ns, 0 ≤ x ∧ x < 65536) (hn : (ns.map wayOf).Nodup) : ∃ G cp, TurnOk w G cp (ns.map wayOf) :=
  ⟨GoodG, cpF, turn_w16 w (by rw [List.length_map]; exact hl) (fun x hx => by
    (refine (let Gk : Prop := _; (?_ : Gk)))
    obtain ⟨n, _, rfl⟩ := List.mem_map.mp hx
    ((show Gk); k_unfold; clear Gk)
    exact way_w16 n) hn⟩
end Mine
namespace Mine
open PySem PySem.W PySem.Calls PyProof.Rows Builtin Builtin.Str
theorem look_mem {items : List (Str × Str)} {nm z : Str} (h : lookF items nm = some z) : ∃ kv ∈ items, kv.2 = z := by
  unfold lookF at h
  (refine (let Gk : Prop := _; (?_ : Gk)))
  obtain ⟨kv, hkv, e⟩ := Option.map_eq_some_iff.mp h
  ((show Gk); k_unfold; clear Gk)
  exact ⟨kv, List.mem_of_find?_eq_some hkv, e⟩
theorem find_own {cp : Str → Str} {mine : Str} {ws : List Str} (H : DueOk cp mine ws) {way : Str} (hm : way ∈ ws) (hne : way ≠ mine) : ∀ (l : List Str), (∀ z ∈ l, z ∈ ws) → (l.find? fun z => decide (z ≠ mine ∧ besideF mine z = besideF mine way)) = l.find? fun z => decide (besideF mine z = besideF mine way) := by
  intro l hl
  induction l with
  | nil => rfl
  | cons b r ihr =>
    rw [List.find?_cons, List.find?_cons, ihr fun z hz => hl z (.tail _ hz)]
    by_cases e : besideF mine b = besideF mine way
    · have hb : b ≠ mine := fun q => H.own way hm hne (by rw [q] at e; exact e)
      rw [decide_eq_true e, decide_eq_true (⟨hb, e⟩ : b ≠ mine ∧ _)]
    · rw [decide_eq_false e, decide_eq_false fun q => e q.2]
theorem due_look {ws ows : List Str} (hl : ws.length = 5) (hw : ∀ x ∈ ws, W16 x) (hn : ws.Nodup) (hp : ows.Perm ws) {x way : Str} (hx : x ∈ ws) (hway : way ∈ ws) (hne : way ≠ x) :
    ∃ z, lookF (dueAt x ows 5).1 (Txt.lower (besideF x way)) = some z ∧ z ∈ ws ∧ besideF x z = besideF x way ∧ (∀ kv ∈ (dueAt x ows 5).1, besideF x kv.2 = besideF x way → kv.2 = z) ∧ ∃ kv ∈ (dueAt x ows 5).1, kv.2 = z := by
  have H := way_due_ok hw hn hp hx
  have hwo : way ∈ ows := hp.mem_iff.mpr hway
  have hlo : ows.length = 5 := by rw [hp.length_eq, hl]
  have e1 := (table_due H 5 (by lia)).2 way hwo hne (Txt.lower (besideF x way)) (H.idem way hwo)
  unfold firstB at e1
  rw [find_own H hwo hne _ (fun z hz => List.mem_of_mem_take hz), List.take_of_length_le (by lia)] at e1
  cases e : ows.find? fun z => decide (besideF x z = besideF x way) with
  | none => exact absurd (List.find?_eq_none.mp e way hwo) (by simp)
  | some z =>
    rw [e] at e1
    refine ⟨z, e1, hp.mem_iff.mp (List.mem_of_find?_eq_some e), by simpa using List.find?_some e, fun kv hkv q => ?_, look_mem e1⟩
    (refine (let Gk : Prop := _; (?_ : Gk)))
    obtain ⟨g1, g2, g3, _⟩ := (due_items (x := x) (ows := ows) 5).1 kv hkv
    ((show Gk); k_unfold; clear Gk)
    unfold dueZ at g3
    rw [getD_first (besideF x) ows kv.2 kv.2 g1, q, e] at g3
    exact g3.symm
theorem near_to {F : Str → Int} {w : Str} {items : List (Str × Str)} {a : Str} (h1 : a = w ∨ F w < F a) (h2 : a = w ∨ ∃ kv ∈ items, kv.2 = w) (h3 : ∀ kv ∈ items, kv.2 = w ∨ F w < F kv.2) :
    items.foldl (fun near kv => if F kv.2 < F near then kv.2 else near) a = w := by
  induction items generalizing a with
  | nil =>
    rcases h2 with h | ⟨_, h, _⟩
    · exact h
    · nomatch h
  | cons kv r ih =>
    rw [List.foldl_cons]
    have h3' : ∀ kv ∈ r, kv.2 = w ∨ F w < F kv.2 := fun p hp => h3 p (.tail _ hp)
    rcases h3 kv (.head _) with e | e
    · by_cases q : F kv.2 < F a
      · rw [if_pos q]
        exact ih (.inl e) (.inl e) h3'
      · rw [if_neg q]
        have : a = w := by
          rcases h1 with h1 | h1
          · exact h1
          · rw [e] at q; exact absurd h1 q
        exact ih (.inl this) (.inl this) h3'
    · rcases h1 with h1 | h1
      · rw [h1, if_neg (by lia)]
        exact ih (.inl rfl) (.inl rfl) h3'
      · have hr : ∃ kv ∈ r, kv.2 = w := by
          rcases h2 with h2 | ⟨p, hp, e2⟩
          · rw [h2] at h1; lia
          · rcases List.mem_cons.mp hp with rfl | hp
            · rw [e2] at e; lia
            · exact ⟨p, hp, e2⟩
        by_cases q : F kv.2 < F a
        · rw [if_pos q]
          exact ih (.inr e) (.inr hr) h3'
        · rw [if_neg q]
          exact ih (.inr h1) (.inr hr) h3'
theorem near_stay {F : Str → Int} {a : Str} {items : List (Str × Str)} (h : ∀ kv ∈ items, F a ≤ F kv.2) : items.foldl (fun near kv => if F kv.2 < F near then kv.2 else near) a = a := by
  induction items with
  | nil => rfl
  | cons kv r ih =>
    rw [List.foldl_cons, if_neg (Int.not_lt.mpr (h kv (.head _)))]
    exact ih fun p hp => h p (.tail _ hp)
theorem argmin (F : Str → Int) (l : List Str) (hl : l ≠ []) : ∃ b ∈ l, ∀ y ∈ l, F b ≤ F y := by
  induction l with
  | nil => exact absurd rfl hl
  | cons a r ih =>
    by_cases q : ∀ y ∈ r, F a ≤ F y
    · refine ⟨a, .head _, fun y hy => ?_⟩
      rcases List.mem_cons.mp hy with rfl | hy
      · exact Int.le_refl _
      · exact q y hy
    · have hr : r ≠ [] := fun e => q (by rw [e]; exact fun _ h => nomatch h)
      obtain ⟨m, hm, h⟩ := ih hr
      have q2 : F m ≤ F a := Int.not_lt.mp fun lt => q fun y hy => Int.le_trans (Int.le_of_lt lt) (h y hy)
      refine ⟨m, .tail _ hm, fun y hy => ?_⟩
      rcases List.mem_cons.mp hy with rfl | hy
      · exact q2
      · exact h y hy
theorem far_way (key : Int) {n : Int} (h : 0 ≤ n ∧ n < 65536) {ns : List Int} (hb : ∀ x ∈ ns, 0 ≤ x ∧ x < 65536) (hm : n ∈ ns) : farOf (farD key ns) (wayOf n) = Builtin.bitXor n key := by
  induction ns with
  | nil => nomatch hm
  | cons a r ih =>
    unfold farOf farD kdpLook
    rw [List.map_cons, List.map_cons, List.zip_cons_cons, List.find?_cons]
    by_cases q : wayOf a = wayOf n
    · rw [decide_eq_true q]
      rw [way_inj (hb a (.head _)) h q]
      rfl
    · rw [decide_eq_false q]
      rcases List.mem_cons.mp hm with e | hm
      · exact absurd (by rw [e]) q
      · exact ih (fun x hx => hb x (.tail _ hx)) hm
theorem take_digs {m n c : Nat} (hm : m < 65536) (hn : n < 65536) (h1 : 1 ≤ c) (h4 : c ≤ 4) : (digs m).take c = (digs n).take c ↔ m / 2 ^ (4 * (4 - c)) = n / 2 ^ (4 * (4 - c)) := by
  have e2 (m : Nat) : m / 256 / 16 = m / 4096 := Nat.div_div_eq_div_mul _ _ _
  have e3 (m : Nat) : m / 16 / 16 = m / 256 := Nat.div_div_eq_div_mul _ _ _
  unfold digs
  rw [top16 hm, top16 hn]
  match c, h1, h4 with
  | 1, _, _ =>
    show [_] = [_] ↔ m / 4096 = n / 4096
    rw [List.cons.injEq, eq_self, and_true]
  | 2, _, _ =>
    show [_, _] = [_, _] ↔ m / 256 = n / 256
    rw [dm16 (m / 256), e2, e2, List.cons.injEq, List.cons.injEq, eq_self, and_true]
  | 3, _, _ =>
    show [_, _, _] = [_, _, _] ↔ m / 16 = n / 16
    rw [dm16 (m / 16), e3, e3, dm16 (m / 256), e2, e2, List.cons.injEq, List.cons.injEq, List.cons.injEq, eq_self, and_true, and_assoc]
  | 4, _, _ =>
    show [_, _, _, _] = [_, _, _, _] ↔ m / 1 = n / 1
    rw [Nat.div_one, Nat.div_one, dm16 m, dm16 (m / 16), e3, e3, dm16 (m / 256), e2, e2, List.cons.injEq, List.cons.injEq, List.cons.injEq, List.cons.injEq, eq_self, and_true, and_assoc, and_assoc]
theorem cnt_ge {a b c d x y z t k : Nat} (hk : k ≤ 3) (h : [a, b, c, d].take k = [x, y, z, t].take k) : k + 1 ≤ cnt [a, b, c, d] [x, y, z, t] := by
  rw [cnt4]
  rcases (by lia : k = 0 ∨ k = 1 ∨ k = 2 ∨ k = 3) with rfl | rfl | rfl | rfl <;> simp only [List.take_succ_cons, List.take_zero, List.cons.injEq, and_true] at h
  · split
    · split
      · split <;> lia
      · lia
    · lia
  · rw [if_pos h]
    split
    · split <;> lia
    · lia
  · rw [if_pos h.1, if_pos h.2]
    split <;> lia
  · rw [if_pos h.1, if_pos h.2.1, if_pos h.2.2]
    lia
theorem found_ok {ns : List Int} (hl : ns.length = 5) (hb : ∀ x ∈ ns, 0 ≤ x ∧ x < 65536) (hn : (ns.map wayOf).Nodup) {tabs : Str → List (Str × Str)} (ht : ∀ x ∈ ns.map wayOf, ∃ ows, ows.Perm (ns.map wayOf) ∧ tabs x = (dueAt x ows 5).1) (key : Int) (hk : 0 ≤ key ∧ key < 65536) :
    ∃ best ∈ ns.map wayOf, (∀ y ∈ ns.map wayOf, farOf (farD key ns) best ≤ farOf (farD key ns) y ∧ (farOf (farD key ns) y = farOf (farD key ns) best → y = best)) ∧
      (∀ x ∈ ns.map wayOf, nearF (farD key ns) (tabs x) x = x ∨ lookF (tabs x) (Txt.lower (besideF x best)) = some (nearF (farD key ns) (tabs x) x)) ∧ (∀ x ∈ ns.map wayOf, goF (farD key ns) tabs x 4 = best) ∧
      (∀ x ∈ ns.map wayOf, (tabs x).length ≤ 20 ∧ ∀ kv ∈ tabs x, kv.1.length ≤ 40 ∧ kv.2 ∈ ns.map wayOf) := by
  revert hl hb hn tabs ht hk
  revert ns key
  iterate 2 refine no_implicit_lambda% (Mine.pad1 ?_)
  refine' no_implicit_lambda% (Mine.hk4 ?ne ?_)
  case ne => (repeat' (first | (refine Mine.nePair ?_ ?_) | exact Mine.neWorld | exact Mine.neAround | exact Mine.neShared | infer_instance))
  generalize Mine.A3 _ = ns; generalize Mine.A4 _ = key
  intro uHk
  clear uHk
  intro hl hb hn tabs ht hk
  have hw : ∀ x ∈ ns.map wayOf, W16 x := fun x hx => by
    (refine (let Gk : Prop := _; (?_ : Gk)))
    obtain ⟨n, _, rfl⟩ := List.mem_map.mp hx
    ((show Gk); k_unfold; clear Gk)
    exact way_w16 n
  have hlw : (ns.map wayOf).length = 5 := by rw [List.length_map]; exact hl
  have hF : ∀ n ∈ ns, farOf (farD key ns) (wayOf n) = ((n.toNat ^^^ key.toNat : Nat) : Int) := fun n hm => by
    rw [far_way key (hb n hm) hb hm, bitXor_nat (hb n hm).1 hk.1]
  obtain ⟨best, hbm, hmin⟩ := argmin (farOf (farD key ns)) (ns.map wayOf) (fun q => by rw [q] at hlw; cases hlw)
  have hinj : ∀ y ∈ ns.map wayOf, farOf (farD key ns) y = farOf (farD key ns) best → y = best := fun y hy e => by
    (refine (let Gk : Prop := _; (?_ : Gk)))
    obtain ⟨n, hnm, rfl⟩ := List.mem_map.mp hy
    obtain ⟨b, hbn, rfl⟩ := List.mem_map.mp hbm
    rw [hF n hnm, hF b hbn] at e
    have e2 := xor_cancel (Int.ofNat_inj.mp e)
    have := hb n hnm
    have := hb b hbn
    ((show Gk); k_unfold; clear Gk)
    rw [show n = b by lia]
  have hstep : ∀ x ∈ ns.map wayOf, x ≠ best → ∃ z ∈ ns.map wayOf, lookF (tabs x) (Txt.lower (besideF x best)) = some z ∧ nearF (farD key ns) (tabs x) x = z ∧ besideF x z = besideF x best := by
    intro x hx hne
    (refine (let Gk : Prop := _; (?_ : Gk)))
    obtain ⟨ows, hp, et⟩ := ht x hx
    obtain ⟨z, h1, h2, h3, h4, h5⟩ := due_look hlw hw hn hp hx hbm fun q => hne q.symm
    rw [← et] at h1 h4 h5
    ((show Gk); k_unfold; clear Gk)
    refine ⟨z, h2, h1, ?_, h3⟩
    (refine (let Gk : Prop := _; (?_ : Gk)))
    obtain ⟨b, hbn, rfl⟩ := List.mem_map.mp hbm
    obtain ⟨m, hmn, rfl⟩ := List.mem_map.mp hx
    obtain ⟨p, hpn, rfl⟩ := List.mem_map.mp h2
    have hmb : digs m.toNat ≠ digs b.toNat := fun q => hne (by unfold wayOf; rw [q])
    have hrange : 1 ≤ cnt (digs m.toNat) (digs b.toNat) ∧ cnt (digs m.toNat) (digs b.toNat) ≤ 4 := cnt_range _ _ _ _ _ _ _ _
    have hiff : ∀ q : Int, besideF (wayOf m) (wayOf q) = besideF (wayOf m) (wayOf b) ↔ (digs q.toNat).take (cnt (digs m.toNat) (digs b.toNat)) = (digs b.toNat).take (cnt (digs m.toNat) (digs b.toNat)) := fun q => beside_iff (digs_lt _) (digs_lt _) (digs_lt _) hmb
    have hcl : ∀ v ∈ ns, besideF (wayOf m) (wayOf v) ≠ besideF (wayOf m) (wayOf b) → farOf (farD key ns) (wayOf p) < farOf (farD key ns) (wayOf v) := by
      intro v hv hvn
      have b1 := hb v hv
      have b2 := hb p hpn
      have b3 := hb b hbn
      have hm2 := hmin _ (List.mem_map.mpr ⟨v, hv, rfl⟩)
      rw [hF v hv, hF b hbn] at hm2
      rw [hF v hv, hF p hpn]
      have k1 := (take_digs (by lia) (by lia) hrange.1 hrange.2).mp ((hiff p).mp h3)
      have k2 : ¬ _ := fun q => hvn ((hiff v).mpr ((take_digs (m := v.toNat) (by lia) (by lia) hrange.1 hrange.2).mpr q))
      exact Int.ofNat_lt.mpr (xor_block _ rfl k1 k2 (Int.ofNat_le.mp hm2))
    ((show Gk); k_unfold; clear Gk)
    unfold nearF
    refine near_to (.inr (hcl m hmn ?_)) (.inr h5) fun kv hkv => ?_
    · exact beside_own (digs_lt m.toNat) (digs_lt b.toNat) fun q => hmb q.symm
    · rw [et] at hkv
      have hkm := hp.mem_iff.mp ((due_items (x := wayOf m) (ows := ows) 5).1 kv hkv).1
      rw [← et] at hkv
      (refine (let Gk : Prop := _; (?_ : Gk)))
      obtain ⟨v, hv, ev⟩ := List.mem_map.mp hkm
      ((show Gk); k_unfold; clear Gk)
      by_cases q : besideF (wayOf m) kv.2 = besideF (wayOf m) (wayOf b)
      · exact .inl (h4 kv hkv q)
      · refine .inr ?_
        rw [← ev] at q ⊢
        exact hcl v hv q
  have hitems : ∀ x ∈ ns.map wayOf, (tabs x).length ≤ 20 ∧ ∀ kv ∈ tabs x, kv.1.length ≤ 40 ∧ kv.2 ∈ ns.map wayOf := by
    intro x hx
    (refine (let Gk : Prop := _; (?_ : Gk)))
    obtain ⟨ows, hp, et⟩ := ht x hx
    obtain ⟨h1, h2, _⟩ := due_items (x := x) (ows := ows) 5
    ((show Gk); k_unfold; clear Gk)
    rw [et]
    refine ⟨by lia, fun kv hkv => ?_⟩
    (refine (let Gk : Prop := _; (?_ : Gk)))
    obtain ⟨g1, _, _, t, e⟩ := h1 kv hkv
    have hm := hp.mem_iff.mp g1
    ((show Gk); k_unfold; clear Gk)
    refine ⟨?_, hm⟩
    rw [e]
    have := (due_nm (hw x hx) (hw _ hm) t).2
    lia
  have hstay : nearF (farD key ns) (tabs best) best = best := by
    unfold nearF
    exact near_stay fun kv hkv => hmin _ ((hitems best hbm).2 kv hkv).2
  have hgo : ∀ x ∈ ns.map wayOf, ∀ k, k ≤ 4 → ∃ m ∈ ns, goF (farD key ns) tabs x k = wayOf m ∧ ∀ b ∈ ns, wayOf b = best → (digs m.toNat).take k = (digs b.toNat).take k := by
    intro x hx k
    induction k with
    | zero =>
      intro _
      (refine (let Gk : Prop := _; (?_ : Gk)))
      obtain ⟨m, hm, e⟩ := List.mem_map.mp hx
      ((show Gk); k_unfold; clear Gk)
      exact ⟨m, hm, e.symm, fun _ _ _ => rfl⟩
    | succ k ih =>
      intro hk4
      (refine (let Gk : Prop := _; (?_ : Gk)))
      obtain ⟨m, hm, e, hd⟩ := ih (by lia)
      have eg : goF (farD key ns) tabs x (k + 1) = nearF (farD key ns) (tabs (wayOf m)) (wayOf m) := by rw [goF, e]
      ((show Gk); k_unfold; clear Gk)
      rw [eg]
      by_cases q : wayOf m = best
      · rw [q, hstay]
        refine ⟨m, hm, q.symm, fun b hbn eb => ?_⟩
        rw [way_inj (hb m hm) (hb b hbn) (q.trans eb.symm)]
      · (refine (let Gk : Prop := _; (?_ : Gk)))
        obtain ⟨z, hz, _, e2, e3⟩ := hstep (wayOf m) (List.mem_map.mpr ⟨m, hm, rfl⟩) q
        obtain ⟨p, hp, rfl⟩ := List.mem_map.mp hz
        ((show Gk); k_unfold; clear Gk)
        refine ⟨p, hp, e2, fun b hbn eb => ?_⟩
        rw [← eb] at e3 q
        have hmb : digs m.toNat ≠ digs b.toNat := fun q' => q (by unfold wayOf; rw [q'])
        have e4 : (digs p.toNat).take (cnt (digs m.toNat) (digs b.toNat)) = (digs b.toNat).take (cnt (digs m.toNat) (digs b.toNat)) := (beside_iff (digs_lt _) (digs_lt _) (digs_lt _) hmb).mp e3
        have hge : k + 1 ≤ cnt (digs m.toNat) (digs b.toNat) := cnt_ge (by lia) (hd b hbn eb)
        have e5 := congrArg (List.take (k + 1)) e4
        rw [List.take_take, List.take_take, Nat.min_eq_left hge] at e5
        exact e5
  refine ⟨best, hbm, fun y hy => ⟨hmin y hy, hinj y hy⟩, fun x hx => ?_, fun x hx => ?_, hitems⟩
  · by_cases q : x = best
    · rw [q]; exact .inl hstay
    · (refine (let Gk : Prop := _; (?_ : Gk)))
      obtain ⟨z, _, h1, h2, _⟩ := hstep x hx q
      ((show Gk); k_unfold; clear Gk)
      rw [h2]
      exact .inr h1
  · (refine (let Gk : Prop := _; (?_ : Gk)))
    obtain ⟨m, hm, e, hd⟩ := hgo x hx 4 (Nat.le_refl _)
    obtain ⟨b, hbn, eb⟩ := List.mem_map.mp hbm
    have e1 : digs m.toNat = digs b.toNat := hd b hbn eb
    ((show Gk); k_unfold; clear Gk)
    rw [e, ← eb]
    unfold wayOf
    rw [e1]
end Mine
theorem Mine.off29 : True := by w_top off; trivial
namespace Mine
open PySem PySem.W PySem.Calls PyProof.Rows
theorem off1_mem {D : Addr} {l : Led} (x : LCg.Off1 D l) : ∀ p ∈ l, p.1 ≠ D := by
  induction l with
  | nil => exact fun _ h => nomatch h
  | cons q r ih =>
    intro p h
    rcases List.mem_cons.mp h with rfl | h
    · exact x.1
    · exact ih x.2 p h
theorem with_hd2 {h₀ h : Heap} {L a1 : Addr} {o1 : Obj} {r : Led} {P : Prop} (_ : News h₀ L h ((a1, o1) :: r)) (k : ∀ (a : Addr) (o : Obj), a = a1 → o = o1 → P) : P := k a1 o1 rfl rfl
theorem with_run {h₀ h : Heap} {L a5 a4 a3 a2 a1 : Addr} {m : Str → Option Value} {o5 o4 o3 o2 o1 : Obj} {r : Led} {P : Prop} (_ : Fr h₀ L h m) (_ : News h₀ L h ((a5, o5) :: (a4, o4) :: (a3, o3) :: (a2, o2) :: (a1, o1) :: r)) (k : ∀ (L' th : Addr) (p4 p3 p2 p1 : Obj), L' = L → th = a5 → p4 = o4 → p3 = o3 → p2 = o2 → p1 = o1 → P) : P := k L a5 o4 o3 o2 o1 rfl rfl rfl rfl rfl rfl
theorem c_run (w : World) (s : Shared) (o : Addr) (c0 c1 c2 c3 c4 c5 c6 c7 c8 : Int) (t0 t1 t2 t3 t4 t5 t6 t7 t8 : Tok) (n : Nat) (h0 : 0 ≤ c0) (h1 : 0 ≤ c1) (h2 : 0 ≤ c2) (h3 : 0 ≤ c3) (h4 : 0 ≤ c4) (h5 : 0 ≤ c5) (ho : s.heap.get? o = some { cls := .type "list", data := .seq #[.int c0 t0, .int c1 t1, .int c2 t2, .int c3 t3, .int c4 t4, .int c5 t5, .int c6 t6, .int c7 t7, .int c8 t8] n })
    {lam : Led} (hlam : LamLed lam)
    {p : Program} {loose : List Str} {mean : ExcName → Option Value} {mg mb : Str → Option Value} {dp un : Nat} {gd : Option (List Code)} {cn : Str} {cs : Scope} {a : Addr} {ccd : Value} {cl : List (Str × Addr)} {outer : List Env} {A₀ : Around} {base h₀ : Heap} {L : Addr} {m : Str → Option Value} {Q E : Value → Shared → Prop}
    (B : Below A₀ base outer h₀) (F : Fr h₀ L s.heap m) (X : (Mine.pre.hd.heap_39 w.params).In h₀) (T : Top p loose mean mg mb h₀) (hk : cs.kind = .function) (hdp : dp + 200 < recursionLimit) (hun : un + 2000 < cLine) (C : CodeHd h₀ 327 323) (N : News h₀ L s.heap lam)
    (hret : ∀ h' tk', (∀ b o, (hideAll s.heap (lam.map (·.1))).get? b = some o → h'.get? b = some o) → (∃ ps, h'.get? 323 = some (tabObj ps)) → Q (.bool true) { s with heap := h', toks := tk' }) :
    wpAny (model PySem.Challenge.pw_rt0090_01 w) (ktrTop dp un gd cn cs L a ccd cl outer) (call (.ref 333) [.ref o]) Q E s := by
  revert h0 h1 h2 h3 h4 h5 ho hlam B F X T hk hdp hun C N hret
  revert w s o c0 c1 c2 c3 c4 c5 c6 c7 c8 t0 t1 t2 t3 t4 t5 t6 t7 t8 n lam p loose mean mg mb dp un gd cn cs a ccd cl outer A₀ base h₀ L m Q E
  iterate 4 refine no_implicit_lambda% (Mine.pad1 ?_)
  refine' no_implicit_lambda% (Mine.hk48 ?ne ?_)
  case ne => (repeat' (first | (refine Mine.nePair ?_ ?_) | exact Mine.neWorld | exact Mine.neAround | exact Mine.neShared | infer_instance))
  generalize Mine.A5 _ = w; generalize Mine.A6 _ = s; generalize Mine.A7 _ = o; generalize Mine.A8 _ = c0; generalize Mine.A9 _ = c1; generalize Mine.A10 _ = c2; generalize Mine.A11 _ = c3; generalize Mine.A12 _ = c4; generalize Mine.A13 _ = c5; generalize Mine.A14 _ = c6; generalize Mine.A15 _ = c7; generalize Mine.A16 _ = c8; generalize Mine.A17 _ = t0; generalize Mine.A18 _ = t1; generalize Mine.A19 _ = t2; generalize Mine.A20 _ = t3; generalize Mine.A21 _ = t4; generalize Mine.A22 _ = t5; generalize Mine.A23 _ = t6; generalize Mine.A24 _ = t7; generalize Mine.A25 _ = t8; generalize Mine.A26 _ = n; generalize Mine.A27 _ = lam; generalize Mine.A28 _ = p; generalize Mine.A29 _ = loose; generalize Mine.A30 _ = mean; generalize Mine.A31 _ = mg; generalize Mine.A32 _ = mb; generalize Mine.A33 _ = dp; generalize Mine.A34 _ = un; generalize Mine.A35 _ = gd; generalize Mine.A36 _ = cn; generalize Mine.A37 _ = cs; generalize Mine.A38 _ = a; generalize Mine.A39 _ = ccd; generalize Mine.A40 _ = cl; generalize Mine.A41 _ = outer; generalize Mine.A42 _ = A₀; generalize Mine.A43 _ = base; generalize Mine.A44 _ = h₀; generalize Mine.A45 _ = L; generalize Mine.A46 _ = m; generalize Mine.A47 _ = Q; generalize Mine.A48 _ = E
  intro uHk
  clear uHk
  intro h0 h1 h2 h3 h4 h5 ho hlam B F X T hk hdp hun C N hret
  have hoh := hide_data (fun p hp => (N p hp).1) hlam.data _ _ ho (fun vs q => nomatch q)
  have C' : CodeHd (hideAll s.heap (lam.map (·.1))) 327 323 := C.keeps fun b o e => hideAll_get _ (F.keep _ _ e) fun hm => by
    (refine (let Gk : Prop := _; (?_ : Gk)))
    obtain ⟨p, hp, rfl⟩ := List.mem_map.mp hm
    rw [(N p hp).2.2] at e; cases e
  refine wpAny_call ?_
  (k_dflt (refine' Mine.enterGC _ ?k1ₘ ?k2ₘ ?k3ₘ ?k4ₘ ?k5ₘ ?kAₘ ?kFₘ ?kKₘ ?k6ₘ ?k7ₘ ?k8ₘ ?k9ₘ ?kBₘ ?kDₘ ?_ ?c2ₘ ?c3ₘ ?c4ₘ; (case kAₘ => exact rfl); (case kFₘ => exact rfl); (case kKₘ => assumption); (case k1ₘ => k_asm); (case k2ₘ => k_asm); (case k3ₘ => k_asm); (case k4ₘ => assumption); (case k5ₘ => k_asm); (case k6ₘ => k_is); (case k7ₘ => k_is); (case k8ₘ => ktr_room); (case k9ₘ => first | exact BindsTo.of_eq rfl | exact binds_K (by k_in) rfl (by k_is) rfl rfl rfl); (case kBₘ => exact rfl); (case kDₘ => decide +kernel); (case c2ₘ => exact rfl); (case c3ₘ => exact rfl); (case c4ₘ => exact rfl); k_whole); intro L'ₘ h'ₘ tk'ₘ cells'ₘ F'ₘ N'ₘ Y'ₘ B'ₘ X'ₘ T'ₘ l1ₘ; k_cells Y'ₘ; (try simp only [List.cons_append, List.nil_append] at N'ₘ); (try dsimp only); (try k_fold))
  (refine (let Akₘ : PySem.Around := _; (?_ : wpAny _ Akₘ _ _ _ _)))
  (repeat' (first | ((with_reducible show @ite Prop _ _ _ _); walk1) | (k_unfold; (try dsimp only)) | ((fail_if_success (with_reducible (refine Mine.stp 9 ?_ ?_; (focus ((repeat' constructor); done))))); (first | (k_end; wrow_close) | walk1 | (dsimp only; walk1))) | ((fail_if_success (with_reducible show wpAny _ _ _ _ _ _)); dsimp only [Mine.MyPost]) | (leave1; try dsimp only) | fail "no step"))
  try dsimp only
  ((with_reducible rename News _ _ _ _ => Nz); (with_reducible rename Fr _ _ _ _ => Fz))
  refine with_run Fz Nz fun L' th p4 p3 p2 p1 e1 e2 e3 e4 e5 e6 => ?_
  subst e1 e2 e3 e4 e5 e6
  have ho1 : p1.data = Data.cell (some (.ref o)) := by assumption
  have ho2 : p2.data = Data.cell none := by assumption
  obtain ⟨v3, ho3⟩ : ∃ v, p3.data = Data.cell v := ⟨_, by assumption⟩
  obtain ⟨v4, ho4⟩ : ∃ v, p4.data = Data.cell v := ⟨_, by assumption⟩
  rename @LT.lt Nat _ (L' + 1 + 1 + 1 + 1) th ∧ _ => l1
  have hthl : ∀ p ∈ (L' + 1 + 1 + 1 + 1, p4) :: (L' + 1 + 1 + 1, p3) :: (L' + 1 + 1, p2) :: (L' + 1, p1) :: lam, @LT.lt Nat _ p.1 th := allLt_mem (show AllLt th _ from l1)
  rename ∀ p ∈ lam, p.1 < L' => hlamL
  refine wpAny_execs_cons (run_thirds (by assumption) (by assumption) (by assumption) (by first | exact rfl | assumption) (by k_room) (by k_units) hoh Fz Nz h0 h1 h2 h3 h4 ho1 hthl (fun uC vs ts k h6 tk6 hvs hts hnd hlt F6 N6 => ?_) (by passes_own))
  clear Fz Nz
  try dsimp only
  obtain ⟨hnb, hnd2⟩ := nums_ok h5 hts hnd hlt
  have hnl : (ts.map (numF c5)).length = 5 := by rw [List.length_map]; exact hts
  have F7 := fr_mapR F6 (with_m1 (a := "thirds") (va := some (.ref th)) rfl)
  refine wpAny_execs_cons (run_numbers (by assumption) (by assumption) (by assumption) (by first | exact rfl | assumption) (by k_room) (by k_units) hoh F7 N6 hvs hts hlt ho1 (fun nm us h7 tk7 hus F8 N8 hoN => ?_) (by passes_own))
  clear F6 F7 N6
  try dsimp only
  refine wpAny_execs_cons (run_ways (by assumption) (by assumption) (by assumption) (by first | exact rfl | assumption) (by k_room) (by k_units) F8 N8 hus hnl hnb (fun wy zs h8 tk8 hzs F9 N9 hoW => ?_) (by passes_own))
  clear F8 N8
  try dsimp only
  refine wpAny_execs_cons (run_check (by assumption) (by assumption) (by assumption) (by first | exact rfl | assumption) (by k_room) (by k_units) F9 N9 hus hnl hnb hzs (fun h9 tk9 F10 N10 => ?_) (by passes_own))
  clear F9 N9
  try dsimp only
  refine wpAny_execs_cons ?_
  (repeat' (first | ((with_reducible show @ite Prop _ _ _ _); walk1) | (k_unfold; (try dsimp only)) | ((fail_if_success (with_reducible (refine Mine.stp 9 ?_ ?_; (focus ((repeat' constructor); done))))); (first | (k_end; wrow_close) | walk1 | (dsimp only; walk1))) | ((fail_if_success (with_reducible show wpAny _ _ _ _ _ _)); dsimp only [Mine.MyPost]) | (leave1; try dsimp only) | fail "no step"))
  ((with_reducible rename News _ _ _ _ => Nz); (with_reducible rename Fr _ _ _ _ => Fz))
  refine with_hd2 Nz fun tb otb e1 e2 => ?_
  subst e1 e2
  rename Obj.IsDictOf (PySem.strKind _ _) otb [] => hdt
  rename @LT.lt Nat _ wy tb ∧ _ => lT
  have hltT := allLt_mem (show AllLt tb ((wy, LCg.lst zs) :: (nm, LCg.lst us) :: (L' + 1 + 1 + 1 + 1, p4) :: (L' + 1 + 1 + 1, p3) :: (L' + 1 + 1, p2) :: (L' + 1, p1) :: lam) from lT)
  have hWm := off1_mem hoW
  have hNm := off1_mem hoN
  have g2 := Nz (L' + 1 + 1, p2) (by k_mem)
  refine wpAny_storeName_cell (by rfl) (by rfl) (c := L' + 1 + 1) (by rfl) ⟨p2, g2.1, ho2⟩ (fun h11 hc11 hs11 => ?_)
  (refine (let Gk : Prop := _; (?_ : Gk)))
  obtain ⟨p2n, e2n, hd2n⟩ := hc11
  have n12 : @Ne Nat (L' + 1) (L' + 1 + 1) := by lia
  have n32 : @Ne Nat (L' + 1 + 1 + 1) (L' + 1 + 1) := by lia
  have n42 : @Ne Nat (L' + 1 + 1 + 1 + 1) (L' + 1 + 1) := by lia
  have n13 : @Ne Nat (L' + 1) (L' + 1 + 1 + 1) := by lia
  have n14 : @Ne Nat (L' + 1) (L' + 1 + 1 + 1 + 1) := by lia
  have n43 : @Ne Nat (L' + 1 + 1 + 1 + 1) (L' + 1 + 1 + 1) := by lia
  have hlamN : ∀ p ∈ lam, ∀ k : Nat, p.1 ≠ L' + k := fun p hp k => Nat.ne_of_lt (Nat.lt_of_lt_of_le (hlamL p hp) (Nat.le_add_right _ _))
  have F11 := Fz.change hs11 g2.2.1 g2.2.2
  have N11 : News (hideAll s.heap (lam.map (·.1))) L' h11 ((tb, otb) :: (wy, LCg.lst zs) :: (L' + 1 + 1, p2n) :: (L' + 1, p1) :: ((nm, LCg.lst us) :: (L' + 1 + 1 + 1 + 1, p4) :: (L' + 1 + 1 + 1, p3) :: lam)) := fun p hp => by
    have up : ∀ q ∈ (tb, otb) :: (wy, LCg.lst zs) :: (nm, LCg.lst us) :: (L' + 1 + 1 + 1 + 1, p4) :: (L' + 1 + 1 + 1, p3) :: (L' + 1 + 1, p2) :: (L' + 1, p1) :: lam, q.1 ≠ L' + 1 + 1 → h11.get? q.1 = some q.2 ∧ q.1 ≠ L' ∧ (hideAll s.heap (lam.map (·.1))).get? q.1 = none := fun q hq hne => ⟨hs11.extBut _ _ hne (Nz q hq).1, (Nz q hq).2⟩
    simp only [List.mem_cons] at hp
    rcases hp with hp | hp | hp | hp | hp | hp | hp | hp
    · rw [hp]; exact up (tb, otb) (.head _) (Nat.ne_of_gt (hltT (L' + 1 + 1, p2) (by k_mem)))
    · rw [hp]; exact up (wy, LCg.lst zs) (.tail _ (.head _)) (Ne.symm (hWm (L' + 1 + 1, p2) (by k_mem)))
    · rw [hp]; exact ⟨e2n, g2.2⟩
    · rw [hp]; exact up (L' + 1, p1) (by k_mem) n12
    · rw [hp]; exact up (nm, LCg.lst us) (by k_mem) (Ne.symm (hNm (L' + 1 + 1, p2) (by k_mem)))
    · rw [hp]; exact up (L' + 1 + 1 + 1 + 1, p4) (by k_mem) n42
    · rw [hp]; exact up (L' + 1 + 1 + 1, p3) (by k_mem) n32
    · exact up p (by simp [hp]) (hlamN p hp 2)
  have hwyN : ∀ p ∈ (nm, LCg.lst us) :: (L' + 1 + 1 + 1 + 1, p4) :: (L' + 1 + 1 + 1, p3) :: (L' + 1 + 1, p2) :: (L' + 1, p1) :: lam, p.1 ≠ wy := hWm
  clear Fz Nz
  ((show Gk); k_unfold; clear Gk)
  try dsimp only
  (refine (let Gk : Prop := _; (?_ : Gk)))
  obtain ⟨G, cp, HT⟩ := turn_ok w hnl hnb hnd2
  ((show Gk); k_unfold; clear Gk)
  refine wpAny_execs_cons (run_tables (G := G) (cp := cp) (by assumption) (by assumption) (by assumption) (by first | exact rfl | assumption) (by k_room) (by k_units) hoh F11 rfl N11 hzs HT ho1 hd2n ?_ hdt (fun u1 u2 u3 u4 u5 h12 tk12 kvs otb' TL hd12 htab F12 N12 hTL => ?_) (by passes_own))
  · intro p hp
    simp only [List.mem_cons] at hp
    have hq : ∀ q ∈ (wy, LCg.lst zs) :: (nm, LCg.lst us) :: (L' + 1 + 1 + 1 + 1, p4) :: (L' + 1 + 1 + 1, p3) :: (L' + 1 + 1, p2) :: (L' + 1, p1) :: lam, q.1 ≠ tb := fun q hq => Nat.ne_of_lt (hltT q hq)
    rcases hp with hp | hp | hp | hp | hp | hp | hp
    · exact hq p (by simp [hp])
    · rw [hp]; exact hq (L' + 1 + 1, p2) (by k_mem)
    · exact hq p (by simp [hp])
    · exact hq p (by simp [hp])
    · exact hq p (by simp [hp])
    · exact hq p (by simp [hp])
    · exact hq p (by simp [hp])
  clear F11 N11
  try dsimp only
  obtain ⟨tabs, htabs⟩ : ∃ tabs : Str → List (Str × Str), ∀ x ∈ (ts.map (numF c5)).map wayOf, ∃ a ows, valueAt kvs x = some (.ref a) ∧ ows.Perm ((ts.map (numF c5)).map wayOf) ∧ tabs x = (dueAt x ows 5).1 ∧ TabObjL w TL a (tabs x) := by
    classical
    refine ⟨fun x => if h : x ∈ (ts.map (numF c5)).map wayOf then (dueAt x (htab x h).choose_spec.choose 5).1 else [], fun x hx => ?_⟩
    have hs := (htab x hx).choose_spec.choose_spec
    refine ⟨_, _, hs.1, hs.2.1, ?_, ?_⟩
    · simp only [hx, dif_pos]
    · simp only [hx, dif_pos]
      exact hs.2.2
  have hLab := F12.above
  have hT9 : Top p loose mean mg mb (hideAll s.heap (lam.map (·.1))) := by assumption
  have hmod := modules_low hT9.nolimit
  have hlamT : ∀ p ∈ lam, ∀ q ∈ TL, p.1 ≠ q.1 := fun p hp q hq => (hTL q hq).2 p (by simp [hp])
  have hwyT : ∀ p ∈ TL, p.1 ≠ L' + 1 + 1 + 1 ∧ p.1 ≠ L' + 1 + 1 + 1 + 1 := fun p hp => ⟨Ne.symm ((hTL p hp).2 (L' + 1 + 1 + 1, p3) (by k_mem)), Ne.symm ((hTL p hp).2 (L' + 1 + 1 + 1 + 1, p4) (by k_mem))⟩
  have n43' : @Ne Nat tb (L' + 1 + 1 + 1) := Nat.ne_of_gt (hltT (L' + 1 + 1 + 1, p3) (by k_mem))
  have n44' : @Ne Nat tb (L' + 1 + 1 + 1 + 1) := Nat.ne_of_gt (hltT (L' + 1 + 1 + 1 + 1, p4) (by k_mem))
  have n23 : @Ne Nat (L' + 1 + 1) (L' + 1 + 1 + 1) := by lia
  have n24 : @Ne Nat (L' + 1 + 1) (L' + 1 + 1 + 1 + 1) := by lia
  refine wpAny_execs_cons (run_keys (tabs := tabs) (lam := lam) (kvs := kvs) (TL := TL) (otb := otb') (by assumption) (by assumption) (by assumption) (by first | exact rfl | assumption) (by k_room) (by k_units) C' hoh F12 rfl rfl (news_sub N12 ?_) hus hnl hnb hzs hnd2 ho1 hd2n ho3 ho4 ?_ ?_ hlam ?_ (fun key hk0 hk1 => ?_) (fun h13 tk13 m13 lam13 hlam13 F13 N13 => ?_) (by passes_own))
  · intro p hp
    simp only [List.mem_cons, List.mem_append] at hp ⊢
    rcases hp with hp | hp | hp | hp | hp | hp | hp | hp | hp <;> simp [hp]
  · intro p hp
    simp only [List.mem_cons, List.mem_append] at hp
    rcases hp with hp | hp | hp | hp | hp | hp | hp | hp
    · rw [hp]; exact n43
    · rw [hp]; exact Ne.symm (hWm (L' + 1 + 1 + 1, p3) (by k_mem))
    · rw [hp]; exact Ne.symm (hNm (L' + 1 + 1 + 1, p3) (by k_mem))
    · rw [hp]; exact n23
    · rw [hp]; exact n13
    · rw [hp]; exact n43'
    · exact (hwyT p hp).1
    · exact hlamN p hp 3
  · intro p hp
    simp only [List.mem_cons, List.mem_append] at hp
    rcases hp with hp | hp | hp | hp | hp | hp | hp
    · rw [hp]; exact Ne.symm (hWm (L' + 1 + 1 + 1 + 1, p4) (by k_mem))
    · rw [hp]; exact Ne.symm (hNm (L' + 1 + 1 + 1 + 1, p4) (by k_mem))
    · rw [hp]; exact n24
    · rw [hp]; exact n14
    · rw [hp]; exact n44'
    · exact (hwyT p hp).2
    · exact hlamN p hp 4
  · intro p hp q hq
    simp only [List.mem_cons] at hq
    rcases hq with hq | hq | hq | hq | hq | hq | hq | hq
    · rw [hq]; exact hlamN p hp 3
    · rw [hq]; exact hlamN p hp 4
    · rw [hq]; exact hWm p (by simp [hp])
    · rw [hq]; exact hNm p (by simp [hp])
    · rw [hq]; exact hlamN p hp 2
    · rw [hq]; exact hlamN p hp 1
    · rw [hq]; exact Nat.ne_of_lt (hltT p (by simp [hp]))
    · exact hlamT p hp q hq
  · obtain ⟨best, hbm, hbst, hgo, hgof, htok⟩ := found_ok hnl hnb hnd2 (tabs := tabs) (fun x hx => by
      (refine (let Gk : Prop := _; (?_ : Gk)))
      obtain ⟨a', ows, e1, e2, e3, _⟩ := htabs x hx
      ((show Gk); k_unfold; clear Gk)
      exact ⟨ows, e2, e3⟩) key ⟨hk0, hk1⟩
    refine ⟨best, fun h fa ofa kvf Nf hdf hkvf hLf => ?_, hgof⟩
    refine ⟨⟨?_, kvf, Heap.dictOf_iff.mpr ⟨ofa, (Nf _ (.tail _ (.head _))).1, hdf⟩, hkvf.flat⟩, Heap.dictOf_iff.mpr ⟨otb', (Nf _ (.head _)).1, hd12⟩, farD_keys _ _, by rw [List.length_map, hnl]; decide, fun x hx => ⟨?_, ?_, ?_⟩, fun x hx => ?_, htok, hbm, hbst, hgo⟩
    · exact beq_eq_false_iff_ne.mpr (Nat.ne_of_gt (Nat.lt_trans (Nat.lt_of_lt_of_le hmod hLab) hLf))
    · (refine (let Gk : Prop := _; (?_ : Gk)))
      obtain ⟨y, _, rfl⟩ := List.mem_map.mp hx
      ((show Gk); k_unfold; clear Gk)
      exact way_plain y
    · (refine (let Gk : Prop := _; (?_ : Gk)))
      obtain ⟨y, _, rfl⟩ := List.mem_map.mp hx
      ((show Gk); k_unfold; clear Gk)
      unfold wayOf
      rw [path_len]
      simp [digs]
    · unfold kdpHas
      rw [List.any_eq_true]
      rw [← farD_keys key] at hx
      (refine (let Gk : Prop := _; (?_ : Gk)))
      obtain ⟨q, hq, rfl⟩ := List.mem_map.mp hx
      ((show Gk); k_unfold; clear Gk)
      exact ⟨q, hq, by simp⟩
    · (refine (let Gk : Prop := _; (?_ : Gk)))
      obtain ⟨a', ows, e1, _, _, e4⟩ := htabs x hx
      ((show Gk); k_unfold; clear Gk)
      exact ⟨a', e1, e4.obj (news_sub Nf (fun p hp => .tail _ (.tail _ hp)))⟩
  clear F12 N12
  try dsimp only
  have hT13 : ∃ ps, h13.get? 323 = some (tabObj ps) := by
    rcases hlam13 with rfl | ⟨c', oc, vs, t, rfl, _, _⟩
    · exact ⟨_, (N13 _ (.head _)).1⟩
    · exact ⟨_, (N13 _ (.tail _ (.head _))).1⟩
  have hK13 := F13.keep
  clear N13
  (repeat' (first | ((with_reducible show @ite Prop _ _ _ _); walk1) | (k_unfold; (try dsimp only)) | ((fail_if_success (with_reducible (refine Mine.stp 9 ?_ ?_; (focus ((repeat' constructor); done))))); (first | (k_end; wrow_close) | walk1 | (dsimp only; walk1))) | ((fail_if_success (with_reducible show wpAny _ _ _ _ _ _)); dsimp only [Mine.MyPost]) | (leave1; try dsimp only) | fail "no step"))
  exact hret _ _ hK13 hT13
end Mine
theorem Mine.off30 : True := by w_top off; trivial
namespace Mine
open PySem PySem.W PySem.Calls PyProof.Rows
theorem pick_ints {vs : List Value} {ns : List Int} (hi : IntsAre vs ns) (ws : List Value) (h : ∀ v ∈ ws, v ∈ vs) : ∃ ms, IntsAre ws ms := by
  induction ws with
  | nil => exact ⟨[], .nil⟩
  | cons v r ih =>
    obtain ⟨ms, hm⟩ := ih fun u hu => h u (.tail _ hu)
    (refine (let Gk : Prop := _; (?_ : Gk)))
    obtain ⟨i, hi1, e⟩ := List.getElem_of_mem (h v (.head _))
    have hx : ns[i]? = some (ns[i]'(by rw [← hi.length]; exact hi1)) := List.getElem?_eq_getElem _
    obtain ⟨t, et⟩ := ints_at hi hx
    rw [List.getElem?_eq_getElem hi1, e] at et
    ((show Gk); k_unfold; clear Gk)
    rw [Option.some.inj et]
    exact ⟨_, .cons _ _ hm⟩
theorem pick_some {vs : List Value} {ns : List Int} (hI : IntsAre vs ns) (lo hi st : Option Int) : ∃ us ms, slicePick vs.toArray lo hi st = List.toArray us ∧ IntsAre us ms ∧ ms.length ≤ ns.length := by
  have hm : ∀ v ∈ (slicePick vs.toArray lo hi st).toList, v ∈ vs := by
    intro v hv
    unfold slicePick at hv
    (refine (let Gk : Prop := _; (?_ : Gk)))
    obtain ⟨i, _, e⟩ := List.mem_filterMap.mp (by simpa using hv)
    ((show Gk); k_unfold; clear Gk)
    exact List.mem_of_getElem? e
  obtain ⟨ms, hms⟩ := pick_ints hI _ hm
  refine ⟨_, ms, (Array.toArray_toList).symm, hms, ?_⟩
  have q := slicePick_size_le vs.toArray lo hi st
  rw [← hms.length, ← hI.length, Array.length_toList]
  simpa using q
theorem with_hd3 {h₀ h : Heap} {L a1 : Addr} {o1 : Obj} {r : Led} {P : Prop} (_ : News h₀ L h ((a1, o1) :: r)) (k : ∀ a : Addr, a = a1 → P) : P := k a1 rfl
theorem sum_nonneg {l : List Int} (h : ∀ x ∈ l, 0 ≤ x) : 0 ≤ l.sum := by
  induction l with
  | nil => exact Int.le_refl _
  | cons a r ih =>
    rw [List.sum_cons]
    exact Int.add_nonneg (h a (.head _)) (ih fun x hx => h x (.tail _ hx))
noncomputable def lawScope : Scope := defScopeF (topStmtF 35)
noncomputable def lawComp : PySem.Expr := match nthStmtF (defBodyF (topStmtF 35)) 1 with | .Return (some (.Call _ (e :: _) _ _)) _ => e | _ => .Name "" ⟨0, 0, 0, 0⟩
theorem law_list {w : World} {p : Program} {loose : List Str} {mean : ExcName → Option Value} {mg mb : Str → Option Value} {base h₀ : Heap} {L fa : Addr} {cd : Value} {m : Str → Option Value} {s : Shared} {Q E : Value → Shared → Prop} {sl D0 : Addr} {oS oF : Obj} {vs : List Value} {ns : List Int} {rest : Led} {c0 c1 c2 c3 c4 c5 c6 c7 c8 : Int} {t0 t1 t2 t3 t4 t5 t6 t7 t8 : Tok}
    (B : Below callerA base [] h₀) (X : (hd.heap_39 w.params).In h₀) (T : Top p loose mean mg mb h₀)
    (F : Fr h₀ L s.heap m) (N : News h₀ L s.heap ((D0, { cls := .type "tuple", data := .seq #[.int c0 t0, .int c1 t1, .int c2 t2, .int c3 t3, .int c4 t4, .int c5 t5, .int c6 t6, .int c7 t7, .int c8 t8] }) :: (L + 1 + 1, oF) :: (L + 1, oS) :: rest))
    (hS : oS.data = Data.cell (some (.ref sl))) (hF : oF.data = Data.cell (some (.ref D0))) (hl : h₀.IsList sl vs.toArray) (hI : IntsAre vs ns) (hn : ns.length ≤ 63)
    (hc : ∀ x ∈ [c0, c1, c2, c3, c4, c5, c6, c7, c8], 0 ≤ x)
    (hret : ∀ D us ms h' tk, IntsAre us ms → ms.length = 9 → (∀ x ∈ ms, 0 ≤ x) → Fr h₀ L h' m → News h₀ L h' ((D, LCg.lst us) :: (L + 1 + 1, oF) :: (L + 1, oS) :: rest) → LCg.Off1 D ((L + 1 + 1, oF) :: (L + 1, oS) :: rest) → Q (.ref D) { s with heap := h', toks := tk }) :
    wpAny (model PySem.Challenge.pw_rt0090_01 w) (callerA.deeper (envOfC "law" lawScope L fa cd)) (eval lawComp (envOfC "law" lawScope L fa cd)) Q E s := by
  revert B X T F N hS hF hl hI hn hc hret
  revert w p loose mean mg mb base h₀ L fa cd m s Q E sl D0 oS oF vs ns rest c0 c1 c2 c3 c4 c5 c6 c7 c8 t0 t1 t2 t3 t4 t5 t6 t7 t8
  refine' no_implicit_lambda% (Mine.hk40 ?ne ?_)
  case ne => (repeat' (first | (refine Mine.nePair ?_ ?_) | exact Mine.neWorld | exact Mine.neAround | exact Mine.neShared | infer_instance))
  generalize Mine.A1 _ = w; generalize Mine.A2 _ = p; generalize Mine.A3 _ = loose; generalize Mine.A4 _ = mean; generalize Mine.A5 _ = mg; generalize Mine.A6 _ = mb; generalize Mine.A7 _ = base; generalize Mine.A8 _ = h₀; generalize Mine.A9 _ = L; generalize Mine.A10 _ = fa; generalize Mine.A11 _ = cd; generalize Mine.A12 _ = m; generalize Mine.A13 _ = s; generalize Mine.A14 _ = Q; generalize Mine.A15 _ = E; generalize Mine.A16 _ = sl; generalize Mine.A17 _ = D0; generalize Mine.A18 _ = oS; generalize Mine.A19 _ = oF; generalize Mine.A20 _ = vs; generalize Mine.A21 _ = ns; generalize Mine.A22 _ = rest; generalize Mine.A23 _ = c0; generalize Mine.A24 _ = c1; generalize Mine.A25 _ = c2; generalize Mine.A26 _ = c3; generalize Mine.A27 _ = c4; generalize Mine.A28 _ = c5; generalize Mine.A29 _ = c6; generalize Mine.A30 _ = c7; generalize Mine.A31 _ = c8; generalize Mine.A32 _ = t0; generalize Mine.A33 _ = t1; generalize Mine.A34 _ = t2; generalize Mine.A35 _ = t3; generalize Mine.A36 _ = t4; generalize Mine.A37 _ = t5; generalize Mine.A38 _ = t6; generalize Mine.A39 _ = t7; generalize Mine.A40 _ = t8
  intro uHk
  clear uHk
  intro B X T F N hS hF hl hI hn hc hret
  conv in (occs := *) lawScope => all_goals whnf
  conv in lawComp => whnf
  ((with_reducible rename News _ _ _ _ => Nz); (with_reducible rename Fr _ _ _ _ => Fz))
  (k_dflt (refine LCg.ListComp_U (F₀ := by k_asm) (by with_unfolding_all rfl) (by decide) (by rfl) (by decide) (by rfl) ?_))
  (repeat' (first | ((with_reducible show @ite Prop _ _ _ _); walk1) | (k_unfold; (try dsimp only)) | ((fail_if_success (with_reducible (refine Mine.stp 8 ?_ ?_; (focus ((repeat' constructor); done))))); (first | ((fail_if_success (with_reducible show @Exists _ _)); k_end; wrow_close) | walk1 | (dsimp only; walk1))) | ((fail_if_success (with_reducible show wpAny _ _ _ _ _ _)); dsimp only [Mine.MyPost]) | (leave1; try dsimp only) | fail "no step"))
  (k_dflt (refine LCg.CompSrc.range (by rfl) (by k_asm) (by k_asm) (by assumption) (by first | decide | rfl) (by first | rfl | decide) (by first | size_fits | exact Nat.le_of_ble_eq_true rfl) ?_))
  intro g
  refine compRest_of 9 (fun i ys news => news = (D0, { cls := .type "tuple", data := .seq #[.int c0 t0, .int c1 t1, .int c2 t2, .int c3 t3, .int c4 t4, .int c5 t5, .int c6 t6, .int c7 t7, .int c8 t8] }) :: (L + 1 + 1, oF) :: (L + 1, oS) :: rest ∧ ∃ ns, IntsAre ys ns ∧ ns.length = i ∧ ∀ x ∈ ns, 0 ≤ x) ?_ ?_ 9 0 [] _ rfl ⟨rfl, [], .nil, rfl, fun _ h => nomatch h⟩
  · intro i ys news hi hJ60 v I oI C oC D m₂ h tk E' hP hC hx2 F2 N2 off ne
    (refine (let Gk : Prop := _; (?_ : Gk)))
    obtain ⟨rfl, ns', hys, hnl, hnn⟩ := hJ60
    obtain ⟨t0', rfl⟩ := hP
    have off' := off
    (try simp only [LCg.Off3, and_true] at off)
    ((show Gk); k_unfold; clear Gk)
    show wpAny _ _ _ _ _ { heap := h, gens := s.gens, drawn := s.drawn, toks := tk, os := s.os }
    (try k_fold)
    (repeat' (first | ((with_reducible show @ite Prop _ _ _ _); walk1) | (k_unfold; (try dsimp only)) | ((fail_if_success (with_reducible (refine Mine.stp 8 ?_ ?_; (focus ((repeat' constructor); done))))); (first | ((fail_if_success (with_reducible show @Exists _ _)); k_end; wrow_close) | walk1 | (dsimp only; walk1))) | ((fail_if_success (with_reducible show wpAny _ _ _ _ _ _)); dsimp only [Mine.MyPost]) | (leave1; try dsimp only) | fail "no step"))
    (k_dflt (refine LCg.ListComp_U (F₀ := by k_asm) (by with_unfolding_all rfl) (by decide) (by rfl) (by decide) (by rfl) ?_))
    (repeat' (first | ((with_reducible show @ite Prop _ _ _ _); walk1) | (k_unfold; (try dsimp only)) | ((fail_if_success (with_reducible (refine Mine.stp 8 ?_ ?_; (focus ((repeat' constructor); done))))); (first | ((fail_if_success (with_reducible show @Exists _ _)); k_end; wrow_close) | walk1 | (dsimp only; walk1))) | ((fail_if_success (with_reducible show wpAny _ _ _ _ _ _)); dsimp only [Mine.MyPost]) | (leave1; try dsimp only) | fail "no step"))
    ((with_reducible rename News _ _ _ _ => Nz); (with_reducible rename Fr _ _ _ _ => Fz))
    rename IntsAre _ (List.take 60 ns) => hI1
    refine with_hd3 Nz fun D9 e9 => ?_
    rw [← e9] at Nz
    (refine (let Gk : Prop := _; (?_ : Gk)))
    obtain ⟨us, ms, hp, hms, hml⟩ := pick_some hI1 (some (0 + (i : Int))) none (some 9)
    rw [hp] at Nz
    have hml2 : ms.length ≤ 63 := by rw [List.length_take] at hml; lia
    ((show Gk); k_unfold; clear Gk)
    refine LCg.CompSrc.ledger (k := 0) rfl Fz (news := _) Nz (its := us.toArray) (by rw [← e9]; exact .head _) (by rw [sizeLine_eq]; simp [hms.length]; lia) (fun g => ?_)
    dsimp only at e9
    clear hp
    clear Fz Nz
    refine compRest_of us.toArray.size (fun j zs news => news = _ ∧ ∃ ns, IntsAre zs ns ∧ ns.length = j ∧ ∀ x ∈ ns, 0 ≤ x) ?_ ?_ _ 0 [] _ (Nat.zero_add _) ⟨rfl, [], .nil, rfl, fun _ h => nomatch h⟩
    · intro j zs news hj hJ61 v I' oI' C' oC' D' m' h3 tk3 E3 hP3 hC3 hx3 F3 N3 off3 ne3
      (refine (let Gk : Prop := _; (?_ : Gk)))
      obtain ⟨rfl, ns2, hzs, hnl2, hnn2⟩ := hJ61
      obtain ⟨x, tx, rfl, hx⟩ := IntsAre.at hms j v (by simpa using hP3)
      have off3' := off3
      (try simp only [LCg.Off3, and_true] at off3)
      ((show Gk); k_unfold; clear Gk)
      show wpAny _ _ _ _ _ { heap := h3, gens := s.gens, drawn := s.drawn, toks := tk3, os := s.os }
      (try k_fold)
      (repeat' (first | ((with_reducible show @ite Prop _ _ _ _); walk1) | (k_unfold; (try dsimp only)) | ((fail_if_success (with_reducible (refine Mine.stp 8 ?_ ?_; (focus ((repeat' constructor); done))))); (first | ((fail_if_success (with_reducible show @Exists _ _)); k_end; wrow_close) | walk1 | (dsimp only; walk1))) | ((fail_if_success (with_reducible show wpAny _ _ _ _ _ _)); dsimp only [Mine.MyPost]) | (leave1; try dsimp only) | fail "no step"))
      ((with_reducible rename News _ _ _ _ => Nz); (with_reducible rename Fr _ _ _ _ => Fz))
      refine ⟨_, _, _, rfl, Fz, news_sub Nz (by (intro pₘ hpₘ; (repeat (rcases List.mem_cons.mp hpₘ with hqₘ | hpₘ; (focus (rw [hqₘ]; k_mem)))); (repeat (first | exact hpₘ | apply List.mem_cons_of_mem)))), off3', .inr ⟨_, List.mem_cons.mpr (.inl (Prod.ext e9.symm rfl)), rfl, _, rfl⟩, rfl, ns2 ++ [x.fmod 1000003 + 1], hzs.append (.cons _ _ .nil), by rw [List.length_append, hnl2]; rfl, fun z hz => ?_⟩
      rcases List.mem_append.mp hz with hz | hz
      · exact hnn2 z hz
      · rw [List.mem_singleton.mp hz, Int.fmod_eq_emod_of_nonneg _ (by decide)]
        have := Int.emod_nonneg x (show (1000003 : Int) ≠ 0 by decide)
        lia
    · intro zs news hJ62 D3 h3 tk3 F3 N3 off3
      (refine (let Gk : Prop := _; (?_ : Gk)))
      obtain ⟨rfl, ns2, hzs, _, hnn2⟩ := hJ62
      ((show Gk); k_unfold; clear Gk)
      show wpAny _ _ _ _ _ { heap := h3, gens := s.gens, drawn := s.drawn, toks := tk3, os := s.os }
      (try k_fold)
      (repeat' (first | ((with_reducible show @ite Prop _ _ _ _); walk1) | (k_unfold; (try dsimp only)) | ((fail_if_success (with_reducible (refine Mine.stp 8 ?_ ?_; (focus ((repeat' constructor); done))))); (first | ((fail_if_success (with_reducible show @Exists _ _)); k_end; wrow_close) | walk1 | (dsimp only; walk1))) | ((fail_if_success (with_reducible show wpAny _ _ _ _ _ _)); dsimp only [Mine.MyPost]) | (leave1; try dsimp only) | fail "no step"))
      ((with_reducible rename News _ _ _ _ => Nz); (with_reducible rename Fr _ _ _ _ => Fz))
      refine sumK (by rfl) Fz Nz (lst_is (News.get Nz (by k_mem))) hzs ?_
      intro h9 tk9 t9 F9 N9
      clear Fz Nz
      (repeat' (first | ((with_reducible show @ite Prop _ _ _ _); walk1) | (k_unfold; (try dsimp only)) | ((fail_if_success (with_reducible (refine Mine.stp 8 ?_ ?_; (focus ((repeat' constructor); done))))); (first | ((fail_if_success (with_reducible show @Exists _ _)); k_end; wrow_close) | walk1 | (dsimp only; walk1))) | ((fail_if_success (with_reducible show wpAny _ _ _ _ _ _)); dsimp only [Mine.MyPost]) | (leave1; try dsimp only) | fail "no step"))
      ((with_reducible rename News _ _ _ _ => Nz); (with_reducible rename Fr _ _ _ _ => Fz))
      refine ⟨_, _, _, rfl, Fz, news_sub Nz (by (intro pₘ hpₘ; (repeat (rcases List.mem_cons.mp hpₘ with hqₘ | hpₘ; (focus (rw [hqₘ]; k_mem)))); (repeat (first | exact hpₘ | apply List.mem_cons_of_mem)))), off', trivial, rfl, ns' ++ [_], hys.append (.cons _ _ .nil), by rw [List.length_append, hnl]; rfl, fun z hz => ?_⟩
      rcases List.mem_append.mp hz with hz | hz
      · exact hnn z hz
      · rw [List.mem_singleton.mp hz]
        have h1 := sum_nonneg hnn2
        have h2 : 0 ≤ [c0, c1, c2, c3, c4, c5, c6, c7, c8].getD (0 + (i : Int)).toNat 0 := by
          rw [List.getD_eq_getElem?_getD]
          cases e : [c0, c1, c2, c3, c4, c5, c6, c7, c8][(0 + (i : Int)).toNat]? with
          | none => exact Int.le_refl _
          | some z => exact hc z (List.mem_of_getElem? e)
        lia
  · intro ys news hJ63 D h tk F2 N2 o1'
    (refine (let Gk : Prop := _; (?_ : Gk)))
    obtain ⟨rfl, ns', hys, hnl, hnn⟩ := hJ63
    ((show Gk); k_unfold; clear Gk)
    refine hret D ys ns' h tk hys hnl hnn F2 (news_sub N2 (by (intro pₘ hpₘ; (repeat (rcases List.mem_cons.mp hpₘ with hqₘ | hpₘ; (focus (rw [hqₘ]; k_mem)))); (repeat (first | exact hpₘ | apply List.mem_cons_of_mem))))) o1'.2
end Mine
theorem Mine.off31 : True := by w_top off; trivial
namespace Mine
open PySem PySem.W PySem.Calls PyProof.Rows
theorem ints_cons {us : List Value} {ms : List Int} {n : Nat} (h : IntsAre us ms) (hl : ms.length = n + 1) : ∃ c t us' ms', us = .int c t :: us' ∧ ms = c :: ms' ∧ IntsAre us' ms' ∧ ms'.length = n := by
  cases h with
  | nil => cases hl
  | cons x t h => exact ⟨_, _, _, _, rfl, rfl, h, by simpa using hl⟩
theorem ints_nil {us : List Value} {ms : List Int} (h : IntsAre us ms) (hl : ms.length = 0) : us = [] := by
  cases h with
  | nil => rfl
  | cons x t h => cases hl
end Mine
set_option maxRecDepth 100000 in
set_option maxHeartbeats 8000000 in
theorem PySem.Challenge.cw_rt0090_01_holds : PySem.Challenge.rw_rt0090_01.Holds := by
  exact hd (by
  k_go0
  all_goals (try k_fold)
  (repeat' (first | ((with_reducible show @ite Prop _ _ _ _); walk1) | (k_unfold; (try dsimp only)) | ((fail_if_success (with_reducible (refine Mine.stp 9 ?_ ?_; (focus ((repeat' constructor); done))))); (first | (k_end; wrow_close) | walk1 | (dsimp only; walk1))) | ((fail_if_success (with_reducible show wpAny _ _ _ _ _ _)); dsimp only [Mine.MyPost]) | (leave1; try dsimp only) | fail "no step"))
  ((with_reducible rename News _ _ _ _ => Nz); (with_reducible rename Fr _ _ _ _ => Fz))
  refine Mine.law_list (by assumption) (by assumption) (by assumption) Fz Nz (by assumption) (by assumption) (by assumption) (by assumption) (by lia) (by decide) (fun D us ms h9 tk9 hus hml hnn F9 N9 o9 => ?_)
  clear Fz Nz
  (refine (let Gk : Prop := _; (?_ : Gk)))
  obtain ⟨c0, t0, us, ms, rfl, rfl, hus, hml⟩ := Mine.ints_cons hus hml
  obtain ⟨c1, t1, us, ms, rfl, rfl, hus, hml⟩ := Mine.ints_cons hus hml
  obtain ⟨c2, t2, us, ms, rfl, rfl, hus, hml⟩ := Mine.ints_cons hus hml
  obtain ⟨c3, t3, us, ms, rfl, rfl, hus, hml⟩ := Mine.ints_cons hus hml
  obtain ⟨c4, t4, us, ms, rfl, rfl, hus, hml⟩ := Mine.ints_cons hus hml
  obtain ⟨c5, t5, us, ms, rfl, rfl, hus, hml⟩ := Mine.ints_cons hus hml
  obtain ⟨c6, t6, us, ms, rfl, rfl, hus, hml⟩ := Mine.ints_cons hus hml
  obtain ⟨c7, t7, us, ms, rfl, rfl, hus, hml⟩ := Mine.ints_cons hus hml
  obtain ⟨c8, t8, us, ms, rfl, rfl, hus, hml⟩ := Mine.ints_cons hus hml
  obtain rfl := Mine.ints_nil hus hml
  ((show Gk); k_unfold; clear Gk)
  try dsimp only
  walk1
  walk1
  have hsub : News _ _ h9 [(323, tabObj #[])] := Mine.news_sub N9 (fun p hp => by rw [List.mem_singleton.mp hp]; k_mem)
  refine Mine.c_run _ _ D c0 c1 c2 c3 c4 c5 c6 c7 c8 t0 t1 t2 t3 t4 t5 t6 t7 t8 _ (hnn _ (by simp)) (hnn _ (by simp)) (hnn _ (by simp)) (hnn _ (by simp)) (hnn _ (by simp)) (hnn _ (by simp)) (N9 _ (.head _)).1 (.inl rfl) (by assumption) F9 (by assumption) (by assumption) rfl (by k_room) (by k_units) codeHd hsub (fun h' tk' hK hT => ?_)
  have hK2 : ∀ b o, (ghostOf _ [(327, 323)]).get? b = some o → h'.get? b = some o := fun b o e => hK b o (hideAll_get _ (F9.keep _ _ e) (fun hm => by
    rw [List.mem_singleton.mp hm] at e
    have e2 := (hsub _ (.head _)).2.2
    rw [e] at e2
    cases e2))
  exact ⟨⟨.inl ⟨.bool true, .bool true, [], rfl, fun _ => rfl, .bool true, by wrow_post, unshared_nil⟩, hK2, rfl, by assumption⟩, hT, trivial⟩)
