import PyProof.Rows.All
import Wide.All
import OpenK.AllK
import Wide.FinOn
import Lean
import PySem.Challenge.RW_tl0003_01
set_option Elab.async false
set_option maxRecDepth 100000
set_option maxHeartbeats 20000000
set_option linter.unusedVariables false

section
open Lean PySem PySem.W PyProof.Rows
namespace Mine
def rr : OpenRow := PySem.Challenge.rw_tl0003_01.row
def prg : Program := rr.toRowW.prog
def vw : Program := view prg [0, 2, 3, 5, 6, 7, 9, 11, 12, 13, 14, 15, 16, 17, 18]
def topS (i : Nat) : Stmt := (PySem.Challenge.pw_tl0003_01.main.body[i]?).getD (.Pass default)
def clsS (i : Nat) : Stmt := match topS 9 with | .ClassDef _ _ _ b _ _ _ _ _ _ _ => (b[i]?).getD (.Pass default) | s => s
def fnO (s : Stmt) (qual md : String) (t code : Nat) : Obj := match s with
  | .FunctionDef n a b _ _ _ sc _ _ _ => ⟨.type "function", none, .func { name := n, qualname := PySem.Str.ofString qual, params := a, body := .stmts b, scope := sc, globals := 3, closure := [], defaults := .none, kwdefaults := .none, pyModule := .str (PySem.Str.ofString md) t, code := .ref code }, #[]⟩
  | _ => ⟨.none, none, .plain, #[]⟩
def st (s : String) (t : Nat) : Value := .str (PySem.Str.ofString s) t
def en (P : Params) (s : String) (t : Nat) (v : Value) : DictEntry := ⟨PyData.keyHash P (PySem.Str.ofString s), st s t, v⟩
def heapK (P : Params) : Frag := [
  (2, ⟨.none, none, (.dict #[en P "type.__subclasses__.Exception.0" 236 (.int 45 0), en P "type.__subclasses__.Exception.n" 237 (.int 1 0)] 2), #[]⟩),
  (3, ⟨(.type "dict"), none, (.dict #[en P "__name__" 165 (st "law_tl0003_01" 327), en P "__doc__" 166 .none, en P "__package__" 167 .none, en P "__loader__" 168 (.builtin "__main__.__loader__#opaque"), en P "__spec__" 169 .none, en P "__annotations__" 170 (.ref 6), en P "__builtins__" 171 (.ref 4), en P "__file__" 173 (st "/claim/cut.py" 172), en P "__cached__" 174 .none, en P "_wall" 193 (.ref 21), en P "_iter_escaped_chars" 205 (.ref 28), en P "_strip_quoted_realnames" 217 (.ref 35), en P "Error" 239 (.ref 45), en P "error_reply" 255 (.ref 58), en P "parse257" 266 (.ref 67), en P "_netrclex" 326 (.ref 105), en P "_law_sign" 335 (.ref 116), en P "_law_laid_over" 343 (.ref 123), en P "_law_word" 355 (.ref 130), en P "_law_hidden" 365 (.ref 137), en P "_law_counts" 382 (.ref 144), en P "_law_outside" 388 (.ref 149), en P "_law_taken" 394 (.ref 154), en P "law" 400 (.ref 159)] 24), #[]⟩),
  (27, ⟨(.type "code"), none, (.fields #[st "_iter_escaped_chars" 196, st "_iter_escaped_chars" 197, st "/claim/cut.py" 198, (.int 5 0), (.int 1 0), (.int 0 0), (.int 0 0), (.int 35 0), (.ref 22), (.bool true), (.int 181 0), (.ref 23), .none, (.ref 24), (.ref 25), (.ref 26), (.int 203 0), (.int 5 0), st "/claim/cut.py" 204]), #[]⟩),
  (28, fnO (topS 2) "_iter_escaped_chars" "cpy313.email.utils" 194 27),
  (34, ⟨(.type "code"), none, (.fields #[st "_strip_quoted_realnames" 206, st "_strip_quoted_realnames" 207, st "/claim/cut.py" 208, (.int 18 0), (.int 1 0), (.int 0 0), (.int 0 0), (.int 3 0), (.ref 29), (.bool true), (.int 181 0), (.ref 30), .none, (.ref 31), (.ref 32), (.ref 33), (.int 215 0), (.int 18 0), st "/claim/cut.py" 216]), #[]⟩),
  (35, fnO (topS 3) "_strip_quoted_realnames" "cpy313.email.utils" 194 34),
  (66, ⟨(.type "code"), none, (.fields #[st "parse257" 256, st "parse257" 257, st "/claim/cut.py" 258, (.int 41 0), (.int 1 0), (.int 0 0), (.int 0 0), (.int 3 0), (.ref 61), (.bool true), (.int 181 0), (.ref 62), .none, (.ref 63), (.ref 64), (.ref 65), (.int 264 0), (.int 41 0), st "/claim/cut.py" 265]), #[]⟩),
  (67, fnO (topS 7) "parse257" "cpy313.ftplib" 218 66),
  (80, ⟨(.type "code"), none, (.fields #[st "__init__" 281, st "_netrclex.__init__" 282, st "/claim/cut.py" 283, (.int 61 0), (.int 2 0), (.int 0 0), (.int 0 0), (.int 3 0), (.ref 75), (.bool true), (.int 181 0), (.ref 76), .none, (.ref 77), (.ref 78), (.ref 79), (.int 286 0), (.int 61 0), st "/claim/cut.py" 287]), #[]⟩),
  (81, fnO (clsS 0) "_netrclex.__init__" "cpy313.netrc" 267 80),
  (87, ⟨(.type "code"), none, (.fields #[st "_read_char" 289, st "_netrclex._read_char" 290, st "/claim/cut.py" 291, (.int 67 0), (.int 1 0), (.int 0 0), (.int 0 0), (.int 3 0), (.ref 82), (.bool true), (.int 181 0), (.ref 83), .none, (.ref 84), (.ref 85), (.ref 86), (.int 294 0), (.int 67 0), st "/claim/cut.py" 295]), #[]⟩),
  (88, fnO (clsS 1) "_netrclex._read_char" "cpy313.netrc" 267 87),
  (94, ⟨(.type "code"), none, (.fields #[st "get_token" 297, st "_netrclex.get_token" 298, st "/claim/cut.py" 299, (.int 73 0), (.int 1 0), (.int 0 0), (.int 0 0), (.int 3 0), (.ref 89), (.bool true), (.int 181 0), (.ref 90), .none, (.ref 91), (.ref 92), (.ref 93), (.int 304 0), (.int 73 0), st "/claim/cut.py" 305]), #[]⟩),
  (95, fnO (clsS 2) "_netrclex.get_token" "cpy313.netrc" 267 94),
  (104, ⟨(.type "dict"), none, (.dict #[en P "__module__" 276 (st "cpy313.netrc" 267), en P "__firstlineno__" 280 (.int 59 279), en P "__init__" 288 (.ref 81), en P "_read_char" 296 (.ref 88), en P "get_token" 306 (.ref 95), en P "push_token" 314 (.ref 102), en P "__static_attributes__" 319 (.ref 103), en P "__dict__" 321 (.ref 106), en P "__weakref__" 323 (.ref 107), en P "__doc__" 324 .none] 4), #[]⟩),
  (105, ⟨(.type "type"), none, (.cls ⟨(PySem.Str.ofString "_netrclex"), [(.type "object")], [(.ref 105), (.type "object")], 104, (PySem.Str.ofString "_netrclex"), true, [], [], false, none, false⟩), #[none, none, (some (st "_netrclex" 269)), (some (st "_netrclex" 277)), (some (.builtin "object.__new__")), (some (.bool true))]⟩),
  (106, ⟨(.type "getset_descriptor"), none, (.fields #[(st "__dict__" 320), (.ref 105), (.builtin "function.__dict__"), (.builtin "function.__dict__#set")]), #[]⟩),
  (107, ⟨(.type "getset_descriptor"), none, (.fields #[(st "__weakref__" 322), (.ref 105), (.builtin "ExceptionGroup.__weakref__"), .none]), #[]⟩),
  (115, ⟨(.type "code"), none, (.fields #[st "_law_sign" 329, st "_law_sign" 330, st "/claim/cut.py" 331, (.int 103 0), (.int 1 0), (.int 0 0), (.int 0 0), (.int 3 0), (.ref 110), (.bool true), (.int 181 0), (.ref 111), .none, (.ref 112), (.ref 113), (.ref 114), (.int 333 0), (.int 103 0), st "/claim/cut.py" 334]), #[]⟩),
  (116, fnO (topS 11) "_law_sign" "law_tl0003_01" 327 115),
  (122, ⟨(.type "code"), none, (.fields #[st "_law_laid_over" 336, st "_law_laid_over" 337, st "/claim/cut.py" 338, (.int 105 0), (.int 2 0), (.int 0 0), (.int 0 0), (.int 3 0), (.ref 117), (.bool true), (.int 181 0), (.ref 118), .none, (.ref 119), (.ref 120), (.ref 121), (.int 341 0), (.int 105 0), st "/claim/cut.py" 342]), #[]⟩),
  (123, fnO (topS 12) "_law_laid_over" "law_tl0003_01" 327 122),
  (129, ⟨(.type "code"), none, (.fields #[st "_law_word" 344, st "_law_word" 345, st "/claim/cut.py" 346, (.int 109 0), (.int 1 0), (.int 0 0), (.int 0 0), (.int 3 0), (.ref 124), (.bool true), (.int 181 0), (.ref 125), .none, (.ref 126), (.ref 127), (.ref 128), (.int 353 0), (.int 109 0), st "/claim/cut.py" 354]), #[]⟩),
  (130, fnO (topS 13) "_law_word" "law_tl0003_01" 327 129),
  (136, ⟨(.type "code"), none, (.fields #[st "_law_hidden" 356, st "_law_hidden" 357, st "/claim/cut.py" 358, (.int 119 0), (.int 1 0), (.int 0 0), (.int 0 0), (.int 3 0), (.ref 131), (.bool true), (.int 181 0), (.ref 132), .none, (.ref 133), (.ref 134), (.ref 135), (.int 363 0), (.int 119 0), st "/claim/cut.py" 364]), #[]⟩),
  (137, fnO (topS 14) "_law_hidden" "law_tl0003_01" 327 136),
  (143, ⟨(.type "code"), none, (.fields #[st "_law_counts" 366, st "_law_counts" 367, st "/claim/cut.py" 368, (.int 126 0), (.int 2 0), (.int 0 0), (.int 0 0), (.int 3 0), (.ref 138), (.bool true), (.int 181 0), (.ref 139), .none, (.ref 140), (.ref 141), (.ref 142), (.int 380 0), (.int 126 0), st "/claim/cut.py" 381]), #[]⟩),
  (144, fnO (topS 15) "_law_counts" "law_tl0003_01" 327 143),
  (148, ⟨(.type "code"), none, (.fields #[st "_law_outside" 383, st "_law_outside" 384, st "/claim/cut.py" 385, (.int 139 0), (.int 1 0), (.int 0 0), (.int 0 0), (.int 3 0), (.ref 145), (.bool true), (.int 181 0), (.ref 146), .none, .none, .none, (.ref 147), (.int 386 0), (.int 139 0), st "/claim/cut.py" 387]), #[]⟩),
  (149, fnO (topS 16) "_law_outside" "law_tl0003_01" 327 148),
  (153, ⟨(.type "code"), none, (.fields #[st "_law_taken" 389, st "_law_taken" 390, st "/claim/cut.py" 391, (.int 146 0), (.int 2 0), (.int 0 0), (.int 0 0), (.int 3 0), (.ref 150), (.bool true), (.int 181 0), (.ref 151), .none, .none, .none, (.ref 152), (.int 392 0), (.int 146 0), st "/claim/cut.py" 393]), #[]⟩),
  (154, fnO (topS 17) "_law_taken" "law_tl0003_01" 327 153),
  (158, ⟨(.type "code"), none, (.fields #[st "law" 395, st "law" 396, st "/claim/cut.py" 397, (.int 166 0), (.int 1 0), (.int 0 0), (.int 0 0), (.int 3 0), (.ref 155), (.bool true), (.int 181 0), (.ref 156), .none, .none, .none, (.ref 157), (.int 398 0), (.int 166 0), st "/claim/cut.py" 399]), #[]⟩),
  (159, fnO (topS 18) "law" "law_tl0003_01" 327 158)]
def hA : List Addr := [2, 3, 27, 28, 34, 35, 66, 67, 80, 81, 87, 88, 94, 95, 104, 105, 106, 107, 115, 116, 122, 123, 129, 130, 136, 137, 143, 144, 148, 149, 153, 154, 158, 159]
theorem hKA (P : Params) : hA = (heapK P).map (·.1) := by kernel_rfl!
def hH : Hook := kmHook heapK hA hKA [125]
theorem left_of {p q : Program} {loose : List PySem.Str} {Xt : Shared → Bool} {α : Type} {Yf : Shared → α} {Ya : World → α} {N : Nat} {g0 : Bool} {H₀ : Params → Heap} {gs₀ : Array GenState} {d₀ : Drawn} {k₀ : Nat}
    (open_ : ∀ w : World, (fencedOpening treeTable p w N).map (fun s => (s.heap, s.gens, s.drawn, s.toks)) = some (H₀ w.params, gs₀, d₀, k₀))
    (run : ∀ (w : World) (os : OsState), (topFrom treeTable p w N ⟨H₀ w.params, gs₀, d₀, k₀, os⟩).map (fun s => (openSeen q loose (importedModules p.main.body) Xt g0 s, Yf s)) = some (openGood q loose, Ya w)) : LeftO p q loose Xt Yf Ya N g0 := fun w => by
  unfold openEnds
  have eo := open_ w
  generalize fencedOpening treeTable p w N = z at eo ⊢
  cases z with
  | none => cases eo
  | some z =>
    obtain ⟨h, gs, d, k, os⟩ := z
    cases eo
    exact run w os
def hXt (s : Shared) : Bool := xlAt vw [] s && recOk rr.toRowW.records s
theorem h_open : opening prg = plainProg prg.main.scope.names := by kernel_rfl!
theorem h_fence (s : Shared) : fenceModules? prg s = some s := by kernel_rfl!
theorem h_left : LeftO prg vw [] hXt hH.obs hH.val 2402 := left_of (boot_open h_open (by decide +kernel) h_fence) fun w os => by
  unfold topFrom
  rw [PySem.W.Fast.te14082659384304107361, PySem.W.Fast.te14364793385576792824, PySem.W.Fast.te4187177175401517315]
  kernel_rfl!
theorem h_said : PySem.Challenge.rw_tl0003_01.wellSaid = true := by
  rw [PySem.W.Fast.te9446332074065402090]
  kernel_rfl!
def dk : DefRec × List (PySem.Str × PySem.Expr) := match defOf vw rr.name with | some x => x | none => (⟨PySem.Str.ofString "", ⟨[], [], none, [], [], none, []⟩, [], default, default⟩, [])
theorem h_wit : rr.toRowW.promised := by w_witness2
theorem hd (walk : WalkO vw [] (XL vw []) hH.says rr.toRowW dk.1 dk.2 fun f vs => PySem.call f vs) : PySem.Challenge.rw_tl0003_01.Holds :=
  holds_law h_said fun said => holds_open (r := rr) (q := vw) (loose := []) (Xt := hXt) (XP := XL vw []) (Yf := hH.obs) (Ya := hH.val) (YP := hH.says) (N := 2402)
    h_left hH.of hH.keeps (fun s e => xl_of s (Bool.and_eq_true_iff.mp e).1) XL.keeps (by kernel_rfl!) (by kernel_rfl!) (by kernel_rfl!)
    (fun s e => recFacts_of (Bool.and_eq_true_iff.mp e).2) (by decide +kernel) said (by decide +kernel) ⟨rfl, rfl, rfl, rfl, rfl, by decide +kernel⟩ h_wit walk
end Mine

end

section
open Lean PySem PySem.W PySem.W.X PySem.Calls
namespace Mine
theorem den_eq (c : Code) : denote table c = ZFast.zw11892475500146522536 ZFast.tableZ c := by
  rw [← ZFast.tableZ_eq, ← ZFast.ze11892475500146522536]
theorem kGet {K : Frag} {h : Heap} (X : K.In h) {a : Addr} {o : Obj} (e : K.lookup a = some o) : h.get? a = some o := X a o e

def Same {α : Sort _} (a b : α) : Prop := a = b
theorem same_rfl {α : Sort _} {a : α} : Same a a := rfl
theorem same_cong {α : Type} {β : Type} {f : Sem α → β} {a b : Sem α} (h : Same a b) : Same (f a) (f b) := congrArg f h
theorem same_rec {α : Type} {γ : Type} {a b : Sem α} {m0} {m1} {m2} {m3} {m4} {m5} {m6} {m7} {m8} {m9} {m10} {m11} {m12} {m13} {m14} {m15} {m16} {m17} {m18} {m19} {m20} {m21} {m22} {m23} {m24} {m25} (h : Same a b) : Same (@Sem.rec α (fun _ => γ) m0 m1 m2 m3 m4 m5 m6 m7 m8 m9 m10 m11 m12 m13 m14 m15 m16 m17 m18 m19 m20 m21 m22 m23 m24 m25 a) (@Sem.rec α (fun _ => γ) m0 m1 m2 m3 m4 m5 m6 m7 m8 m9 m10 m11 m12 m13 m14 m15 m16 m17 m18 m19 m20 m21 m22 m23 m24 m25 b) := congrArg (@Sem.rec α (fun _ => γ) m0 m1 m2 m3 m4 m5 m6 m7 m8 m9 m10 m11 m12 m13 m14 m15 m16 m17 m18 m19 m20 m21 m22 m23 m24 m25) h
theorem same_bool {α : Type} {b : Bool} {x y z : α} (hx : Same x z) (hy : Same y z) : Same (@Bool.rec (fun _ => α) y x b) z := by cases b with
  | true => exact hx
  | false => exact hy
theorem same_ifT {α : Type} {b : Bool} {x y : α} (h : b = true) : Same (@Bool.rec (fun _ => α) y x b) x := by subst h; exact same_rfl
theorem same_ifF {α : Type} {b : Bool} {x y : α} (h : b = false) : Same (@Bool.rec (fun _ => α) y x b) y := by subst h; exact same_rfl
theorem same_condFn {α : Type} {b : Bool} {x y z : α} (hx : Same x z) (hy : Same y z) : Same (X.condFn α b x y) z := by cases b with
  | true => exact hx
  | false => exact hy
theorem same_cnndFn {α : Type} {b : Bool} {x y z : α} (hx : Same x z) (hy : Same y z) : Same (X.cnndFn α b y x) z := by cases b with
  | true => exact hx
  | false => exact hy
-- normal forms
theorem n_nil {α : Type} {l : List α} (h : l = []) : l = [] := h
theorem n_cons {α : Type} {l t t' : List α} {a a' : α} (h : l = a :: t) (ha : a = a') (ht : t = t') : l = a' :: t' := by rw [h, ha, ht]
theorem n_entry {e : DictEntry} {a a' : Int} {k k' v v' : Value} (h : e = ⟨a, k, v⟩) (ha : a = a') (hk : k = k') (hv : v = v') : e = ⟨a', k', v'⟩ := by rw [h, ha, hk, hv]
theorem n_dict {o : Obj} {c : Value} {d : Option Addr} {es es' : List DictEntry} {n : Nat} {sl : Array (Option Value)} (h : o = ⟨c, d, .dict ⟨es⟩ n, sl⟩) (he : es = es') : o = ⟨c, d, .dict ⟨es'⟩ n, sl⟩ := by rw [h, he]
theorem n_seq {o : Obj} {c : Value} {d : Option Addr} {es es' : List Value} {n : Nat} {sl : Array (Option Value)} (h : o = ⟨c, d, .seq ⟨es⟩ n, sl⟩) (he : es = es') : o = ⟨c, d, .seq ⟨es'⟩ n, sl⟩ := by rw [h, he]
theorem n_fields {o : Obj} {c : Value} {d : Option Addr} {es es' : List Value} {sl : Array (Option Value)} (h : o = ⟨c, d, .fields ⟨es⟩, sl⟩) (he : es = es') : o = ⟨c, d, .fields ⟨es'⟩, sl⟩ := by rw [h, he]
theorem n_cell {o : Obj} {c : Value} {d : Option Addr} {v v' : Value} {sl : Array (Option Value)} (h : o = ⟨c, d, .cell (some v), sl⟩) (he : v = v') : o = ⟨c, d, .cell (some v'), sl⟩ := by rw [h, he]
theorem n_cell0 {o : Obj} {c : Value} {d : Option Addr} {sl : Array (Option Value)} (h : o = ⟨c, d, .cell none, sl⟩) : o = ⟨c, d, .cell none, sl⟩ := h
theorem n_plain {o : Obj} {c : Value} {d : Option Addr} {sl : Array (Option Value)} (h : o = ⟨c, d, .plain, sl⟩) : o = ⟨c, d, .plain, sl⟩ := h
theorem n_condT {o : Obj} {c : Bool} {a b : String} {d : Option Addr} {es es' : List Value} {sl : Array (Option Value)} (h : o = ⟨.type (condFn String c a b), d, .fields ⟨es⟩, sl⟩) (hc : c = true) (he : es = es') : o = ⟨.type a, d, .fields ⟨es'⟩, sl⟩ := by subst hc; rw [h, he]; rfl
theorem n_condF {o : Obj} {c : Bool} {a b : String} {d : Option Addr} {es es' : List Value} {sl : Array (Option Value)} (h : o = ⟨.type (condFn String c a b), d, .fields ⟨es⟩, sl⟩) (hc : c = false) (he : es = es') : o = ⟨.type b, d, .fields ⟨es'⟩, sl⟩ := by subst hc; rw [h, he]; rfl
theorem n_any {o o' : Obj} (h : o = o') : o = o' := h

-- room
theorem r_units_under {A : Around} {n m : Nat} {c : Code} (h : A.units ≤ n) (e : c.cUnits ≤ m) : (A.under c).units ≤ n + m := Nat.add_le_add h e
theorem r_depth_under {A : Around} {n m : Nat} {c : Code} (h : A.depth ≤ n) (e : c.weight ≤ m) : (A.under c).depth ≤ n + m := Nat.add_le_add h e
theorem r_units_mark {A : Around} {n : Nat} {hd : Option Value} (h : A.units ≤ n) : (A.mark hd).units ≤ n := h
theorem r_depth_mark {A : Around} {n : Nat} {hd : Option Value} (h : A.depth ≤ n) : (A.mark hd).depth ≤ n := h

theorem d_call {A : Around} {n : Nat} {f : Value} {a : Args} (h : A.depth ≤ n) : (A.under (.call f a)).depth ≤ n := h
theorem d_func {A : Around} {n : Nat} {b : List PySem.Stmt} {e : Env} (h : A.depth ≤ n) : (A.under (.func b e)).depth ≤ n + 1 := Nat.add_le_add_right h 1
theorem d_for {A : Around} {n : Nat} {x : PySem.Expr} {i : Value} {b o : List Stmt} {e : Env} (h : A.depth ≤ n) : (A.under (.forLoop x i b o e)).depth ≤ n := h
theorem d_while {A : Around} {n : Nat} {x : PySem.Expr} {b o : List Stmt} {e : Env} (h : A.depth ≤ n) : (A.under (.whileLoop x b o e)).depth ≤ n := h
theorem d_builtin {A : Around} {n : Nat} {id : String} {a : Args} (h : A.depth ≤ n) (p : plainId id = true) : (A.under (.builtin id a)).depth ≤ n := by rw [Around.under_plainId p]; exact h
theorem u_call {A : Around} {n : Nat} {f : Value} {a : Args} (h : A.units ≤ n) : (A.under (.call f a)).units ≤ n + 1 := Nat.add_le_add_right h 1
theorem u_func {A : Around} {n : Nat} {b : List PySem.Stmt} {e : Env} (h : A.units ≤ n) : (A.under (.func b e)).units ≤ n + 3 := Nat.add_le_add_right h 3
theorem u_for {A : Around} {n : Nat} {x : PySem.Expr} {i : Value} {b o : List Stmt} {e : Env} (h : A.units ≤ n) : (A.under (.forLoop x i b o e)).units ≤ n := h
theorem u_while {A : Around} {n : Nat} {x : PySem.Expr} {b o : List Stmt} {e : Env} (h : A.units ≤ n) : (A.under (.whileLoop x b o e)).units ≤ n := h
theorem u_builtin {A : Around} {n : Nat} {id : String} {a : Args} (h : A.units ≤ n) (p : plainId id = true) : (A.under (.builtin id a)).units ≤ n + 1 := by rw [Around.under_plainId p]; exact Nat.add_le_add_right h 1
theorem f_near {A : Around} {st : List (Code × Pos)} {own : Nat} (l : Lies A st) (hd : A.depth < recursionLimit) : nearF st own recursionLimit = false := l.near' hd own
theorem f_over {A : Around} {st : List (Code × Pos)} {own : Nat} (l : Lies A st) (hd : A.depth < recursionLimit) : overF st own recursionLimit = false := l.over hd own
theorem f_warm {A : Around} {st : List (Code × Pos)} {own : Nat} (l : Lies A st) (hd : A.depth < recursionLimit) : warmF st own recursionLimit = false := l.warm hd own
theorem f_room {A : Around} {st : List (Code × Pos)} (l : Lies A st) (hu : A.units < cLine) : roomF st = false := l.room hu
theorem r_lt {n m k : Nat} (h : n ≤ m) (e : Nat.ble (m + 1) k = true) : n < k := Nat.lt_of_le_of_lt h (Nat.le_of_ble_eq_true e)
@[irreducible] def OW {α : Type} (M : Model) (A : Around) (c : Code) (t : Sem α) (Q : α → Shared → Prop) (E : Value → Shared → Prop) (s : Shared) : Prop := wpOwn M A c t Q E s
theorem ow_of {α : Type} {M : Model} {A : Around} {c : Code} {t : Sem α} {Q : α → Shared → Prop} {E : Value → Shared → Prop} {s : Shared} (h : wpOwn M A c t Q E s) : OW M A c t Q E s := by unfold OW; exact h
theorem of_ow {α : Type} {M : Model} {A : Around} {c : Code} {t : Sem α} {Q : α → Shared → Prop} {E : Value → Shared → Prop} {s : Shared} (h : OW M A c t Q E s) : wpOwn M A c t Q E s := by unfold OW at h; exact h
@[irreducible] def CA (M : Model) (A : Around) (c : Code) (R : Result → Shared → Prop) (s : Shared) : Prop := codeAny M A c R s
theorem ca_of {M : Model} {A : Around} {c : Code} {R : Result → Shared → Prop} {s : Shared} (h : codeAny M A c R s) : CA M A c R s := by unfold CA; exact h
theorem of_ca {M : Model} {A : Around} {c : Code} {R : Result → Shared → Prop} {s : Shared} (h : CA M A c R s) : codeAny M A c R s := by unfold CA at h; exact h
section
variable {α : Type} {prog : Program} {w : World} {A : Around} {c : Code} {Q : α → Shared → Prop} {E : Value → Shared → Prop} {s : Shared}
  {h₀ h : Heap} {chg news news' : List (Addr × Obj)} {g : Array GenState} {d : Drawn} {t : Nat} {os : OsState}
theorem o_eq {t t' : Sem α} (e : Same t t') (x : OW (model prog w) A c t' Q E s) : OW (model prog w) A c t Q E s := by rw [show t = t' from e]; exact x
theorem o_rule {tag : String} {k : Unit → Sem α} (x : OW (model prog w) A c (k ()) Q E s) : OW (model prog w) A c (.rule tag k) Q E s := ow_of (y_skim α prog w A c Q E s _ 1 (of_ow x))
theorem o_at {p : Pos} {k : Unit → Sem α} (x : OW (model prog w) A c (k ()) Q E s) : OW (model prog w) A c (.at p k) Q E s := ow_of (y_skim α prog w A c Q E s _ 1 (of_ow x))
theorem o_point {l : List Value} {k : Unit → Sem α} (x : OW (model prog w) A c (k ()) Q E s) : OW (model prog w) A c (.point l k) Q E s := ow_of (y_skim α prog w A c Q E s _ 1 (of_ow x))
theorem o_ask {k : Setting → Sem α} (x : OW (model prog w) A c (k ⟨prog, w.params⟩) Q E s) : OW (model prog w) A c (.ask k) Q E s := ow_of (y_skim α prog w A c Q E s _ 1 (of_ow x))
theorem o_load {a : Addr} {q : Option Value} {k : Obj → Sem α} {o : Obj} (ho : h.get? a = some o) (x : OW (model prog w) A c (k o) Q E ⟨h, g, d, t, os⟩) : OW (model prog w) A c (.load a q k) Q E ⟨h, g, d, t, os⟩ :=
  ow_of (y_load α prog w A c Q E h g d t os a q k o ho (of_ow x))
theorem o_alive {a : Addr} {k : Option Obj → Sem α} {o : Obj} (ho : h.get? a = some o) (x : OW (model prog w) A c (k (some o)) Q E ⟨h, g, d, t, os⟩) : OW (model prog w) A c (.loadIfAlive a k) Q E ⟨h, g, d, t, os⟩ :=
  ow_of (y_alive α prog w A c Q E h g d t os a k o ho (of_ow x))
theorem o_fresh {k : Tok → Sem α} (x : OW (model prog w) A c (k t) Q E ⟨h, g, d, t + 1, os⟩) : OW (model prog w) A c (.fresh k) Q E ⟨h, g, d, t, os⟩ := ow_of (y_fresh α prog w A c Q E h g d t os k (of_ow x))
theorem o_handled {k : Option Value → Sem α} (hh : A.handled = none) (x : OW (model prog w) A c (k none) Q E s) : OW (model prog w) A c (.handled false k) Q E s := ow_of (y_handled α prog w A c Q E s k (by rw [hh]; exact of_ow x))
theorem o_alloc {o o' : Obj} {k : Addr → Sem α} (D : Mem h₀ h chg news) (e : o = o') (hf : o'.isFreed = false) (x : ∀ a h', Mem h₀ h' chg ((a, o') :: news) → OW (model prog w) A c (k a) Q E ⟨h', g, d, t, os⟩) :
    OW (model prog w) A c (.alloc o k) Q E ⟨h, g, d, t, os⟩ := by subst e; exact ow_of (y_alloc α prog w A c Q E h₀ chg news h g d t os o k D hf fun a h' D' => of_ow (x a h' D'))
theorem o_update {a a' : Addr} {q : Option Value} {f : Obj → Obj} {k : Unit → Sem α} {o o' : Obj} (D : Mem h₀ h chg news) (i : Nat) (hi : news[i]? = some (a', o)) (ha : a = a') (e : f o = o') (hf : o'.isFreed = false) (hn : news.set i (a', o') = news')
    (x : ∀ h', Mem h₀ h' chg news' → OW (model prog w) A c (k ()) Q E ⟨h', g, d, t, os⟩) : OW (model prog w) A c (.update a q f k) Q E ⟨h, g, d, t, os⟩ := by
  subst e; subst hn; subst ha; exact ow_of (y_update α prog w A c Q E h₀ chg news h g d t os _ q f k o D i hi hf fun h' D' => of_ow (x h' D'))
theorem o_stack {k : List (Code × Pos) → Sem α} (x : ∀ st, Lies (A.under c) st → OW (model prog w) A c (k st) Q E s) : OW (model prog w) A c (.stack k) Q E s := ow_of (y_stack α prog w A c Q E s k fun p b l => of_ow (x _ l))
theorem o_call {c' c'' : Code} (e : Same c' c'') {gd : Bool} {l : List Value} {k : Result → Sem α} (x : CA (model prog w) ((A.under c).mark none) c'' (postR prog w A c Q E k) s) : OW (model prog w) A c (.call c' none gd l k) Q E s :=
  ow_of (y_call α prog w A c Q E s c' none gd l k (by intro e; cases e) (by rw [show c' = c'' from e]; exact of_ca x))
theorem o_code {R : Result → Shared → Prop} (x : OW (model prog w) A c (ZFast.zw11892475500146522536 ZFast.tableZ c) (postC prog w A R) (postE R) s) : CA (model prog w) A c R s :=
  ca_of (y_code prog w A R s c (by rw [den_eq]; exact of_ow x))
theorem o_done {R : Result → Shared → Prop} {f : Flow} (x : R (.ok f) s) : OW (model prog w) A c (.pure (.done f)) (postC prog w A R) E s := ow_of (y_pure _ prog w A c _ E s _ x)
theorem o_again {R : Result → Shared → Prop} {c' c'' : Code} (e : Same c' c'') (hq : c''.quiet = true) (x : CA (model prog w) A c'' R s) : OW (model prog w) A c (.pure (.again c')) (postC prog w A R) E s := ow_of (y_pure _ prog w A c _ E s _ (by rw [show c' = c'' from e]; exact ⟨hq, of_ca x⟩))
theorem o_raise {R : Result → Shared → Prop} {e : Value} (x : R (.error e) s) : OW (model prog w) A c (.raise e : Sem α) Q (postE R) s := ow_of (y_raise _ prog w A c Q _ s e x)
theorem o_ret {k : Result → Sem α} {r : Result} (x : OW (model prog w) A c (k r) Q E s) : postR prog w A c Q E k r s := of_ow x
end
theorem ne_beq {c k : Nat} (h : ¬ c = k) : (Nat.beq c k && true) = false := by
  cases q : Nat.beq c k with
  | false => rfl
  | true => exact absurd (Nat.eq_of_beq_eq_true q) h
theorem ne_lbeq {c k : Nat} (h : ¬ c = k) : (([c] : List Nat) == [k]) = false := by
  cases q : (([c] : List Nat) == [k]) with
  | false => rfl
  | true => exact absurd (by simpa using q) h
theorem mem_ext {h₀ h : Heap} {news : List (Addr × Obj)} (D : Mem h₀ h [] news) : ∀ b o, h₀.get? b = some o → h.get? b = some o := fun b o e => D.keep b o e (by simp [away])
theorem ca_ind {M : Model} {A : Around} {c : Code} {R : Result → Shared → Prop} (I : Nat → Shared → Prop) (turn : ∀ n s, (∀ m s', m < n → I m s' → CA M A c R s') → I n s → CA M A c R s) {n : Nat} {s : Shared} (h : I n s) : CA M A c R s := by
  induction n using Nat.strongRecOn generalizing s with
  | ind n ih => exact turn n s (fun m s' hm hi => ih m hm hi) h
theorem Mem.sub' {h₀ h : Heap} {chg news news' : List (Addr × Obj)} (D : Mem h₀ h chg news) (e : news'.Sublist news) : Mem h₀ h chg news' :=
  ⟨D.keep, D.ch, D.cd, fun p hp => D.nw p (e.subset hp), (D.ord).sublist (e.map _)⟩
theorem nm1 {h₀ h : Heap} {chg r : List (Addr × Obj)} {P : Prop} {a0 : Addr} {o0 : Obj} (D : Mem h₀ h chg ((a0, o0) :: r)) (k : ∀ b0, b0 = a0 → P) : P := k _ rfl
theorem nm2 {h₀ h : Heap} {chg r : List (Addr × Obj)} {P : Prop} {a0 : Addr} {o0 : Obj} {a1 : Addr} {o1 : Obj} (D : Mem h₀ h chg ((a0, o0) :: (a1, o1) :: r)) (k : ∀ b0 b1, b0 = a0 → b1 = a1 → P) : P := k _ _ rfl rfl
theorem nm3 {h₀ h : Heap} {chg r : List (Addr × Obj)} {P : Prop} {a0 : Addr} {o0 : Obj} {a1 : Addr} {o1 : Obj} {a2 : Addr} {o2 : Obj} (D : Mem h₀ h chg ((a0, o0) :: (a1, o1) :: (a2, o2) :: r)) (k : ∀ b0 b1 b2, b0 = a0 → b1 = a1 → b2 = a2 → P) : P := k _ _ _ rfl rfl rfl
theorem nm4 {h₀ h : Heap} {chg r : List (Addr × Obj)} {P : Prop} {a0 : Addr} {o0 : Obj} {a1 : Addr} {o1 : Obj} {a2 : Addr} {o2 : Obj} {a3 : Addr} {o3 : Obj} (D : Mem h₀ h chg ((a0, o0) :: (a1, o1) :: (a2, o2) :: (a3, o3) :: r)) (k : ∀ b0 b1 b2 b3, b0 = a0 → b1 = a1 → b2 = a2 → b3 = a3 → P) : P := k _ _ _ _ rfl rfl rfl rfl
theorem nm5 {h₀ h : Heap} {chg r : List (Addr × Obj)} {P : Prop} {a0 : Addr} {o0 : Obj} {a1 : Addr} {o1 : Obj} {a2 : Addr} {o2 : Obj} {a3 : Addr} {o3 : Obj} {a4 : Addr} {o4 : Obj} (D : Mem h₀ h chg ((a0, o0) :: (a1, o1) :: (a2, o2) :: (a3, o3) :: (a4, o4) :: r)) (k : ∀ b0 b1 b2 b3 b4, b0 = a0 → b1 = a1 → b2 = a2 → b3 = a3 → b4 = a4 → P) : P := k _ _ _ _ _ rfl rfl rfl rfl rfl
theorem nm6 {h₀ h : Heap} {chg r : List (Addr × Obj)} {P : Prop} {a0 : Addr} {o0 : Obj} {a1 : Addr} {o1 : Obj} {a2 : Addr} {o2 : Obj} {a3 : Addr} {o3 : Obj} {a4 : Addr} {o4 : Obj} {a5 : Addr} {o5 : Obj} (D : Mem h₀ h chg ((a0, o0) :: (a1, o1) :: (a2, o2) :: (a3, o3) :: (a4, o4) :: (a5, o5) :: r)) (k : ∀ b0 b1 b2 b3 b4 b5, b0 = a0 → b1 = a1 → b2 = a2 → b3 = a3 → b4 = a4 → b5 = a5 → P) : P := k _ _ _ _ _ _ rfl rfl rfl rfl rfl rfl
theorem nm7 {h₀ h : Heap} {chg r : List (Addr × Obj)} {P : Prop} {a0 : Addr} {o0 : Obj} {a1 : Addr} {o1 : Obj} {a2 : Addr} {o2 : Obj} {a3 : Addr} {o3 : Obj} {a4 : Addr} {o4 : Obj} {a5 : Addr} {o5 : Obj} {a6 : Addr} {o6 : Obj} (D : Mem h₀ h chg ((a0, o0) :: (a1, o1) :: (a2, o2) :: (a3, o3) :: (a4, o4) :: (a5, o5) :: (a6, o6) :: r)) (k : ∀ b0 b1 b2 b3 b4 b5 b6, b0 = a0 → b1 = a1 → b2 = a2 → b3 = a3 → b4 = a4 → b5 = a5 → b6 = a6 → P) : P := k _ _ _ _ _ _ _ rfl rfl rfl rfl rfl rfl rfl
theorem nm8 {h₀ h : Heap} {chg r : List (Addr × Obj)} {P : Prop} {a0 : Addr} {o0 : Obj} {a1 : Addr} {o1 : Obj} {a2 : Addr} {o2 : Obj} {a3 : Addr} {o3 : Obj} {a4 : Addr} {o4 : Obj} {a5 : Addr} {o5 : Obj} {a6 : Addr} {o6 : Obj} {a7 : Addr} {o7 : Obj} (D : Mem h₀ h chg ((a0, o0) :: (a1, o1) :: (a2, o2) :: (a3, o3) :: (a4, o4) :: (a5, o5) :: (a6, o6) :: (a7, o7) :: r)) (k : ∀ b0 b1 b2 b3 b4 b5 b6 b7, b0 = a0 → b1 = a1 → b2 = a2 → b3 = a3 → b4 = a4 → b5 = a5 → b6 = a6 → b7 = a7 → P) : P := k _ _ _ _ _ _ _ _ rfl rfl rfl rfl rfl rfl rfl rfl
theorem nm9 {h₀ h : Heap} {chg r : List (Addr × Obj)} {P : Prop} {a0 : Addr} {o0 : Obj} {a1 : Addr} {o1 : Obj} {a2 : Addr} {o2 : Obj} {a3 : Addr} {o3 : Obj} {a4 : Addr} {o4 : Obj} {a5 : Addr} {o5 : Obj} {a6 : Addr} {o6 : Obj} {a7 : Addr} {o7 : Obj} {a8 : Addr} {o8 : Obj} (D : Mem h₀ h chg ((a0, o0) :: (a1, o1) :: (a2, o2) :: (a3, o3) :: (a4, o4) :: (a5, o5) :: (a6, o6) :: (a7, o7) :: (a8, o8) :: r)) (k : ∀ b0 b1 b2 b3 b4 b5 b6 b7 b8, b0 = a0 → b1 = a1 → b2 = a2 → b3 = a3 → b4 = a4 → b5 = a5 → b6 = a6 → b7 = a7 → b8 = a8 → P) : P := k _ _ _ _ _ _ _ _ _ rfl rfl rfl rfl rfl rfl rfl rfl rfl
theorem nm10 {h₀ h : Heap} {chg r : List (Addr × Obj)} {P : Prop} {a0 : Addr} {o0 : Obj} {a1 : Addr} {o1 : Obj} {a2 : Addr} {o2 : Obj} {a3 : Addr} {o3 : Obj} {a4 : Addr} {o4 : Obj} {a5 : Addr} {o5 : Obj} {a6 : Addr} {o6 : Obj} {a7 : Addr} {o7 : Obj} {a8 : Addr} {o8 : Obj} {a9 : Addr} {o9 : Obj} (D : Mem h₀ h chg ((a0, o0) :: (a1, o1) :: (a2, o2) :: (a3, o3) :: (a4, o4) :: (a5, o5) :: (a6, o6) :: (a7, o7) :: (a8, o8) :: (a9, o9) :: r)) (k : ∀ b0 b1 b2 b3 b4 b5 b6 b7 b8 b9, b0 = a0 → b1 = a1 → b2 = a2 → b3 = a3 → b4 = a4 → b5 = a5 → b6 = a6 → b7 = a7 → b8 = a8 → b9 = a9 → P) : P := k _ _ _ _ _ _ _ _ _ _ rfl rfl rfl rfl rfl rfl rfl rfl rfl rfl
theorem nm11 {h₀ h : Heap} {chg r : List (Addr × Obj)} {P : Prop} {a0 : Addr} {o0 : Obj} {a1 : Addr} {o1 : Obj} {a2 : Addr} {o2 : Obj} {a3 : Addr} {o3 : Obj} {a4 : Addr} {o4 : Obj} {a5 : Addr} {o5 : Obj} {a6 : Addr} {o6 : Obj} {a7 : Addr} {o7 : Obj} {a8 : Addr} {o8 : Obj} {a9 : Addr} {o9 : Obj} {a10 : Addr} {o10 : Obj} (D : Mem h₀ h chg ((a0, o0) :: (a1, o1) :: (a2, o2) :: (a3, o3) :: (a4, o4) :: (a5, o5) :: (a6, o6) :: (a7, o7) :: (a8, o8) :: (a9, o9) :: (a10, o10) :: r)) (k : ∀ b0 b1 b2 b3 b4 b5 b6 b7 b8 b9 b10, b0 = a0 → b1 = a1 → b2 = a2 → b3 = a3 → b4 = a4 → b5 = a5 → b6 = a6 → b7 = a7 → b8 = a8 → b9 = a9 → b10 = a10 → P) : P := k _ _ _ _ _ _ _ _ _ _ _ rfl rfl rfl rfl rfl rfl rfl rfl rfl rfl rfl
theorem nm12 {h₀ h : Heap} {chg r : List (Addr × Obj)} {P : Prop} {a0 : Addr} {o0 : Obj} {a1 : Addr} {o1 : Obj} {a2 : Addr} {o2 : Obj} {a3 : Addr} {o3 : Obj} {a4 : Addr} {o4 : Obj} {a5 : Addr} {o5 : Obj} {a6 : Addr} {o6 : Obj} {a7 : Addr} {o7 : Obj} {a8 : Addr} {o8 : Obj} {a9 : Addr} {o9 : Obj} {a10 : Addr} {o10 : Obj} {a11 : Addr} {o11 : Obj} (D : Mem h₀ h chg ((a0, o0) :: (a1, o1) :: (a2, o2) :: (a3, o3) :: (a4, o4) :: (a5, o5) :: (a6, o6) :: (a7, o7) :: (a8, o8) :: (a9, o9) :: (a10, o10) :: (a11, o11) :: r)) (k : ∀ b0 b1 b2 b3 b4 b5 b6 b7 b8 b9 b10 b11, b0 = a0 → b1 = a1 → b2 = a2 → b3 = a3 → b4 = a4 → b5 = a5 → b6 = a6 → b7 = a7 → b8 = a8 → b9 = a9 → b10 = a10 → b11 = a11 → P) : P := k _ _ _ _ _ _ _ _ _ _ _ _ rfl rfl rfl rfl rfl rfl rfl rfl rfl rfl rfl rfl
end Mine

end

section
open Lean PySem PySem.W PySem.W.X PySem.Calls
namespace Mine
inductive Op
  | s | l (i : Nat) | lc (i : Nat) | a | m | c | g | p | cE | gE | pE | u (n : Nat) (is : List Nat) (j : Nat)
structure Fr where
  c : Code
  k : Result → Sem PySem.Fin
  gd : Bool
inductive Out
  | run (fs : List Fr) (c : Code) (t : Sem PySem.Fin) (news : List (Addr × Obj)) (tok : Nat)
  | code (fs : List Fr) (c : Code) (news : List (Addr × Obj)) (tok : Nat)
  | ret (fs : List Fr) (r : Result) (news : List (Addr × Obj)) (tok : Nat)
structure Obl where
  A : List (Addr × Addr)
  B : List (Sem PySem.Fin × Sem PySem.Fin)
  C : List Bool
-- a summary of a call: the objects that it wants in the ledger, the call, the tree that stands for it
def vv : Value → Value | .str s _ => .str s 0 | .int n _ => .int n 0 | v => v
def vE : DictEntry → DictEntry | ⟨_, x, y⟩ => ⟨0, vv x, vv y⟩
def vO : Obj → Obj
  | ⟨c, d, .dict es _, s⟩ => ⟨c, d, .dict ⟨es.toList.map vE⟩ 0, s⟩
  | ⟨c, d, .seq es _, s⟩ => ⟨c, d, .seq ⟨es.toList.map vv⟩ 0, s⟩
  | ⟨c, d, .fields es, s⟩ => ⟨c, d, .fields ⟨es.toList.map vv⟩, s⟩
  | ⟨c, d, .cell (some v), s⟩ => ⟨c, d, .cell (some (vv v)), s⟩
  | o => o
def vP (p : Addr × Obj) : Addr × Obj := (p.1, vO p.2)
def mC : Code → Code
  | .call f a => .call f ⟨a.pos.map vv, a.kw⟩
  | c => c
def mC1 : Code → Code
  | .call f ⟨v :: l, kw⟩ => .call f ⟨vv v :: l, kw⟩
  | c => c
structure Eff where
  r : Result
  new : List (Addr × Obj)
  ob : List (Addr × Obj)
  tok : Nat
structure Sm where
  ob : List (Addr × Obj)
  c : Code
  n : Nat
  eff : List (Addr × Obj) → List Addr → Tok → Eff
  mf : Code → Code
def setAll : List (Addr × Obj) → List Nat → List (Addr × Obj) → List (Addr × Obj)
  | news, i :: is, p :: ps => setAll (news.set i p) is ps
  | news, _, _ => news
def takeN : Nat → List Addr → Option (List Addr × List Addr)
  | 0, l => some ([], l)
  | n + 1, a :: l => match takeN n l with | some (x, y) => some (a :: x, y) | none => none
  | _ + 1, [] => none
theorem takeN_app : ∀ (as l : List Addr), takeN as.length (as ++ l) = some (as, l)
  | [], l => rfl
  | a :: as, l => by show (match takeN as.length (as ++ l) with | some (x, y) => some (a :: x, y) | none => none) = _; rw [takeN_app as l]
def Eff.news (e : Eff) (news : List (Addr × Obj)) (is : List Nat) : List (Addr × Obj) := e.new ++ setAll news is e.ob
-- objects and codes are compared as trees
noncomputable def tC (c : Code) : Sem PySem.Fin := .call c none false [] fun _ => .raise .none
def getAll (news : List (Addr × Obj)) : List Nat → Option (List (Addr × Obj))
  | [] => some []
  | i :: is => match news[i]? with
    | some p => match getAll news is with
      | some l => some (p :: l)
      | none => none
    | none => none
noncomputable def tL : List (Addr × Obj) → Sem PySem.Fin
  | [] => .raise .none
  | p :: l => .alloc p.2 fun _ => .update p.1 none (fun _ => p.2) fun _ => tL l
theorem tL_inj : ∀ {l l' : List (Addr × Obj)}, tL l = tL l' → l = l'
  | [], [], _ => rfl
  | [], _ :: _, h => by unfold tL at h; cases h
  | _ :: _, [], h => by unfold tL at h; cases h
  | p :: l, p' :: l', h => by
    unfold tL at h
    injection h with h1 h2
    have h3 := congrFun h2 0
    injection h3 with h4 h5 h6 h7
    have h8 := congrFun h7 ()
    rw [tL_inj h8, show p = p' from Prod.ext h4 h1]
theorem tC_inj {c c' : Code} (h : tC c = tC c') : c = c' := by unfold tC at h; injection h
noncomputable def ROW : String := "special-get-raises"
noncomputable def pf (p : Setting) (b : Bool) : Setting := { p with params := { p.params with followText := fun _ => b } }
def qk : Code → Bool
  | .builtin id _ => !id.startsWith "lifetime."
  | c => c.quiet
theorem qk_quiet {c : Code} (h : qk c = true) : c.quiet = true := by
  cases c <;> first | exact Code.quiet_builtin _ (by simpa [qk] using h) | exact h
noncomputable def den : Code → Sem PySem.Fin := ZFast.zw11892475500146522536 ZFast.tableZ

def allocs : List Op → Nat
  | [] => 0
  | .a :: l => allocs l + 1
  | .u n _ _ :: l => n + allocs l
  | _ :: l => allocs l
structure St where
  fs : List Fr
  c : Code
  t : Sem PySem.Fin
  news : List (Addr × Obj)
  tok : Nat
  ρ : List Addr
abbrev Ans := Option (Out × Obl)
def aA (a a' : Addr) : Ans → Ans | some (o, b) => some (o, ⟨(a, a') :: b.A, b.B, b.C⟩) | none => none
def aB (t t' : Sem PySem.Fin) : Ans → Ans | some (o, b) => some (o, ⟨b.A, (t, t') :: b.B, b.C⟩) | none => none
def aC (x : Bool) : Ans → Ans | some (o, b) => some (o, ⟨b.A, b.B, x :: b.C⟩) | none => none
def nil0 (o : Out) : Ans := some (o, ⟨[], [], []⟩)
section
variable (p : Setting) (K : Frag) (chg : List (Addr × Obj)) (S : List Sm)
noncomputable def xS (r : St → Ans) (s : St) : Ans := match s.t with
  | .rule _ k => r { s with t := k () }
  | .at _ k => r { s with t := k () }
  | .point _ k => r { s with t := k () }
  | .ask k => r { s with t := k p }
  | .fresh k => r { s with t := k s.tok, tok := s.tok + 1 }
  | .handled false k => r { s with t := k none }
  | .load a _ k => match K.lookup a with
    | some o => aC (away chg a || hasCls o) (r { s with t := k o })
    | none => none
  | .loadIfAlive a k => match K.lookup a with
    | some o => aC (away chg a || hasCls o) (r { s with t := k (some o) })
    | none => none
  | _ => none
noncomputable def xL (i : Nat) (r : St → Ans) (s : St) : Ans := match s.news[i]? with
  | some (a', o) => match s.t with
    | .load a _ k => aA a a' (r { s with t := k o })
    | .loadIfAlive a k => aA a a' (r { s with t := k (some o) })
    | .update a _ f k => aA a a' (aC (!(f o).isFreed) (r { s with t := k (), news := s.news.set i (a', f o) }))
    | _ => none
  | none => none
noncomputable def xLc (i : Nat) (r : St → Ans) (s : St) : Ans := match chg[i]? with
  | some (a', o) => match s.t with
    | .load a _ k => aA a a' (r { s with t := k o })
    | .loadIfAlive a k => aA a a' (r { s with t := k (some o) })
    | _ => none
  | none => none
noncomputable def xA (r : St → Ans) (s : St) : Ans := match s.t with
  | .alloc o k => match s.ρ with
    | a :: ρ => aC (!o.isFreed) (r { s with t := k a, news := (a, o) :: s.news, ρ := ρ })
    | [] => none
  | _ => none
noncomputable def xM (r : St → Ans) (s : St) : Ans := match s.t with
  | .ask k => aB (k p) (k (pf p (p.params.followText ROW))) (aB (k (pf p true)) (k (pf p false)) (r { s with t := k (pf p true) }))
  | _ => none
noncomputable def xU (n : Nat) (is : List Nat) (j : Nat) (r : St → Ans) (s : St) : Ans := match s.t with
  | .call c' none _ _ k => match S[j]? with
    | some m => match takeN n s.ρ with
      | some (as', ρ') => match getAll s.news is with
        | some old => aB (tL (old.map vP)) (tL m.ob) (aB (tC (m.mf c')) (tC m.c) (aC (Nat.beq n m.n) (r { s with t := k (m.eff old as' s.tok).r, news := (m.eff old as' s.tok).news s.news is, tok := (m.eff old as' s.tok).tok, ρ := ρ' })))
        | none => none
      | none => none
    | none => none
  | _ => none
noncomputable def xOp (op : Op) (r : St → Ans) (s : St) : Ans := match op with
  | .s => xS p K chg r s
  | .l i => xL i r s
  | .lc i => xLc chg i r s
  | .a => xA r s
  | .m => xM p r s
  | .u n is j => xU S n is j r s
  | .c => match s.t with
    | .call c' none gd _ k => r { s with fs := ⟨s.c, k, gd⟩ :: s.fs, c := c', t := den c' }
    | _ => none
  | .g => match s.t with
    | .pure (.again c') => aC (qk c') (r { s with c := c', t := den c' })
    | _ => none
  | .p => match s.fs with
    | f :: fs => match s.t with
      | .pure (.done v) => r { s with fs := fs, c := f.c, t := f.k (.ok v) }
      | .raise e => r { s with fs := fs, c := f.c, t := f.k (.error e) }
      | _ => none
    | [] => none
  | .cE => match s.t with
    | .call c' none gd _ k => nil0 (.code (⟨s.c, k, gd⟩ :: s.fs) c' s.news s.tok)
    | _ => none
  | .gE => match s.t with
    | .pure (.again c') => aC (qk c') (nil0 (.code s.fs c' s.news s.tok))
    | _ => none
  | .pE => match s.t with
    | .pure (.done v) => nil0 (.ret s.fs (.ok v) s.news s.tok)
    | .raise e => nil0 (.ret s.fs (.error e) s.news s.tok)
    | _ => none
noncomputable def exS : List Op → St → Ans
  | [], s => nil0 (.run s.fs s.c s.t s.news s.tok)
  | op :: ops, s => xOp p K chg S op (exS ops) s
noncomputable def ex (ops : List Op) (fs : List Fr) (c : Code) (t : Sem PySem.Fin) (news : List (Addr × Obj)) (tok : Nat) (ρ : List Addr) : Ans := exS p K chg S ops ⟨fs, c, t, news, tok, ρ⟩
end
def Obl.good (b : Obl) : Prop := (∀ p ∈ b.A, p.1 = p.2) ∧ (∀ p ∈ b.B, p.1 = p.2) ∧ (∀ x ∈ b.C, x = true)
-- memory, its ledger in any order
def Mm (h₀ h : Heap) (chg news : List (Addr × Obj)) : Prop := ∃ l, Mem h₀ h chg l ∧ l.Perm news
def Near (st : List (Code × Pos)) : Prop := (∀ own, nearF st own recursionLimit = false) ∧ (∀ own, overF st own recursionLimit = false) ∧ (∀ own, warmF st own recursionLimit = false) ∧ roomF st = false
structure Calc (h₀ : Heap) (chg : List (Addr × Obj)) (p : Setting) where
  G : List Fr → Code → Sem PySem.Fin → List (Addr × Obj) → Nat → Prop
  C : List Fr → Code → List (Addr × Obj) → Nat → Prop
  B : List Fr → Result → List (Addr × Obj) → Nat → Prop
  Rm : List Fr → Nat → Prop
  code : ∀ {fs c news tok}, G fs c (den c) news tok → C fs c news tok
  skim : ∀ {fs c t news tok}, G fs c (skim p 1 t) news tok → G fs c t news tok
  fresh : ∀ {fs c k news tok}, G fs c (k tok) news (tok + 1) → G fs c (.fresh k) news tok
  handled : ∀ {fs c k news tok}, G fs c (k none) news tok → G fs c (.handled false k) news tok
  load : ∀ {fs c a q k news tok o}, (∀ h, Mm h₀ h chg news → h.get? a = some o) → G fs c (k o) news tok → G fs c (.load a q k) news tok
  alive : ∀ {fs c a k news tok o}, (∀ h, Mm h₀ h chg news → h.get? a = some o) → G fs c (k (some o)) news tok → G fs c (.loadIfAlive a k) news tok
  alloc : ∀ {fs c o k news tok}, o.isFreed = false → (∀ a, G fs c (k a) ((a, o) :: news) tok) → G fs c (.alloc o k) news tok
  update : ∀ {fs c a q f k news tok o} (i : Nat), news[i]? = some (a, o) → (f o).isFreed = false → G fs c (k ()) (news.set i (a, f o)) tok → G fs c (.update a q f k) news tok
  call : ∀ {fs c c' gd l k news tok}, C (⟨c, k, gd⟩ :: fs) c' news tok → G fs c (.call c' none gd l k) news tok
  again : ∀ {fs c c' news tok}, c'.quiet = true → C fs c' news tok → G fs c (.pure (.again c')) news tok
  done : ∀ {fs c v news tok}, B fs (.ok v) news tok → G fs c (.pure (.done v)) news tok
  throw : ∀ {fs c e news tok}, B fs (.error e) news tok → G fs c (.raise e) news tok
  pop : ∀ {f fs r news tok}, G fs f.c (f.k r) news tok → B (f :: fs) r news tok
  weak : ∀ {fs c t news news' tok}, (∀ h, Mm h₀ h chg news → Mm h₀ h chg news') → G fs c t news' tok → G fs c t news tok
  weakC : ∀ {fs c news news' tok}, (∀ h, Mm h₀ h chg news → Mm h₀ h chg news') → C fs c news' tok → C fs c news tok
  weakB : ∀ {fs r news news' tok}, (∀ h, Mm h₀ h chg news → Mm h₀ h chg news') → B fs r news' tok → B fs r news tok
  rm : ∀ {f fs n m}, Rm fs n → Nat.ble (n + (f.c.weight + f.c.cUnits)) m = true → Rm (f :: fs) m
  rmle : ∀ {fs n m}, Rm fs n → Nat.ble n m = true → Rm fs m
  stack : ∀ {fs c k news tok n}, Rm fs n → Nat.ble (n + (c.weight + c.cUnits)) 900 = true → (∀ st, Near st → G fs c (k st) news tok) → G fs c (.stack k) news tok
section
variable {h₀ : Heap} {chg : List (Addr × Obj)} {p : Setting} (Z : Calc h₀ chg p)
def Out.goal : Out → Prop
  | .run fs c x news tok => Z.G fs c x news tok
  | .code fs c news tok => Z.C fs c news tok
  | .ret fs r news tok => Z.B fs r news tok
def Su (s : Sm) : Prop := ∀ fs c c' k gd l news tok is old, getAll news is = some old → old.map vP = s.ob → s.mf c' = s.c → (∀ as' : List Addr, as'.length = s.n → Z.G fs c (k (s.eff old as' tok).r) ((s.eff old as' tok).news news is) (s.eff old as' tok).tok) → Z.G fs c (.call c' none gd l k) news tok
def Sus (S : List Sm) : Prop := ∀ s ∈ S, Su Z s
def AnsOK (x : Ans) : Prop := ∃ o b, x = some (o, b) ∧ b.good ∧ o.goal Z
theorem aA_ok {a a' : Addr} {x : Ans} (h : AnsOK Z (aA a a' x)) : a = a' ∧ AnsOK Z x := by
  obtain ⟨o, b, e, hb, hg⟩ := h
  cases x with
  | none => cases e
  | some y =>
    obtain ⟨o', b'⟩ := y
    cases e
    exact ⟨hb.1 _ (.head _), _, _, rfl, ⟨fun q hq => hb.1 q (.tail _ hq), hb.2.1, hb.2.2⟩, hg⟩
theorem aB_ok {a a' : Sem PySem.Fin} {x : Ans} (h : AnsOK Z (aB a a' x)) : a = a' ∧ AnsOK Z x := by
  obtain ⟨o, b, e, hb, hg⟩ := h
  cases x with
  | none => cases e
  | some y =>
    obtain ⟨o', b'⟩ := y
    cases e
    exact ⟨hb.2.1 _ (.head _), _, _, rfl, ⟨hb.1, fun q hq => hb.2.1 q (.tail _ hq), hb.2.2⟩, hg⟩
theorem aC_ok {a : Bool} {x : Ans} (h : AnsOK Z (aC a x)) : a = true ∧ AnsOK Z x := by
  obtain ⟨o, b, e, hb, hg⟩ := h
  cases x with
  | none => cases e
  | some y =>
    obtain ⟨o', b'⟩ := y
    cases e
    exact ⟨hb.2.2 _ (.head _), _, _, rfl, ⟨hb.1, hb.2.1, fun q hq => hb.2.2 q (.tail _ hq)⟩, hg⟩
theorem nil0_ok {o : Out} (h : AnsOK Z (nil0 o)) : o.goal Z := by
  obtain ⟨o, b, e, hb, hg⟩ := h
  cases e; exact hg
theorem none_ok {P : Prop} (h : AnsOK Z none) : P := by obtain ⟨_, _, e, _⟩ := h; cases e
theorem merge_eq (p : Setting) (k : Setting → Sem PySem.Fin) (h1 : k p = k (pf p (p.params.followText ROW))) (h2 : k (pf p true) = k (pf p false)) : k p = k (pf p true) := by
  rw [h1]; cases p.params.followText ROW with
  | true => rfl
  | false => exact h2.symm
theorem Mm.at {h : Heap} {news : List (Addr × Obj)} (D : Mm h₀ h chg news) {i : Nat} {a : Addr} {o : Obj} (e : news[i]? = some (a, o)) : h.get? a = some o := by
  obtain ⟨l, D, q⟩ := D
  exact (D.nw _ (q.mem_iff.mpr (List.mem_of_getElem? e))).1
theorem Mm.atC {h : Heap} {news : List (Addr × Obj)} (D : Mm h₀ h chg news) {i : Nat} {a : Addr} {o : Obj} (e : chg[i]? = some (a, o)) : h.get? a = some o := by
  obtain ⟨l, D, q⟩ := D
  exact D.atC i a o e
theorem Mm.old {h : Heap} {news : List (Addr × Obj)} (D : Mm h₀ h chg news) {a : Addr} {o : Obj} (e : h₀.get? a = some o) (q : (away chg a || hasCls o) = true) : h.get? a = some o := by
  obtain ⟨l, D, _⟩ := D
  exact D.old a o e (by rw [Bool.or_comm]; exact q)
theorem exS_sound {K : Frag} {S : List Sm} (X : K.In h₀) (hS : Sus Z S) : ∀ (ops : List Op) (fs : List Fr) (c : Code) (t : Sem PySem.Fin) (news : List (Addr × Obj)) (tok : Nat),
    (∀ ρ : List Addr, ρ.length = allocs ops → AnsOK Z (exS p K chg S ops ⟨fs, c, t, news, tok, ρ⟩)) → Z.G fs c t news tok := by
  intro ops
  induction ops with
  | nil => intro fs c t news tok H; exact nil0_ok Z (H [] rfl)
  | cons op ops ih =>
    intro fs c t news tok H
    have H0 := H (List.replicate (allocs (op :: ops)) 0) (List.length_replicate ..)
    cases op
    case s =>
      replace H : ∀ ρ : List Addr, ρ.length = allocs ops → AnsOK Z (xS p K chg (exS p K chg S ops) ⟨fs, c, t, news, tok, ρ⟩) := H
      replace H0 : AnsOK Z (xS p K chg (exS p K chg S ops) ⟨fs, c, t, news, tok, _⟩) := H0
      cases t
      case rule => exact Z.skim (ih _ _ _ _ _ H)
      case «at» => exact Z.skim (ih _ _ _ _ _ H)
      case point => exact Z.skim (ih _ _ _ _ _ H)
      case ask => exact Z.skim (ih _ _ _ _ _ H)
      case fresh => exact Z.fresh (ih _ _ _ _ _ H)
      case handled own k =>
        cases own with
        | true => exact none_ok Z H0
        | false => exact Z.handled (ih _ _ _ _ _ H)
      case load a q k =>
        unfold xS at H H0
        dsimp only at H H0
        cases e : K.lookup a with
        | none => rw [e] at H0; exact none_ok Z H0
        | some o =>
          rw [e] at H H0
          exact Z.load (fun h D => D.old (X a o e) (aC_ok Z H0).1) (ih _ _ _ _ _ fun ρ hρ => (aC_ok Z (H ρ hρ)).2)
      case loadIfAlive a k =>
        unfold xS at H H0
        dsimp only at H H0
        cases e : K.lookup a with
        | none => rw [e] at H0; exact none_ok Z H0
        | some o =>
          rw [e] at H H0
          exact Z.alive (fun h D => D.old (X a o e) (aC_ok Z H0).1) (ih _ _ _ _ _ fun ρ hρ => (aC_ok Z (H ρ hρ)).2)
      all_goals exact none_ok Z H0
    case l i =>
      replace H : ∀ ρ : List Addr, ρ.length = allocs ops → AnsOK Z (xL i (exS p K chg S ops) ⟨fs, c, t, news, tok, ρ⟩) := H
      replace H0 : AnsOK Z (xL i (exS p K chg S ops) ⟨fs, c, t, news, tok, _⟩) := H0
      unfold xL at H H0
      dsimp only at H H0
      cases e : news[i]? with
      | none => rw [e] at H0; exact none_ok Z H0
      | some ao =>
        obtain ⟨a', o⟩ := ao
        rw [e] at H H0
        cases t
        case load a q k =>
          obtain rfl := (aA_ok Z H0).1
          exact Z.load (fun h D => D.at e) (ih _ _ _ _ _ fun ρ hρ => (aA_ok Z (H ρ hρ)).2)
        case loadIfAlive a k =>
          obtain rfl := (aA_ok Z H0).1
          exact Z.alive (fun h D => D.at e) (ih _ _ _ _ _ fun ρ hρ => (aA_ok Z (H ρ hρ)).2)
        case update a q f k =>
          obtain rfl := (aA_ok Z H0).1
          exact Z.update i e (by simpa using (aC_ok Z (aA_ok Z H0).2).1) (ih _ _ _ _ _ fun ρ hρ => (aC_ok Z (aA_ok Z (H ρ hρ)).2).2)
        all_goals exact none_ok Z H0
    case lc i =>
      replace H : ∀ ρ : List Addr, ρ.length = allocs ops → AnsOK Z (xLc chg i (exS p K chg S ops) ⟨fs, c, t, news, tok, ρ⟩) := H
      replace H0 : AnsOK Z (xLc chg i (exS p K chg S ops) ⟨fs, c, t, news, tok, _⟩) := H0
      unfold xLc at H H0
      dsimp only at H H0
      cases e : chg[i]? with
      | none => rw [e] at H0; exact none_ok Z H0
      | some ao =>
        obtain ⟨a', o⟩ := ao
        rw [e] at H H0
        cases t
        case load a q k =>
          obtain rfl := (aA_ok Z H0).1
          exact Z.load (fun h D => D.atC e) (ih _ _ _ _ _ fun ρ hρ => (aA_ok Z (H ρ hρ)).2)
        case loadIfAlive a k =>
          obtain rfl := (aA_ok Z H0).1
          exact Z.alive (fun h D => D.atC e) (ih _ _ _ _ _ fun ρ hρ => (aA_ok Z (H ρ hρ)).2)
        all_goals exact none_ok Z H0
    case a =>
      replace H0 : AnsOK Z (xA (exS p K chg S ops) ⟨fs, c, t, news, tok, 0 :: List.replicate (allocs ops) 0⟩) := H0
      replace H : ∀ a (ρ : List Addr), ρ.length = allocs ops → AnsOK Z (xA (exS p K chg S ops) ⟨fs, c, t, news, tok, a :: ρ⟩) := fun a ρ hρ => H (a :: ρ) (by rw [List.length_cons, hρ]; rfl)
      cases t
      case alloc o k => exact Z.alloc (by simpa using (aC_ok Z H0).1) fun a => ih _ _ _ _ _ fun ρ hρ => (aC_ok Z (H a ρ hρ)).2
      all_goals exact none_ok Z H0
    case m =>
      cases t
      case ask k =>
        refine Z.skim ?_
        show Z.G fs c (k p) news tok
        rw [merge_eq p k (aB_ok Z H0).1 (aB_ok Z (aB_ok Z H0).2).1]
        exact ih _ _ _ _ _ fun ρ hρ => (aB_ok Z (aB_ok Z (H ρ hρ)).2).2
      all_goals exact none_ok Z H0
    case u n is j =>
      replace H : ∀ ρ : List Addr, ρ.length = n + allocs ops → AnsOK Z (xU S n is j (exS p K chg S ops) ⟨fs, c, t, news, tok, ρ⟩) := H
      replace H0 : AnsOK Z (xU S n is j (exS p K chg S ops) ⟨fs, c, t, news, tok, _⟩) := H0
      cases t
      case call c' hd gd l k =>
        cases hd with
        | some v => exact none_ok Z H0
        | none =>
          unfold xU at H H0
          dsimp only at H H0
          cases e : S[j]? with
          | none => rw [e] at H0; exact none_ok Z H0
          | some m =>
            rw [e] at H H0
            dsimp only at H H0
            cases e2 : getAll news is with
            | none =>
              rw [e2] at H0
              dsimp only at H0
              cases e3 : takeN n (List.replicate (allocs (Op.u n is j :: ops)) 0) with
              | none => rw [e3] at H0; exact none_ok Z H0
              | some y => rw [e3] at H0; exact none_ok Z H0
            | some old =>
              rw [e2] at H0
              dsimp only at H0
              have h3 : n = m.n ∧ tL (old.map vP) = tL m.ob ∧ tC (m.mf c') = tC m.c := by
                cases e3 : takeN n (List.replicate (allocs (Op.u n is j :: ops)) 0) with
                | none => rw [e3] at H0; exact none_ok Z H0
                | some y =>
                  rw [e3] at H0
                  have q1 := aB_ok Z H0
                  have q2 := aB_ok Z q1.2
                  exact ⟨Nat.eq_of_beq_eq_true (aC_ok Z q2.2).1, q1.1, q2.1⟩
              obtain ⟨hn, h4, h5⟩ := h3
              refine hS m (List.mem_of_getElem? e) _ _ _ _ _ _ _ _ is old e2 (tL_inj h4) (tC_inj h5) fun as' has => ih _ _ _ _ _ fun ρ hρ => ?_
              have q := H (as' ++ ρ) (by rw [List.length_append, hρ, has, ← hn])
              have e3 : takeN n (as' ++ ρ) = some (as', ρ) := by rw [show n = as'.length by rw [has, hn]]; exact takeN_app as' ρ
              rw [e3, e2] at q
              exact (aC_ok Z (aB_ok Z (aB_ok Z q).2).2).2
      all_goals exact none_ok Z H0
    case c =>
      cases t
      case call c' hd gd l k =>
        cases hd with
        | some v => exact none_ok Z H0
        | none => exact Z.call (Z.code (ih _ _ _ _ _ H))
      all_goals exact none_ok Z H0
    case g =>
      cases t
      case pure v =>
        cases v with
        | done v => exact none_ok Z H0
        | again c' => exact Z.again (qk_quiet (aC_ok Z H0).1) (Z.code (ih _ _ _ _ _ fun ρ hρ => (aC_ok Z (H ρ hρ)).2))
      all_goals exact none_ok Z H0
    case p =>
      cases fs with
      | nil => exact none_ok Z H0
      | cons f fs =>
        cases t
        case pure v =>
          cases v with
          | again c' => exact none_ok Z H0
          | done v => exact Z.done (Z.pop (ih _ _ _ _ _ H))
        case raise e => exact Z.throw (Z.pop (ih _ _ _ _ _ H))
        all_goals exact none_ok Z H0
    case cE =>
      cases t
      case call c' hd gd l k =>
        cases hd with
        | some v => exact none_ok Z H0
        | none => exact Z.call (nil0_ok Z H0)
      all_goals exact none_ok Z H0
    case gE =>
      cases t
      case pure v =>
        cases v with
        | done v => exact none_ok Z H0
        | again c' =>
          replace H0 : AnsOK Z (aC (qk c') (nil0 (.code fs c' news tok))) := H0
          exact Z.again (qk_quiet (aC_ok Z H0).1) (nil0_ok Z (aC_ok Z H0).2)
      all_goals exact none_ok Z H0
    case pE =>
      cases t
      case pure v =>
        cases v with
        | again c' => exact none_ok Z H0
        | done v => exact Z.done (nil0_ok Z H0)
      case raise e => exact Z.throw (nil0_ok Z H0)
      all_goals exact none_ok Z H0
end
end Mine

end

section
open Lean PySem PySem.W PySem.W.X PySem.Calls
namespace Mine
def fA : Option (Out × Obl) → List Addr | some (_, b) => b.A.map (·.1) | none => []
def gA : Option (Out × Obl) → List Addr | some (_, b) => b.A.map (·.2) | none => []
def fB : Option (Out × Obl) → List (Sem PySem.Fin) | some (_, b) => b.B.map (·.1) | none => []
def gB : Option (Out × Obl) → List (Sem PySem.Fin) | some (_, b) => b.B.map (·.2) | none => []
def fC : Option (Out × Obl) → Bool | some (_, b) => b.C.all id | none => true
theorem pairs_eq {α : Type} : ∀ {l : List (α × α)}, l.map (·.1) = l.map (·.2) → ∀ p ∈ l, p.1 = p.2
  | _ :: _, e, _, .head _ => (List.cons.inj e).1
  | _ :: _, e, p, .tail _ h => pairs_eq (List.cons.inj e).2 p h
-- the parts of a run's end
def oKind : Option (Out × Obl) → Nat
  | some (.run .., _) => 1 | some (.code .., _) => 2 | some (.ret .., _) => 3 | none => 0
def oFs : Option (Out × Obl) → List Fr
  | some (.run fs _ _ _ _, _) => fs | some (.code fs _ _ _, _) => fs | some (.ret fs _ _ _, _) => fs | none => []
def oC : Option (Out × Obl) → Code
  | some (.run _ c _ _ _, _) => c | some (.code _ c _ _, _) => c | _ => .block [] default
def oT : Option (Out × Obl) → Sem PySem.Fin
  | some (.run _ _ t _ _, _) => t | _ => .raise .none
def oN : Option (Out × Obl) → List (Addr × Obj)
  | some (.run _ _ _ n _, _) => n | some (.code _ _ n _, _) => n | some (.ret _ _ n _, _) => n | _ => []
def oK : Option (Out × Obl) → Nat
  | some (.run _ _ _ _ k, _) => k | some (.code _ _ _ k, _) => k | some (.ret _ _ _ k, _) => k | _ => 0
def oR : Option (Out × Obl) → Result
  | some (.ret _ r _ _, _) => r | _ => .error .none
section
variable {h₀ : Heap} {chg : List (Addr × Obj)} {p : Setting} (Z : Calc h₀ chg p)
def goalOf : Option (Out × Obl) → Prop
  | some (.run fs c t news tok, _) => Z.G fs c t news tok
  | some (.code fs c news tok, _) => Z.C fs c news tok
  | some (.ret fs r news tok, _) => Z.B fs r news tok
  | none => False
structure OK (x : Option (Out × Obl)) : Prop where
  a : fA x = gA x
  b : fB x = gB x
  c : fC x = true
  g : goalOf Z x
end
-- the view of a ledger: without tokens, hashes and epochs
def bv (t : Tok) : Value → Value | .str s _ => .str s t | .int n _ => .int n t | v => v
def tkOf : Value → Tok | .str _ t => t | .int _ t => t | _ => 0
theorem bv_vv (v : Value) : bv (tkOf v) (vv v) = v := by cases v <;> rfl
structure JO where
  k : Nat → Tok
  v : Nat → Tok
  h : Nat → Int
  e : Nat
def jo0 : JO := ⟨fun _ => 0, fun _ => 0, fun _ => 0, 0⟩
def bVs (f : Nat → Tok) : List Value → List Value
  | [] => []
  | v :: l => bv (f 0) v :: bVs (fun n => f (n + 1)) l
def bEs (k v : Nat → Tok) (h : Nat → Int) : List DictEntry → List DictEntry
  | [] => []
  | ⟨_, x, y⟩ :: l => ⟨h 0, bv (k 0) x, bv (v 0) y⟩ :: bEs (fun n => k (n + 1)) (fun n => v (n + 1)) (fun n => h (n + 1)) l
def sh {α : Type} (a : α) (f : Nat → α) : Nat → α | 0 => a | n + 1 => f n
theorem bVs_ex : ∀ l, ∃ f, bVs f (l.map vv) = l
  | [] => ⟨fun _ => 0, rfl⟩
  | v :: l => by
    obtain ⟨f, hf⟩ := bVs_ex l
    refine ⟨sh (tkOf v) f, ?_⟩
    show bv (tkOf v) (vv v) :: bVs f (l.map vv) = v :: l
    rw [bv_vv, hf]
theorem bEs_ex : ∀ l, ∃ k v h, bEs k v h (l.map vE) = l
  | [] => ⟨fun _ => 0, fun _ => 0, fun _ => 0, rfl⟩
  | ⟨a, x, y⟩ :: l => by
    obtain ⟨k, v, h, hf⟩ := bEs_ex l
    refine ⟨sh (tkOf x) k, sh (tkOf y) v, sh a h, ?_⟩
    show DictEntry.mk a (bv (tkOf x) (vv x)) (bv (tkOf y) (vv y)) :: bEs k v h (l.map vE) = _
    rw [bv_vv, bv_vv, hf]
def xO : Obj → Obj
  | ⟨c, d, .dict es _, s⟩ => ⟨c, d, .dict es 0, s⟩
  | ⟨c, d, .seq es _, s⟩ => ⟨c, d, .seq es 0, s⟩
  | o => o
def bO (j : JO) : Bool → Obj → Obj
  | true, ⟨c, d, .dict es _, s⟩ => ⟨c, d, .dict ⟨bEs j.k j.v j.h es.toList⟩ j.e, s⟩
  | true, ⟨c, d, .seq es _, s⟩ => ⟨c, d, .seq ⟨bVs j.v es.toList⟩ j.e, s⟩
  | true, ⟨c, d, .fields es, s⟩ => ⟨c, d, .fields ⟨bVs j.v es.toList⟩, s⟩
  | true, ⟨c, d, .cell (some v), s⟩ => ⟨c, d, .cell (some (bv (j.v 0) v)), s⟩
  | false, ⟨c, d, .dict es _, s⟩ => ⟨c, d, .dict es j.e, s⟩
  | false, ⟨c, d, .seq es _, s⟩ => ⟨c, d, .seq es j.e, s⟩
  | _, o => o
theorem bO_v (o : Obj) : ∃ j, bO j true (vO o) = o := by
  obtain ⟨c, d, x, s⟩ := o
  cases x with
  | dict es n => obtain ⟨es⟩ := es; obtain ⟨k, v, h, e⟩ := bEs_ex es; exact ⟨⟨k, v, h, n⟩, by show (⟨c, d, .dict ⟨bEs k v h (es.map vE)⟩ n, s⟩ : Obj) = _; rw [e]⟩
  | seq es n => obtain ⟨es⟩ := es; obtain ⟨f, e⟩ := bVs_ex es; exact ⟨⟨f, f, fun _ => 0, n⟩, by show (⟨c, d, .seq ⟨bVs f (es.map vv)⟩ n, s⟩ : Obj) = _; rw [e]⟩
  | fields es => obtain ⟨es⟩ := es; obtain ⟨f, e⟩ := bVs_ex es; exact ⟨⟨f, f, fun _ => 0, 0⟩, by show (⟨c, d, .fields ⟨bVs f (es.map vv)⟩, s⟩ : Obj) = _; rw [e]⟩
  | cell v =>
    cases v with
    | none => exact ⟨jo0, rfl⟩
    | some v => exact ⟨⟨fun _ => 0, fun _ => tkOf v, fun _ => 0, 0⟩, by show (⟨c, d, .cell (some (bv (tkOf v) (vv v))), s⟩ : Obj) = _; rw [bv_vv]⟩
  | _ => exact ⟨jo0, rfl⟩
theorem bO_x (o : Obj) : ∃ j, bO j false (xO o) = o := by
  obtain ⟨c, d, x, s⟩ := o
  cases x with
  | dict es n => exact ⟨⟨fun _ => 0, fun _ => 0, fun _ => 0, n⟩, rfl⟩
  | seq es n => exact ⟨⟨fun _ => 0, fun _ => 0, fun _ => 0, n⟩, rfl⟩
  | cell v => cases v <;> exact ⟨jo0, rfl⟩
  | _ => exact ⟨jo0, rfl⟩
abbrev VL := List (Bool × Addr × Obj)
def build (J : Nat → JO) : VL → List (Addr × Obj)
  | [] => []
  | (b, a, o) :: l => (a, bO (J 0) b o) :: build (fun n => J (n + 1)) l
def led (J : Nat → JO) (V : VL) (rest : List (Addr × Obj)) : List (Addr × Obj) := build J V ++ rest
def view : List Nat → List (Addr × Obj) → VL × List (Addr × Obj)
  | 0 :: m, _ :: l => view m l
  | 1 :: m, (a, o) :: l => ((true, a, vO o) :: (view m l).1, (view m l).2)
  | (_ + 2) :: m, (a, o) :: l => ((false, a, xO o) :: (view m l).1, (view m l).2)
  | [], l => ([], l)
  | _ :: _, [] => ([], [])
theorem view_led : ∀ m l, ∃ J, (led J (view m l).1 (view m l).2).Sublist l
  | [], l => ⟨fun _ => jo0, List.Sublist.refl _⟩
  | 0 :: m, [] => ⟨fun _ => jo0, List.Sublist.slnil⟩
  | 1 :: m, [] => ⟨fun _ => jo0, List.Sublist.slnil⟩
  | (_ + 2) :: m, [] => ⟨fun _ => jo0, List.Sublist.slnil⟩
  | 0 :: m, p :: l => by
    obtain ⟨J, h⟩ := view_led m l
    exact ⟨J, h.cons p⟩
  | 1 :: m, (a, o) :: l => by
    obtain ⟨J, h⟩ := view_led m l
    obtain ⟨j, e⟩ := bO_v o
    refine ⟨sh j J, ?_⟩
    show ((a, bO j true (vO o)) :: led J (view m l).1 (view m l).2).Sublist _
    rw [e]; exact h.cons_cons _
  | (_ + 2) :: m, (a, o) :: l => by
    obtain ⟨J, h⟩ := view_led m l
    obtain ⟨j, e⟩ := bO_x o
    refine ⟨sh j J, ?_⟩
    show ((a, bO j false (xO o)) :: led J (view m l).1 (view m l).2).Sublist _
    rw [e]; exact h.cons_cons _
def rv : Result → Result | .ok (.ret v) => .ok (.ret (vv v)) | r => r
def rb (t : Tok) : Result → Result | .ok (.ret v) => .ok (.ret (bv t v)) | r => r
def tkR : Result → Tok | .ok (.ret v) => tkOf v | _ => 0
theorem rb_rv (r : Result) : rb (tkR r) (rv r) = r := by
  cases r with
  | error e => rfl
  | ok f => cases f <;> first | rfl | (show Except.ok (Flow.ret (bv (tkOf _) (vv _))) = _; rw [bv_vv])
def callee : Code → Value | .call f _ => f | _ => .none
def cpos : Code → List Value | .call _ a => a.pos | _ => []
def ckw : Code → Bool | .call _ a => a.kw.isEmpty | _ => false
section
variable {h₀ : Heap} {chg : List (Addr × Obj)} {p : Setting} {Z : Calc h₀ chg p}
theorem OK.out {x : Option (Out × Obl)} (k : OK Z x) : AnsOK Z x := by
  match x, k with
  | none, k => exact k.g.elim
  | some (.run .., b), k => exact ⟨_, b, rfl, ⟨pairs_eq k.a, pairs_eq k.b, fun x hx => List.all_eq_true.mp k.c x hx⟩, k.g⟩
  | some (.code .., b), k => exact ⟨_, b, rfl, ⟨pairs_eq k.a, pairs_eq k.b, fun x hx => List.all_eq_true.mp k.c x hx⟩, k.g⟩
  | some (.ret .., b), k => exact ⟨_, b, rfl, ⟨pairs_eq k.a, pairs_eq k.b, fun x hx => List.all_eq_true.mp k.c x hx⟩, k.g⟩
theorem sub_mm {h : Heap} {news news' : List (Addr × Obj)} (D : Mm h₀ h chg news) (e : news'.Sublist news) : Mm h₀ h chg news' := by
  obtain ⟨l, D, q⟩ := D
  obtain ⟨l', q', s⟩ := List.exists_perm_sublist e q.symm
  exact ⟨l', Mem.sub' D s, q'⟩
theorem gc_sub {fs c news news' tok} (e : news'.Sublist news) (x : Z.C fs c news' tok) : Z.C fs c news tok := Z.weakC (fun h D => sub_mm D e) x
theorem g_sub {fs c t news news' tok} (e : news'.Sublist news) (x : Z.G fs c t news' tok) : Z.G fs c t news tok := Z.weak (fun h D => sub_mm D e) x
theorem gb_sub {fs r news news' tok} (e : news'.Sublist news) (x : Z.B fs r news' tok) : Z.B fs r news tok := Z.weakB (fun h D => sub_mm D e) x
theorem g_news {fs c t news news' tok} (e : news = news') (x : Z.G fs c t news' tok) : Z.G fs c t news tok := by rw [e]; exact x
theorem g_eq {fs c t t' news tok} (e : Same t t') (x : Z.G fs c t' news tok) : Z.G fs c t news tok := by rw [show t = t' from e]; exact x
theorem g_code {fs c news tok} (x : Z.G fs c (den c) news tok) : Z.C fs c news tok := Z.code x
theorem g_fresh {fs c k news tok} (x : Z.G fs c (k tok) news (tok + 1)) : Z.G fs c (.fresh k) news tok := Z.fresh x
theorem g_handled {fs c k news tok} (x : Z.G fs c (k none) news tok) : Z.G fs c (.handled false k) news tok := Z.handled x
theorem g_load {fs c a q k news tok} {o : Obj} (ho : ∀ h, Mm h₀ h chg news → h.get? a = some o) (x : Z.G fs c (k o) news tok) : Z.G fs c (.load a q k) news tok := Z.load ho x
theorem g_alive {fs c a k news tok} {o : Obj} (ho : ∀ h, Mm h₀ h chg news → h.get? a = some o) (x : Z.G fs c (k (some o)) news tok) : Z.G fs c (.loadIfAlive a k) news tok := Z.alive ho x
theorem g_alloc {fs c o k news tok} (hf : o.isFreed = false) (x : ∀ a, Z.G fs c (k a) ((a, o) :: news) tok) : Z.G fs c (.alloc o k) news tok := Z.alloc hf x
theorem g_update {fs c a q f k news tok} {o : Obj} (i : Nat) (hi : news[i]? = some (a, o)) (hf : (f o).isFreed = false) (x : Z.G fs c (k ()) (news.set i (a, f o)) tok) : Z.G fs c (.update a q f k) news tok := Z.update i hi hf x
theorem g_call {fs c c' gd l k news tok} (x : Z.C (⟨c, k, gd⟩ :: fs) c' news tok) : Z.G fs c (.call c' none gd l k) news tok := Z.call x
theorem g_again {fs c c' news tok} (hq : c'.quiet = true) (x : Z.C fs c' news tok) : Z.G fs c (.pure (.again c')) news tok := Z.again hq x
theorem g_ret {f fs c v news tok} (x : Z.G fs f.c (f.k (.ok v)) news tok) : Z.G (f :: fs) c (.pure (.done v)) news tok := Z.done (Z.pop x)
theorem g_throw {f fs c e news tok} (x : Z.G fs f.c (f.k (.error e)) news tok) : Z.G (f :: fs) c (.raise e) news tok := Z.throw (Z.pop x)
theorem gb_cons {f fs r news tok} (x : Z.G fs f.c (f.k r) news tok) : Z.B (f :: fs) r news tok := Z.pop x
theorem g_skim {fs c t news tok} (x : Z.G fs c (skim p 1 t) news tok) : Z.G fs c t news tok := Z.skim x
theorem sus0 : Sus Z [] := fun _ h => nomatch h
theorem sus1 {s : Sm} {S : List Sm} (h : Su Z s) (hS : Sus Z S) : Sus Z (s :: S) := fun x hx => by
  cases hx with
  | head => exact h
  | tail _ hx => exact hS x hx
theorem g_rule {fs c tag k news tok} (x : Z.G fs c (k ()) news tok) : Z.G fs c (.rule tag k) news tok := g_skim x
theorem g_at {fs c p k news tok} (x : Z.G fs c (k ()) news tok) : Z.G fs c (.at p k) news tok := g_skim x
theorem g_point {fs c p k news tok} (x : Z.G fs c (k ()) news tok) : Z.G fs c (.point p k) news tok := g_skim x
theorem g_ask {fs c k news tok} (x : Z.G fs c (k p) news tok) : Z.G fs c (.ask k) news tok := g_skim x
theorem mC_call {c' : Code} {f as} (h : mC c' = .call f ⟨as, []⟩) : ∃ tks, c' = .call f ⟨bVs tks as, []⟩ := by
  cases c' with
  | call f' a =>
    obtain ⟨p, kw⟩ := a
    unfold mC at h
    injection h with h1 h2
    injection h2 with h3 h4
    obtain ⟨f, e⟩ := bVs_ex p
    exact ⟨f, by rw [← h1, ← h3, e, ← h4]⟩
  | _ => cases h
theorem mC1_call {c' : Code} {f v as} (h : mC1 c' = .call f ⟨v :: as, []⟩) : ∃ tk, c' = .call f ⟨bv tk v :: as, []⟩ := by
  cases c' with
  | call f' a =>
    obtain ⟨p, kw⟩ := a
    cases p with
    | nil => cases h
    | cons v' p =>
      unfold mC1 at h
      injection h with h1 h2
      injection h2 with h3 h4
      injection h3 with h5 h6
      exact ⟨tkOf v', by rw [← h1, ← h5, bv_vv, h6, h4]⟩
  | _ => cases h
theorem getAll0 {news : List (Addr × Obj)} {is} (h : getAll news is = some []) : is = [] := by
  match is, h with
  | [], h => rfl
  | i :: is, h =>
    unfold getAll at h
    split at h
    · split at h <;> cases h
    · cases h
theorem getAll1 {news : List (Addr × Obj)} {is p} (h : getAll news is = some [p]) : ∃ i, is = [i] ∧ news[i]? = some p := by
  match is, h with
  | [], h => cases h
  | i :: is, h =>
    unfold getAll at h
    split at h
    · rename_i q hq
      split at h
      · rename_i l hl
        cases h
        exact ⟨i, by rw [getAll0 hl], hq⟩
      · cases h
    · cases h
theorem old1 {news : List (Addr × Obj)} {is : List Nat} {old : List (Addr × Obj)} {a : Addr} {o : Obj} (h : getAll news is = some old) (e : old.map vP = [(a, o)]) : ∃ i j, is = [i] ∧ old = [(a, bO j true o)] ∧ news[i]? = some (a, bO j true o) := by
  cases old with
  | nil => cases e
  | cons p old =>
    cases old with
    | cons => cases e
    | nil =>
      obtain ⟨i, rfl, hi⟩ := getAll1 h
      obtain ⟨b, o'⟩ := p
      obtain ⟨j, hj⟩ := bO_v o'
      have e1 := (List.cons.inj e).1
      have e2 : b = a := congrArg Prod.fst e1
      have e3 : vO o' = o := congrArg Prod.snd e1
      rw [e3] at hj
      subst e2
      exact ⟨i, j, rfl, by rw [hj], by rw [hj]; exact hi⟩
section
variable {K : Frag} {S : List Sm} (X : K.In h₀) (hS : Sus Z S) {fs : List Fr} {c : Code} {t : Sem PySem.Fin} {news : List (Addr × Obj)} {tok : Nat} (ops : List Op)
include X hS
theorem run0 (hn : allocs ops = 0) (x : let E := ex p K chg S ops fs c t news tok []; OK Z E) : Z.G fs c t news tok :=
  exS_sound Z X hS ops _ _ _ _ _ fun ρ h => by rw [hn] at h; rw [List.length_eq_zero_iff.mp h]; exact OK.out x
theorem runF (x : ∀ f : Nat → Addr, let E := ex p K chg S ops fs c t news tok ((List.range (allocs ops)).map f); OK Z E) : Z.G fs c t news tok :=
  exS_sound Z X hS ops _ _ _ _ _ fun ρ h => by
    have e : (List.range (allocs ops)).map (fun i => ρ.getD i 0) = ρ := by
      apply List.ext_getElem?
      intro i
      rw [List.getElem?_map, ← h]
      by_cases hi : i < ρ.length
      · rw [List.getElem?_range hi]; simp [hi]
      · rw [List.getElem?_eq_none (by simpa using hi), List.getElem?_eq_none (by simpa using hi)]; rfl
    have := OK.out (x fun i => ρ.getD i 0)
    rwa [e] at this
theorem run1 (hn : allocs ops = 1) (x : ∀ a, let E := ex p K chg S ops fs c t news tok [a]; OK Z E) : Z.G fs c t news tok :=
  exS_sound Z X hS ops _ _ _ _ _ fun ρ h => by
    rw [hn] at h
    match ρ, h with
    | [a], _ => exact OK.out (x a)
theorem run2 (hn : allocs ops = 2) (x : ∀ a b, let E := ex p K chg S ops fs c t news tok [a, b]; OK Z E) : Z.G fs c t news tok :=
  exS_sound Z X hS ops _ _ _ _ _ fun ρ h => by
    rw [hn] at h
    match ρ, h with
    | [a, b], _ => exact OK.out (x a b)
theorem run3 (hn : allocs ops = 3) (x : ∀ a b c', let E := ex p K chg S ops fs c t news tok [a, b, c']; OK Z E) : Z.G fs c t news tok :=
  exS_sound Z X hS ops _ _ _ _ _ fun ρ h => by
    rw [hn] at h
    match ρ, h with
    | [a, b, c], _ => exact OK.out (x a b c)
theorem run4 (hn : allocs ops = 4) (x : ∀ a b c' d', let E := ex p K chg S ops fs c t news tok [a, b, c', d']; OK Z E) : Z.G fs c t news tok :=
  exS_sound Z X hS ops _ _ _ _ _ fun ρ h => by
    rw [hn] at h
    match ρ, h with
    | [a, b, c, d], _ => exact OK.out (x a b c d)
theorem run5 (hn : allocs ops = 5) (x : ∀ a b c' d' e', let E := ex p K chg S ops fs c t news tok [a, b, c', d', e']; OK Z E) : Z.G fs c t news tok :=
  exS_sound Z X hS ops _ _ _ _ _ fun ρ h => by
    rw [hn] at h
    match ρ, h with
    | [a, b, c, d, e], _ => exact OK.out (x a b c d e)
theorem run6 (hn : allocs ops = 6) (x : ∀ a b c' d' e' f', let E := ex p K chg S ops fs c t news tok [a, b, c', d', e', f']; OK Z E) : Z.G fs c t news tok :=
  exS_sound Z X hS ops _ _ _ _ _ fun ρ h => by
    rw [hn] at h
    match ρ, h with
    | [a, b, c, d, e, f], _ => exact OK.out (x a b c d e f)
theorem run7 (hn : allocs ops = 7) (x : ∀ a b c' d' e' f' g', let E := ex p K chg S ops fs c t news tok [a, b, c', d', e', f', g']; OK Z E) : Z.G fs c t news tok :=
  exS_sound Z X hS ops _ _ _ _ _ fun ρ h => by
    rw [hn] at h
    match ρ, h with
    | [a, b, c, d, e, f, g], _ => exact OK.out (x a b c d e f g)
theorem run8 (hn : allocs ops = 8) (x : ∀ a b c' d' e' f' g' h', let E := ex p K chg S ops fs c t news tok [a, b, c', d', e', f', g', h']; OK Z E) : Z.G fs c t news tok :=
  exS_sound Z X hS ops _ _ _ _ _ fun ρ h => by
    rw [hn] at h
    match ρ, h with
    | [a, b, c, d, e, f, g, h], _ => exact OK.out (x a b c d e f g h)
end
section
variable {x : Option (Out × Obl)}
theorem e_run (h : oKind x = 1) (k : Z.G (oFs x) (oC x) (oT x) (oN x) (oK x)) : goalOf Z x := by
  cases x with
  | none => exact absurd h (by decide)
  | some p => obtain ⟨o, b⟩ := p; cases o <;> first | exact k | (simp only [oKind] at h; omega)
theorem e_code (h : oKind x = 2) (k : Z.C (oFs x) (oC x) (oN x) (oK x)) : goalOf Z x := by
  cases x with
  | none => exact absurd h (by decide)
  | some p => obtain ⟨o, b⟩ := p; cases o <;> first | exact k | (simp only [oKind] at h; omega)
theorem e_ret (h : oKind x = 3) (k : Z.B (oFs x) (oR x) (oN x) (oK x)) : goalOf Z x := by
  cases x with
  | none => exact absurd h (by decide)
  | some p => obtain ⟨o, b⟩ := p; cases o <;> first | exact k | (simp only [oKind] at h; omega)
theorem ok_view (m : List Nat) {V rest} (e : (fA x, fB x, fC x, oKind x, view m (oN x)) = (gA x, gB x, true, 1, (V, rest))) (k : ∀ J tok, Z.G (oFs x) (oC x) (oT x) (led J V rest) tok) : OK Z x := by
  obtain ⟨e1, e⟩ := Prod.mk.inj e; obtain ⟨e2, e⟩ := Prod.mk.inj e; obtain ⟨e3, e⟩ := Prod.mk.inj e; obtain ⟨e4, e⟩ := Prod.mk.inj e
  obtain ⟨J, h⟩ := view_led m (oN x)
  rw [e] at h
  exact ⟨e1, e2, e3, e_run e4 (g_sub h (k J _))⟩
-- the ends, each with one equation for the kernel
theorem ok_run (e : (fA x, fB x, fC x, oKind x) = (gA x, gB x, true, 1)) (k : Z.G (oFs x) (oC x) (oT x) (oN x) (oK x)) : OK Z x := by
  obtain ⟨e1, e⟩ := Prod.mk.inj e; obtain ⟨e2, e⟩ := Prod.mk.inj e; obtain ⟨e3, e⟩ := Prod.mk.inj e
  exact ⟨e1, e2, e3, e_run e k⟩
theorem ok_code0 (e : (fA x, fB x, fC x, oKind x) = (gA x, gB x, true, 2)) (k : Z.C (oFs x) (oC x) (oN x) (oK x)) : OK Z x := by
  obtain ⟨e1, e⟩ := Prod.mk.inj e; obtain ⟨e2, e⟩ := Prod.mk.inj e; obtain ⟨e3, e⟩ := Prod.mk.inj e
  exact ⟨e1, e2, e3, e_code e k⟩
theorem ok_ret0 (e : (fA x, fB x, fC x, oKind x) = (gA x, gB x, true, 3)) (k : Z.B (oFs x) (oR x) (oN x) (oK x)) : OK Z x := by
  obtain ⟨e1, e⟩ := Prod.mk.inj e; obtain ⟨e2, e⟩ := Prod.mk.inj e; obtain ⟨e3, e⟩ := Prod.mk.inj e
  exact ⟨e1, e2, e3, e_ret e k⟩
theorem ok_code (m : List Nat) {fs c V rest} (e : (fA x, fB x, fC x, oKind x, oFs x, oC x, view m (oN x)) = (gA x, gB x, true, 2, fs, c, (V, rest))) (k : ∀ J tok, Z.C fs c (led J V rest) tok) : OK Z x := by
  obtain ⟨e1, e⟩ := Prod.mk.inj e; obtain ⟨e2, e⟩ := Prod.mk.inj e; obtain ⟨e3, e⟩ := Prod.mk.inj e; obtain ⟨e4, e⟩ := Prod.mk.inj e; obtain ⟨e5, e⟩ := Prod.mk.inj e; obtain ⟨e6, e⟩ := Prod.mk.inj e
  obtain ⟨J, h⟩ := view_led m (oN x)
  rw [e] at h
  exact ⟨e1, e2, e3, e_code e4 (gc_sub h (by rw [e5, e6]; exact k J _))⟩
theorem ok_loop (m : List Nat) {V rest} (e : (fA x, fB x, fC x, oKind x, view m (oN x)) = (gA x, gB x, true, 2, (V, rest))) (k : ∀ J tok, Z.C (oFs x) (oC x) (led J V rest) tok) : OK Z x := by
  obtain ⟨e1, e⟩ := Prod.mk.inj e; obtain ⟨e2, e⟩ := Prod.mk.inj e; obtain ⟨e3, e⟩ := Prod.mk.inj e; obtain ⟨e4, e⟩ := Prod.mk.inj e
  obtain ⟨J, h⟩ := view_led m (oN x)
  rw [e] at h
  exact ⟨e1, e2, e3, e_code e4 (gc_sub h (k J _))⟩
theorem ok_loopC (m : List Nat) (c : Code) {V rest} (e : (fA x, fB x, fC x, oKind x, oC x, view m (oN x)) = (gA x, gB x, true, 2, c, (V, rest))) (k : ∀ J tok, Z.C (oFs x) c (led J V rest) tok) : OK Z x := by
  obtain ⟨e1, e⟩ := Prod.mk.inj e; obtain ⟨e2, e⟩ := Prod.mk.inj e; obtain ⟨e3, e⟩ := Prod.mk.inj e; obtain ⟨e4, e⟩ := Prod.mk.inj e; obtain ⟨e5, e⟩ := Prod.mk.inj e
  obtain ⟨J, h⟩ := view_led m (oN x)
  rw [e] at h
  exact ⟨e1, e2, e3, e_code e4 (gc_sub h (by rw [e5]; exact k J _))⟩
theorem ok_ret (m : List Nat) {fs r V rest} (e : (fA x, fB x, fC x, oKind x, oFs x, rv (oR x), view m (oN x)) = (gA x, gB x, true, 3, fs, r, (V, rest))) (k : ∀ tk J tok, Z.B fs (rb tk r) (led J V rest) tok) : OK Z x := by
  obtain ⟨e1, e⟩ := Prod.mk.inj e; obtain ⟨e2, e⟩ := Prod.mk.inj e; obtain ⟨e3, e⟩ := Prod.mk.inj e; obtain ⟨e4, e⟩ := Prod.mk.inj e; obtain ⟨e5, e⟩ := Prod.mk.inj e; obtain ⟨e6, e⟩ := Prod.mk.inj e
  obtain ⟨J, h⟩ := view_led m (oN x)
  rw [e] at h
  exact ⟨e1, e2, e3, e_ret e4 (gb_sub h (by rw [e5, ← rb_rv (oR x), e6]; exact k _ J _))⟩
theorem ok_call (m : List Nat) {f as V rest} (e : (fA x, fB x, fC x, oKind x, callee (oC x), ckw (oC x), (cpos (oC x)).map vv, view m (oN x)) = (gA x, gB x, true, 2, f, true, as, (V, rest))) (k : ∀ tks J tok, Z.C (oFs x) (.call f ⟨bVs tks as, []⟩) (led J V rest) tok) (hf : f ≠ .none) : OK Z x := by
  obtain ⟨e1, e⟩ := Prod.mk.inj e; obtain ⟨e2, e⟩ := Prod.mk.inj e; obtain ⟨e3, e⟩ := Prod.mk.inj e; obtain ⟨e4, e⟩ := Prod.mk.inj e; obtain ⟨e5, e⟩ := Prod.mk.inj e; obtain ⟨e6, e⟩ := Prod.mk.inj e; obtain ⟨e7, e⟩ := Prod.mk.inj e
  obtain ⟨J, h⟩ := view_led m (oN x)
  obtain ⟨tks, ht⟩ := bVs_ex (cpos (oC x))
  rw [e] at h
  rw [e7] at ht
  refine ⟨e1, e2, e3, e_code e4 (gc_sub h ?_)⟩
  have : oC x = .call f ⟨bVs tks as, []⟩ := by
    rw [ht]
    cases q : oC x with
    | call f' a =>
      rw [q] at e5 e6
      obtain ⟨p, kw⟩ := a
      cases kw with
      | nil => rw [← e5]; rfl
      | cons => cases e6
    | _ => rw [q] at e5; exact absurd e5.symm hf
  rw [this]; exact k tks J _
end
theorem g_stack {fs c k news tok n} (hR : Z.Rm fs n) (e : Nat.ble (n + (c.weight + c.cUnits)) 900 = true) (x : ∀ st, Near st → Z.G fs c (k st) news tok) : Z.G fs c (.stack k) news tok := Z.stack hR e x
def wS : List Fr → Nat | [] => 0 | f :: fs => (f.c.weight + f.c.cUnits) + wS fs
theorem rm_drop : ∀ (j : Nat) {F : List Fr} {n : Nat}, Z.Rm (F.drop j) n → Z.Rm F (n + wS (F.take j))
  | 0, F, n, h => by rw [List.take_zero]; exact h
  | j + 1, [], n, h => h
  | j + 1, f :: F, n, h => by
    have := rm_drop j (F := F) h
    refine Z.rm this (Nat.ble_eq_true_of_le ?_)
    show n + wS (F.take j) + (f.c.weight + f.c.cUnits) ≤ n + ((f.c.weight + f.c.cUnits) + wS (F.take j))
    omega
theorem g_stackN (j : Nat) {F fs₀ c k news tok n} (hR : Z.Rm fs₀ n) (e : F.drop j = fs₀) (e2 : Nat.ble (n + wS (F.take j) + (c.weight + c.cUnits)) 900 = true) (x : ∀ st, Near st → Z.G F c (k st) news tok) : Z.G F c (.stack k) news tok := by
  subst e; exact Z.stack (rm_drop j hR) e2 x
def stkK : Sem PySem.Fin → List (Code × Pos) → Sem PySem.Fin | .stack k => k | t => fun _ => t
def isStk : Sem PySem.Fin → Bool | .stack _ => true | _ => false
theorem g_stackP (j : Nat) {F fs₀ c t news tok n} (hR : Z.Rm fs₀ n) (s : isStk t = true) (e : F.drop j = fs₀) (e2 : Nat.ble (n + wS (F.take j) + (c.weight + c.cUnits)) 900 = true) (x : ∀ st, Near st → Z.G F c (stkK t st) news tok) : Z.G F c t news tok := by
  cases t <;> first | exact g_stackN j hR e e2 x | cases s
theorem rm_of (j : Nat) {F fs₀ n m} (hR : Z.Rm fs₀ n) (e : F.drop j = fs₀) (e2 : Nat.ble (n + wS (F.take j)) m = true) : Z.Rm F m := by
  subst e; exact Z.rmle (rm_drop j hR) e2
-- loops
theorem gc_loop {fs c} {rest : List (Addr × Obj)} {P : Type} (μ : P → Nat) (V : P → VL) (Q : P → Prop)
    (turn : ∀ p, Q p → (∀ p', μ p' < μ p → Q p' → ∀ J tok, Z.C fs c (led J (V p') rest) tok) → ∀ J tok, Z.C fs c (led J (V p) rest) tok)
    (p : P) (hq : Q p) : ∀ J tok, Z.C fs c (led J (V p) rest) tok := by
  have : ∀ n p, μ p = n → Q p → ∀ J tok, Z.C fs c (led J (V p) rest) tok := by
    intro n
    induction n using Nat.strongRecOn with
    | ind n ih => exact fun p e hq => turn p hq fun p' hl hq' => ih (μ p') (e ▸ hl) p' rfl hq'
  exact this _ p rfl hq
end
theorem same_cF {α : Type} {b : Bool} {x y z : α} (h : b = false) (e : Same y z) : Same (cond b x y) z := by subst h; exact e
theorem same_cT {α : Type} {b : Bool} {x y z : α} (h : b = true) (e : Same x z) : Same (cond b x y) z := by subst h; exact e
theorem dF {p : Prop} {i : Decidable p} (h : ¬p) : @decide p i = false := by cases i with
  | isTrue q => exact absurd q h
  | isFalse => rfl
theorem dT {p : Prop} {i : Decidable p} (h : p) : @decide p i = true := by cases i with
  | isTrue q => rfl
  | isFalse q => exact absurd h q
theorem same_decF {α : Type} {p : Prop} {i : Decidable p} {f : ¬p → α} {t : p → α} (h : ¬p) : Same (@Decidable.rec p (fun _ => α) f t i) (f h) := by cases i with
  | isTrue q => exact absurd q h
  | isFalse => rfl
theorem same_decT {α : Type} {p : Prop} {i : Decidable p} {f : ¬p → α} {t : p → α} (h : p) : Same (@Decidable.rec p (fun _ => α) f t i) (t h) := by cases i with
  | isTrue q => rfl
  | isFalse q => exact absurd h q
-- parts of a function of the text, out of the fragment
def bodyOf (K : Frag) (a : Nat) : List Stmt := match K.lookup a with | some ⟨_, _, .func f, _⟩ => (match f.body with | .stmts b => b | _ => []) | _ => []
noncomputable def envOf (K : Frag) (a code : Nat) (L : Addr) : Env := match K.lookup a with
  | some ⟨_, _, .func f, _⟩ => { scope := f.scope, locals := L, globals := 3, cells := [], qual := f.qualname ++ Str.ofString ".<locals>.", func := some a, code := .ref code, frame := some L, builtins := 0 }
  | _ => default
noncomputable def forC (s : Option Stmt) (it : Value) (env : Env) : Code := match s with
  | some (.For t _ b o _) => .forLoop t it b o env
  | some (.While t b o _) => .whileLoop t b o env
  | _ => .block [] env
theorem n_pair {p : Addr × Obj} {a : Addr} {o o' : Obj} (h : p = (a, o)) (e : o = o') : p = (a, o') := by rw [h, e]
end Mine

end

section
open Lean PySem PySem.W PySem.W.X PySem.Calls
namespace Mine
theorem perm_set {α : Type} {l news : List α} {p x : α} {i j : Nat} (q : l.Perm news) (hi : l[i]? = some p) (hj : news[j]? = some p) : (l.set i x).Perm (news.set j x) := by
  have f : ∀ (l : List α) (i : Nat), l[i]? = some p → ∃ r, l.Perm (p :: r) ∧ (l.set i x).Perm (x :: r) := by
    intro l
    induction l with
    | nil => intro i h; cases h
    | cons a l ih =>
      intro i h
      cases i with
      | zero => cases h; exact ⟨l, .refl _, .refl _⟩
      | succ i =>
        obtain ⟨r, h1, h2⟩ := ih i (by simpa using h)
        exact ⟨a :: r, (h1.cons a).trans (.swap _ _ _), (h2.cons a).trans (.swap _ _ _)⟩
  obtain ⟨r, h1, h2⟩ := f l i hi
  obtain ⟨r', h3, h4⟩ := f news j hj
  have : r.Perm r' := (h1.symm.trans (q.trans h3)).cons_inv
  exact h2.trans ((this.cons x).trans h4.symm)
theorem Mm.alloc {h₀ h : Heap} {chg news : List (Addr × Obj)} {l : List (Addr × Obj)} {a : Addr} {o : Obj} {h' : Heap} (q : l.Perm news) (D' : Mem h₀ h' chg ((a, o) :: l)) : Mm h₀ h' chg ((a, o) :: news) := ⟨_, D', q.cons _⟩
section
variable (prog : Program) (w : World) (A : Around) (R : Result → Shared → Prop) (h₀ : Heap) (d : Drawn) (os : OsState)
def Ar (A : Around) : List Fr → Around
  | [] => A
  | f :: fs => ((Ar A fs).under f.c).mark none
def Rk : List Fr → Result → Shared → Prop
  | [] => R
  | f :: fs => postR prog w (Ar A fs) f.c (postC prog w (Ar A fs) (Rk fs)) (postE (Rk fs)) f.k
theorem handled_Ar {A : Around} (hh : A.handled = none) : ∀ fs, (Ar A fs).handled = none
  | [] => hh
  | f :: fs => by show (((Ar A fs).under f.c).mark none).handled = none; rw [Around.mark_none]; exact handled_Ar hh fs
variable (hh : A.handled = none)
def wpC (chg : List (Addr × Obj)) (g : Array GenState) : Calc h₀ chg ⟨prog, w.params⟩ where
  G fs c t news tok := ∀ h, Mm h₀ h chg news → wpOwn (model prog w) (Ar A fs) c t (postC prog w (Ar A fs) (Rk prog w A R fs)) (postE (Rk prog w A R fs)) ⟨h, g, d, tok, os⟩
  C fs c news tok := ∀ h, Mm h₀ h chg news → codeAny (model prog w) (Ar A fs) c (Rk prog w A R fs) ⟨h, g, d, tok, os⟩
  B fs r news tok := ∀ h, Mm h₀ h chg news → Rk prog w A R fs r ⟨h, g, d, tok, os⟩
  Rm fs n := (Ar A fs).depth ≤ n ∧ (Ar A fs).units ≤ n
  code x h D := y_code prog w _ _ _ _ (by rw [den_eq]; exact x h D)
  skim x h D := y_skim _ prog w _ _ _ _ _ _ 1 (x h D)
  fresh x h D := y_fresh _ prog w _ _ _ _ h g d _ os _ (x h D)
  handled x h D := y_handled _ prog w _ _ _ _ _ _ (by rw [handled_Ar hh]; exact x h D)
  load ho x h D := y_load _ prog w _ _ _ _ h g d _ os _ _ _ _ (ho h D) (x h D)
  alive ho x h D := X.y_alive _ prog w _ _ _ _ h g d _ os _ _ _ (ho h D) (x h D)
  alloc hf x h D := by
    obtain ⟨l, D, q⟩ := D
    exact y_alloc _ prog w _ _ _ _ h₀ chg l h g d _ os _ _ D hf fun a h' D' => x a h' ⟨_, D', q.cons _⟩
  update i hi hf x h D := by
    obtain ⟨l, D, q⟩ := D
    obtain ⟨j, hj⟩ := List.mem_iff_getElem?.mp (q.mem_iff.mpr (List.mem_of_getElem? hi))
    exact y_update _ prog w _ _ _ _ h₀ chg l h g d _ os _ _ _ _ _ D j hj hf fun h' D' => x h' ⟨_, D', perm_set q hj hi⟩
  call x h D := y_call _ prog w _ _ _ _ _ _ none _ _ _ (by intro e; cases e) (x h D)
  again hq x h D := y_pure _ prog w _ _ _ _ _ _ ⟨hq, x h D⟩
  done x h D := y_pure _ prog w _ _ _ _ _ _ (x h D)
  throw x h D := y_raise _ prog w _ _ _ _ _ _ (x h D)
  pop x h D := x h D
  weak e x h D := x h (e h D)
  weakC e x h D := x h (e h D)
  weakB e x h D := x h (e h D)
  rm := by
    intro f fs n m h e
    have := Nat.le_of_ble_eq_true e
    show (Ar A fs).depth + f.c.weight ≤ m ∧ (Ar A fs).units + f.c.cUnits ≤ m
    omega
  rmle := by
    intro fs n m h e
    have := Nat.le_of_ble_eq_true e
    omega
  stack := by
    intro fs c k news tok n h e x s D
    have e := Nat.le_of_ble_eq_true e
    have h1 : ((Ar A fs).under c).depth < recursionLimit := by
      show (Ar A fs).depth + c.weight < 1000; omega
    have h2 : ((Ar A fs).under c).units < cLine := by
      show (Ar A fs).units + c.cUnits < _; unfold cLine; omega
    exact y_stack _ prog w _ _ _ _ _ k fun p b l => x _ ⟨fun own => f_near l h1, fun own => f_over l h1, fun own => f_warm l h1, f_room l h2⟩ s D
end
end Mine

end

section
open Lean PySem PySem.W PySem.W.X PySem.Calls
namespace Mine
def FrR (f : Fr) (F : Frame) : Prop := ∃ l p, F = .ret f.k none f.gd l f.c p []
inductive FrL : List Fr → List Frame → Prop
  | nil : FrL [] []
  | cons {f F fs Fs} : FrR f F → FrL fs Fs → FrL (f :: fs) (F :: Fs)
theorem marks0 {fs : List Fr} {Fs : List Frame} {x : Option Value × Option Value} (h : FrL fs Fs) (h1 : x.1 = none) (h2 : x.2 = none) : (marksOver Fs x).1 = none := by
  have : (marksOver Fs x).1 = none ∧ (marksOver Fs x).2 = none := by
    induction h with
    | nil => exact ⟨h1, h2⟩
    | cons f _ ih =>
      obtain ⟨l, p, rfl⟩ := f
      exact ih
  exact this.1
def wsum : List Fr → Nat | [] => 0 | f :: fs => f.c.weight + wsum fs
def usum : List Fr → Nat | [] => 0 | f :: fs => f.c.cUnits + usum fs
theorem wsum_eq {fs : List Fr} {Fs : List Frame} (h : FrL fs Fs) : frameCount (Fs.map Frame.where_) = wsum fs ∧ unitsOf (Fs.map Frame.where_) = usum fs := by
  induction h with
  | nil => exact ⟨rfl, rfl⟩
  | cons f _ ih =>
    obtain ⟨l, p, rfl⟩ := f
    refine ⟨?_, ?_⟩
    · show frameCount ((_, p) :: _) = _ + _
      rw [← ih.1]; simp [frameCount]
    · show unitsOf ((_, p) :: _) = _ + _
      rw [← ih.2]; simp [unitsOf]
section
variable (prog : Program) (w : World) (A : Around) (P : End → Shared → Prop) (h₀ : Heap) (d : Drawn) (os : OsState) (hh : A.handled = none)
def GS (chg : List (Addr × Obj)) (g : Array GenState) (fs : List Fr) (c : Code) (t : Sem PySem.Fin) (news : List (Addr × Obj)) (tok : Nat) : Prop :=
  ∀ Fs, FrL fs Fs → ∀ h, Mm h₀ h chg news → SegX (model prog w) A c t Fs ⟨h, g, d, tok, os⟩ P
def sgC (chg : List (Addr × Obj)) (g : Array GenState) : Calc h₀ chg ⟨prog, w.params⟩ where
  G fs c t news tok := GS prog w A P h₀ d os chg g fs c t news tok
  C fs c news tok := GS prog w A P h₀ d os chg g fs c (den c) news tok
  B fs r news tok := match fs with
    | [] => ∀ h, Mm h₀ h chg news → P (.ret r) ⟨h, g, d, tok, os⟩
    | f :: fs => GS prog w A P h₀ d os chg g fs f.c (f.k r) news tok
  Rm fs n := A.depth + wsum fs ≤ n ∧ A.units + usum fs ≤ n
  code x := x
  skim x Fs F h D := s_skim prog w _ _ _ _ _ _ 1 (x Fs F h D)
  fresh x Fs F h D := s_fresh prog w _ _ _ _ h g d _ os _ (x Fs F h D)
  handled x Fs F h D := s_handled prog w _ _ _ _ _ _ (by rw [show (A.over _ Fs).handled = none from marks0 F hh hh]; exact x Fs F h D)
  load ho x Fs F h D := s_load prog w _ _ _ _ h g d _ os _ _ _ _ (ho h D) (x Fs F h D)
  alive ho x Fs F h D := s_alive prog w _ _ _ _ h g d _ os _ _ _ (ho h D) (x Fs F h D)
  alloc hf x Fs F h D := by
    obtain ⟨l, D, q⟩ := D
    exact s_alloc prog w _ _ _ _ h₀ chg l h g d _ os _ _ D hf fun a h' D' => x a Fs F h' ⟨_, D', q.cons _⟩
  update i hi hf x Fs F h D := by
    obtain ⟨l, D, q⟩ := D
    obtain ⟨j, hj⟩ := List.mem_iff_getElem?.mp (q.mem_iff.mpr (List.mem_of_getElem? hi))
    exact s_update prog w _ _ _ _ h₀ chg l h g d _ os _ _ _ _ _ D j hj hf fun h' D' => x Fs F h' ⟨_, D', perm_set q hj hi⟩
  call x Fs F h D := s_call prog w _ _ _ _ _ _ _ _ _ _ fun p => by rw [den_eq]; exact x _ (.cons ⟨_, _, rfl⟩ F) h D
  again hq x Fs F h D := s_again prog w _ _ _ _ _ _ hq (by rw [den_eq]; exact x Fs F h D)
  done := by
    intro fs c v news tok x Fs F h D
    cases F with
    | nil => exact s_end prog w _ _ _ _ _ _ rfl (x h D)
    | cons f F =>
      obtain ⟨l, p, rfl⟩ := f
      exact s_pop prog w _ _ _ _ _ (.ok v) _ rfl _ _ _ _ _ _ _ (x _ F h D)
  throw := by
    intro fs c e news tok x Fs F h D
    cases F with
    | nil => exact s_end prog w _ _ _ _ _ _ rfl (x h D)
    | cons f F =>
      obtain ⟨l, p, rfl⟩ := f
      exact s_pop prog w _ _ _ _ _ (.error e) _ rfl _ _ _ _ _ _ _ (x _ F h D)
  pop x := x
  weak e x Fs F h D := x Fs F h (e h D)
  weakC e x Fs F h D := x Fs F h (e h D)
  weakB := by
    intro fs r news news' tok e x
    cases fs with
    | nil => exact fun h D => x h (e h D)
    | cons f fs => exact fun Fs F h D => x Fs F h (e h D)
  rm := by
    intro f fs n m h e
    have := Nat.le_of_ble_eq_true e
    show A.depth + (f.c.weight + wsum fs) ≤ m ∧ A.units + (f.c.cUnits + usum fs) ≤ m
    omega
  rmle := by
    intro fs n m h e
    have := Nat.le_of_ble_eq_true e
    omega
  stack := by
    intro fs c k news tok n h e x Fs F s D
    have e := Nat.le_of_ble_eq_true e
    have q := wsum_eq F
    have h1 : (A.over c Fs).depth < recursionLimit := by
      show A.depth + frameCount (Fs.map Frame.where_) + c.weight < 1000; omega
    have h2 : (A.over c Fs).units < cLine := by
      show A.units + unitsOf (Fs.map Frame.where_) + c.cUnits < _; unfold cLine; omega
    exact s_stack prog w _ _ _ _ _ k fun p b l => x _ ⟨fun own => f_near l h1, fun own => f_over l h1, fun own => f_warm l h1, f_room l h2⟩ Fs F s D
end
noncomputable def tupO (l : List Value) : Obj := ⟨.type SZ.s2766695959194262286x5, none, .seq ⟨l⟩ 0, #[]⟩
def isYld : Sem PySem.Fin → Bool | .yield _ false _ _ => true | _ => false
def yV : Sem PySem.Fin → Value | .yield v _ _ _ => v | _ => .none
def yK : Sem PySem.Fin → Resume → Sem PySem.Fin | .yield _ _ _ k => k | t => fun _ => t
def isNew : Sem PySem.Fin → Bool | .newGen _ _ => true | _ => false
def ngC : Sem PySem.Fin → Code | .newGen c _ => c | _ => .block [] default
def ngK : Sem PySem.Fin → Nat → Sem PySem.Fin | .newGen _ k => k | t => fun _ => t
section
variable (prog : Program) (w : World) (h₀ : Heap) (d : Drawn) (os : OsState) (chg : List (Addr × Obj))
def Wk (st : GenState) (own : List (Addr × Obj)) (P : Array GenState → List (Addr × Obj) → End → Shared → Prop) : Prop :=
  ∀ A : Around, A.handled = none → A.depth ≤ 610 → A.units ≤ 610 → ∀ g rest tok h, Mm h₀ h chg (own ++ rest) → match st with
    | .fresh c₀ => SegX (model prog w) A c₀ (den c₀) [] ⟨h, g, d, tok, os⟩ (P g rest)
    | .suspended k _ c₀ _ fs₀ _ => SegX (model prog w) A c₀ (k (.send .none)) fs₀ ⟨h, g, d, tok, os⟩ (P g rest)
    | _ => False
def GenOK : List (Nat × Str) → GenState → List (Addr × Obj) → Prop
  | [], st, own => Wk prog w h₀ d os chg st own fun g rest e s => ∃ f h' tok' own', e = .ret (.ok f) ∧ e.result = .returned .none ∧ s = ⟨h', g, d, tok', os⟩ ∧ Mm h₀ h' chg (own' ++ rest)
  | (i, x) :: l, st, own => Wk prog w h₀ d os chg st own fun g rest e s => ∃ a t1 t2 n h' tok' own', e.result = .yielded (.ref a) ∧ s = ⟨h', g, d, tok', os⟩ ∧ Mm h₀ h' chg ((a, ⟨.type SZ.s2766695959194262286x5, none, .seq ⟨[.int (Int.ofNat i) t1, .str x t2]⟩ n, #[]⟩) :: (own' ++ rest)) ∧ GenOK l e.genState own'
def PP : List (Nat × Str) → Array GenState → List (Addr × Obj) → End → Shared → Prop
  | [], g, rest, e, s => ∃ f h' tok' own', e = .ret (.ok f) ∧ e.result = .returned .none ∧ s = ⟨h', g, d, tok', os⟩ ∧ Mm h₀ h' chg (own' ++ rest)
  | (i, x) :: l, g, rest, e, s => ∃ a t1 t2 n h' tok' own', e.result = .yielded (.ref a) ∧ s = ⟨h', g, d, tok', os⟩ ∧ Mm h₀ h' chg ((a, ⟨.type SZ.s2766695959194262286x5, none, .seq ⟨[.int (Int.ofNat i) t1, .str x t2]⟩ n, #[]⟩) :: (own' ++ rest)) ∧ GenOK prog w h₀ d os chg l e.genState own'
theorem genOK_iff (items : List (Nat × Str)) (st : GenState) (own : List (Addr × Obj)) : GenOK prog w h₀ d os chg items st own ↔ Wk prog w h₀ d os chg st own (PP prog w h₀ d os chg items) := by
  cases items with
  | nil => rfl
  | cons p l => obtain ⟨i, x⟩ := p; rfl
end
section
variable {prog : Program} {w : World} {h₀ : Heap} {d : Drawn} {os : OsState} {chg : List (Addr × Obj)}
theorem fresh_ok {items : List (Nat × Str)} {c : Code} {own : List (Addr × Obj)}
    (x : ∀ A (hA : A.handled = none), (∀ g rest, (sgC prog w A (PP prog w h₀ d os chg items g rest) h₀ d os hA chg g).Rm [] 610) → ∀ g rest tok, (sgC prog w A (PP prog w h₀ d os chg items g rest) h₀ d os hA chg g).C [] c (own ++ rest) tok) : GenOK prog w h₀ d os chg items (.fresh c) own :=
  (genOK_iff ..).mpr fun A hA hd hu g rest tok h D => x A hA (fun _ _ => ⟨hd, hu⟩) g rest tok [] .nil h D
theorem susp_ok {items : List (Nat × Str)} {k : Resume → Sem PySem.Fin} {l : List Value} {c : Code} {p : Pos} {cl : Bool} {fs : List Fr} {Fs : List Frame} {own : List (Addr × Obj)} (F : FrL fs Fs)
    (x : ∀ A (hA : A.handled = none) g rest tok, (sgC prog w A (PP prog w h₀ d os chg items g rest) h₀ d os hA chg g).G fs c (k (.send .none)) (own ++ rest) tok) : GenOK prog w h₀ d os chg items (.suspended k l c p Fs cl) own :=
  (genOK_iff ..).mpr fun A hA hd hu g rest tok h D => x A hA g rest tok Fs F h D
theorem noGen {fs : List Fr} {Fs : List Frame} (F : FrL fs Fs) (hg : fs.all (fun f => !f.gd) = true) : splitAtGen Fs = none ∧ Fs.any Frame.guarded = false := by
  induction F with
  | nil => exact ⟨rfl, rfl⟩
  | cons f _ ih =>
    obtain ⟨l, p, rfl⟩ := f
    rw [List.all_cons, Bool.and_eq_true] at hg
    obtain ⟨h1, h2⟩ := ih hg.2
    refine ⟨by unfold splitAtGen; rw [h1]; rfl, ?_⟩
    rw [List.any_cons, h2, Bool.or_false]
    simpa [Frame.guarded] using hg.1
theorem yield_ok {x : Option (Out × Obl)} {A : Around} {hA : A.handled = none} {g : Array GenState} {i : Nat} {xs : Str} {items : List (Nat × Str)} {rest : List (Addr × Obj)} {V : VL} {a : Addr} (m : List Nat)
    (e : (fA x, fB x, fC x, oKind x, isYld (oT x), yV (oT x), (oFs x).all (fun f => !f.gd), view m (oN x)) = (gA x, gB x, true, 1, true, .ref a, true, ((true, a, tupO [.int (Int.ofNat i) 0, .str xs 0]) :: V, rest)))
    (k : ∀ J A' (hA' : A'.handled = none) g' rest' tok', (sgC prog w A' (PP prog w h₀ d os chg items g' rest') h₀ d os hA' chg g').G (oFs x) (oC x) (yK (oT x) (.send .none)) (led J V rest') tok') :
    OK (sgC prog w A (PP prog w h₀ d os chg ((i, xs) :: items) g rest) h₀ d os hA chg g) x := by
  obtain ⟨e1, e⟩ := Prod.mk.inj e; obtain ⟨e2, e⟩ := Prod.mk.inj e; obtain ⟨e3, e⟩ := Prod.mk.inj e; obtain ⟨e4, e⟩ := Prod.mk.inj e; obtain ⟨e5, e⟩ := Prod.mk.inj e; obtain ⟨e6, e⟩ := Prod.mk.inj e; obtain ⟨e7, e⟩ := Prod.mk.inj e
  obtain ⟨J, hv⟩ := view_led m (oN x)
  rw [e] at hv
  refine ⟨e1, e2, e3, e_run e4 ?_⟩
  revert e5 e6 k
  generalize oT x = t
  intro k e5 e6 Fs F h D
  cases t with
  | yield v gg l kk =>
    cases gg with
    | true => cases e5
    | false =>
      obtain ⟨hs, hg⟩ := noGen F e7
      cases (show v = .ref a from e6)
      refine s_yield prog w _ _ _ _ _ _ _ _ hs hg fun p => ?_
      refine ⟨a, (J 0).v 0, (J 0).v 1, (J 0).e, h, oK x, build (fun n => J (n + 1)) V, rfl, rfl, ?_, ?_⟩
      · exact sub_mm D hv
      · exact susp_ok F fun A' hA' g' rest' tok' => k _ A' hA' g' rest' tok'
  | _ => cases e5
theorem end_ok {x : Option (Out × Obl)} {A : Around} {hA : A.handled = none} {g : Array GenState} {rest : List (Addr × Obj)} (m : List Nat) {V : VL}
    (e : (fA x, fB x, fC x, oKind x, oFs x, (match oR x with | .ok (.ret .none) => true | .ok .next => true | _ => false), view m (oN x)) = (gA x, gB x, true, 3, [], true, (V, rest))) : OK (sgC prog w A (PP prog w h₀ d os chg [] g rest) h₀ d os hA chg g) x := by
  obtain ⟨e1, e⟩ := Prod.mk.inj e; obtain ⟨e2, e⟩ := Prod.mk.inj e; obtain ⟨e3, e⟩ := Prod.mk.inj e; obtain ⟨e4, e⟩ := Prod.mk.inj e; obtain ⟨e5, e⟩ := Prod.mk.inj e; obtain ⟨e6, e⟩ := Prod.mk.inj e
  obtain ⟨J, hv⟩ := view_led m (oN x)
  rw [e] at hv
  refine ⟨e1, e2, e3, e_ret e4 ?_⟩
  rw [e5]
  intro h D
  have D' := sub_mm D hv
  revert e6
  cases oR x with
  | error v => intro e6; cases e6
  | ok f => cases f with
    | next => intro _; exact ⟨.next, h, _, build J V, rfl, rfl, rfl, D'⟩
    | ret v => cases v with
      | none => intro _; exact ⟨.ret .none, h, _, build J V, rfl, rfl, rfl, D'⟩
      | _ => intro e6; cases e6
    | _ => intro e6; cases e6
theorem gen_loop {fs : List Fr} {c : Code} {P : Type} (μ : P → Nat) (V : P → VL) (items : P → List (Nat × Str)) (Q : P → Prop)
    (turn : ∀ p, Q p → (∀ p', μ p' < μ p → Q p' → ∀ A (hA : A.handled = none) g rest J tok, (sgC prog w A (PP prog w h₀ d os chg (items p') g rest) h₀ d os hA chg g).C fs c (led J (V p') rest) tok) →
      ∀ A (hA : A.handled = none) g rest J tok, (sgC prog w A (PP prog w h₀ d os chg (items p) g rest) h₀ d os hA chg g).C fs c (led J (V p) rest) tok)
    (p : P) (hq : Q p) : ∀ A (hA : A.handled = none) g rest J tok, (sgC prog w A (PP prog w h₀ d os chg (items p) g rest) h₀ d os hA chg g).C fs c (led J (V p) rest) tok := by
  have : ∀ n p, μ p = n → Q p → ∀ A (hA : A.handled = none) g rest J tok, (sgC prog w A (PP prog w h₀ d os chg (items p) g rest) h₀ d os hA chg g).C fs c (led J (V p) rest) tok := by
    intro n
    induction n using Nat.strongRecOn with
    | ind n ih => exact fun p e hq => turn p hq fun p' hl hq' => ih (μ p') (e ▸ hl) p' rfl hq'
  exact this _ p rfl hq
end
end Mine

end

open Lean PySem PySem.W PySem.W.X PySem.Calls
namespace Mine
-- h.get? a = some ?o
local macro_rules | `(tactic| k_memK) => `(tactic| first
  | exact Mem.old (by assumption) _ _ (kGet (by assumption) rfl) rfl
  | exact Mem.at (by assumption) 0 _ _ rfl
  | exact Mem.at (by assumption) 1 _ _ rfl
  | exact Mem.at (by assumption) 2 _ _ rfl
  | exact Mem.at (by assumption) 3 _ _ rfl
  | exact Mem.at (by assumption) 4 _ _ rfl
  | exact Mem.at (by assumption) 5 _ _ rfl
  | exact Mem.at (by assumption) 6 _ _ rfl
  | exact Mem.at (by assumption) 7 _ _ rfl
  | exact Mem.at (by assumption) 8 _ _ rfl
  | exact Mem.at (by assumption) 9 _ _ rfl
  | exact Mem.at (by assumption) 10 _ _ rfl
  | exact Mem.at (by assumption) 11 _ _ rfl
  | exact Mem.at (by assumption) 12 _ _ rfl
  | exact Mem.at (by assumption) 13 _ _ rfl
  | exact Mem.at (by assumption) 14 _ _ rfl
  | exact Mem.at (by assumption) 15 _ _ rfl)
-- normal forms: values, lists, objects
local macro_rules | `(tactic| k_offL) => `(tactic| ((conv => lhs; whnf) <;> exact rfl))
local macro_rules | `(tactic| k_updF) => `(tactic| ((conv => lhs; (try dsimp only)) <;> exact rfl))
local macro_rules | `(tactic| k_allIn) => `(tactic| first
  | exact n_nil rfl
  | exact n_cons rfl (n_entry rfl (by k_updF) (by k_updF) (by k_offL)) (by k_allIn)
  | exact n_cons rfl (by k_offL) (by k_allIn))
local macro_rules | `(tactic| k_clsL) => `(tactic| first
  | exact n_condT rfl (by assumption) (by k_allIn)
  | exact n_condF rfl (by assumption) (by k_allIn)
  | exact n_dict rfl (by k_allIn)
  | exact n_seq rfl (by k_allIn)
  | exact n_fields rfl (by k_allIn)
  | exact n_cell rfl (by k_offL)
  | exact n_cell0 rfl
  | exact n_plain rfl
  | exact n_any rfl)
local macro_rules | `(tactic| k_ownIn) => `(tactic| first
  | exact n_nil rfl
  | exact n_cons rfl (n_pair rfl (by k_clsL)) (by k_ownIn))
local macro_rules | `(tactic| k_upd) => `(tactic| (conv => arg 4; whnf))
-- room
local macro_rules | `(tactic| k_intsEnd) => `(tactic| first
  | ((with_reducible apply r_depth_mark); k_intsEnd)
  | ((with_reducible apply r_units_mark); k_intsEnd)
  | ((with_reducible apply d_call); k_intsEnd)
  | ((with_reducible apply u_call); k_intsEnd)
  | ((with_reducible apply d_builtin (p := by decide +kernel)); k_intsEnd)
  | ((with_reducible apply u_builtin (p := by decide +kernel)); k_intsEnd)
  | ((with_reducible apply d_func); k_intsEnd)
  | ((with_reducible apply u_func); k_intsEnd)
  | ((with_reducible apply d_for); k_intsEnd)
  | ((with_reducible apply u_for); k_intsEnd)
  | ((with_reducible apply d_while); k_intsEnd)
  | ((with_reducible apply u_while); k_intsEnd)
  | with_reducible assumption
  | fail "room")
local macro_rules | `(tactic| k_places) => `(tactic| exact r_lt (by k_intsEnd) (by exact rfl))
-- the stuck place: down the majors; then a fact
local macro_rules | `(tactic| k_caughtNB) => `(tactic| ((conv => arg 1; whnf); exact same_rfl))
local macro_rules | `(tactic| k_caughtB) => `(tactic| first
      | ((with_reducible apply same_bool); exact same_rfl; (show _ = _); kernel_rfl!)
      | ((with_reducible apply same_condFn); exact same_rfl; (show _ = _); kernel_rfl!)
      | ((with_reducible apply same_cnndFn); exact same_rfl; (show _ = _); kernel_rfl!)
      | k_mem
      | fail "stuck")
local macro_rules | `(tactic| k_caught0) => `(tactic| (with_unfolding_all (conv => arg 1; whnf); first
  | ((with_reducible show Same (@Sem.rec _ _ _ _ _ _ _ _ _ _ _ _ _ _ _ _ _ _ _ _ _ _ _ _ _ _ _ _ _) _); (with_reducible apply same_rec); k_caught0)
  | k_caughtB
  | fail "stuck"))
-- a stuck place of a G goal
local macro_rules | `(tactic| k_subL) => `(tactic| (with_unfolding_all (conv => arg 4; whnf); apply g_eq; k_caught0))
-- the room's check
local macro_rules | `(tactic| k_places) => `(tactic| ((first | apply g_stackP 0 ‹Calc.Rm _ _ _› (by kernel_rfl!) (by kernel_rfl!) (by kernel_rfl!) | apply g_stackP 1 ‹Calc.Rm _ _ _› (by kernel_rfl!) (by kernel_rfl!) (by kernel_rfl!) | apply g_stackP 2 ‹Calc.Rm _ _ _› (by kernel_rfl!) (by kernel_rfl!) (by kernel_rfl!) | apply g_stackP 3 ‹Calc.Rm _ _ _› (by kernel_rfl!) (by kernel_rfl!) (by kernel_rfl!) | apply g_stackP 4 ‹Calc.Rm _ _ _› (by kernel_rfl!) (by kernel_rfl!) (by kernel_rfl!) | apply g_stackP 5 ‹Calc.Rm _ _ _› (by kernel_rfl!) (by kernel_rfl!) (by kernel_rfl!)); intro st l; obtain ⟨N1, N2, N3, N4⟩ := l))
-- signs told apart by facts (Nat.beq c 34 && true) = false; an item of a text
local macro_rules | `(tactic| k_mem) => `(tactic| first
  | (apply same_cF (by first | exact ‹∀ own, nearF _ own _ = false› _ | exact ‹∀ own, overF _ own _ = false› _ | exact ‹∀ own, warmF _ own _ = false› _ | exact ‹roomF _ = false›); first | k_mem | exact same_rfl)
  | (exact same_ifT ‹Params.followText _ _ = true›)
  | (exact same_ifF ‹Params.followText _ _ = false›)
  | (refine same_decT rfl)
  | (exact same_ifT ‹(!(_ == (0 : Int))) = true›)
  | (refine same_decF ?_; show ¬ (9223372036854775808 : Int) ≤ _; omega)
  | (refine same_ifT (dT rfl))
  | (rw [‹ZFast.zw3451499830137702736 _ _ _ _ = _›]; exact same_rfl)
  | (erw [‹ZFast.zw3451499830137702736 _ _ _ _ = _›]; exact same_rfl)
  | (rw [‹(_ : Array Nat)[(_ : Nat)]? = _›]; exact same_rfl)
  | (refine same_ifF (Eq.trans ?_ (ne_beq ‹¬ (_ : Nat) = 34›)); kernel_rfl!)
  | (refine same_ifF (Eq.trans ?_ (ne_lbeq ‹¬ (_ : Nat) = 34›)); kernel_rfl!)
  | (refine same_ifF (Eq.trans ?_ (ne_beq ‹¬ (_ : Nat) = 92›)); kernel_rfl!)
  | (refine same_ifF (Eq.trans ?_ (ne_lbeq ‹¬ (_ : Nat) = 92›)); kernel_rfl!)
  | (refine same_ifF (Eq.trans ?_ (ne_beq ‹¬ (_ : Nat) = 10›)); kernel_rfl!)
  | (refine same_ifF (Eq.trans ?_ (ne_lbeq ‹¬ (_ : Nat) = 10›)); kernel_rfl!))
-- sublists of the ledger
local macro_rules | `(tactic| lcg_sub) => `(tactic| first
  | exact List.Sublist.slnil
  | exact List.nil_sublist _
  | (apply List.Sublist.cons_cons; lcg_sub)
  | (apply List.Sublist.cons; lcg_sub))
-- one step of a builtin's tree, shown
local macro_rules | `(tactic| one_item) => `(tactic| ((conv => arg 4; whnf); first
  | (with_reducible apply g_fresh)
  | (with_reducible apply g_ret)
  | (with_reducible apply g_throw)
  | ((with_reducible apply g_call); apply g_code)
  | ((with_reducible apply g_again (plainId_quiet (by decide +kernel) _)); apply g_code)
  | (with_reducible apply g_rule)
  | (with_reducible apply g_at)
  | (with_reducible apply g_point)
  | (with_reducible apply g_ask)
  | fail "no step"))
local macro_rules | `(tactic| k_all) => `(tactic| repeat one_item)

section
variable {h₀ : Heap} {chg : List (Addr × Obj)} {vs : Array Value} {p : Setting} {Z : Calc h₀ chg p} {Y : Calc h₀ [(125, tableObj vs)] p} {t : Nat}
noncomputable abbrev sAscii := SZ.s13500813778147066322x18
noncomputable abbrev sWide := SZ.s14090480608605856794x12
noncomputable def strTy (x : Str) : String := condFn String (x.cps.all fun x => decide (x < 128)) sAscii sWide
noncomputable def strIt (ty : String) (x : Str) (tk : Tok) (n : Int) (u : Tok) : Obj := ⟨.type ty, none, .fields ⟨[.str x tk, .int n u]⟩, #[]⟩
noncomputable def nextC (ty : String) (It : Addr) : Code := .call (.builtin (toString ty ++ toString "." ++ toString "__next__")) ⟨[.ref It], []⟩
def setF (i : Nat) (v : Value) (p : Addr × Obj) : Addr × Obj := (p.1, p.2.mapFields fun x => x.setIfInBounds i v)
noncomputable def smStr (ty : String) (It : Addr) (x : Str) (n : Int) (ch : Nat) : Sm := ⟨[(It, strIt ty x 0 n 0)], nextC ty It, 0, fun old _ tok => ⟨.ok (.ret (.str ⟨#[ch]⟩ tok)), [], old.map (setF 1 (.int (n + 1) 0)), tok + 1⟩, mC⟩
theorem strTy_or (x : Str) : strTy x = sAscii ∨ strTy x = sWide := by unfold strTy; cases (x.cps.all fun x => decide (x < 128)); exact .inr rfl; exact .inl rfl
theorem su_str {ty : String} {x : Str} (hty : strTy x = ty) (It : Addr) {n : Int} {ch : Nat} (hc : x.cps[n.toNat]? = some ch) : Su Z (smStr ty It x n ch) := by
  subst hty
  intro fs c c' k gd l news tok is old hi ho hc' K
  obtain ⟨i, j, rfl, rfl, hj⟩ := old1 hi ho
  obtain ⟨tks, rfl⟩ := mC_call hc'
  clear hi ho hc'
  have hi := hj
  clear hj
  replace K := K [] rfl
  unfold smStr nextC strIt strTy at *
  dsimp only at *
  cases hb : (x.cps.all fun x => decide (x < 128))
  all_goals
    rw [hb] at hi
    (try rw [hb] at K)
    apply g_call
    apply g_code
    conv => arg 4; whnf
    apply g_load (fun h D => D.at hi)
    conv => arg 4; whnf
    apply g_again (plainId_quiet (by decide +kernel) _)
    apply g_code
    conv => arg 4; whnf
    apply g_load (fun h D => D.at hi)
    conv => arg 4; whnf
    apply g_load (fun h D => D.at hi)
    k_subL
    conv => arg 4; whnf
    apply g_load (fun h D => D.at hi)
    conv => arg 4; whnf
    apply g_update i hi (by exact rfl)
    conv => arg 4; whnf
    apply g_fresh
    conv => arg 4; whnf
    apply g_ret
    refine g_news ?_ K
    exact rfl
noncomputable def tuple0 : Obj := ⟨.type SZ.s2766695959194262286x5, none, .seq ⟨[]⟩ 0, #[]⟩
noncomputable def stopObj (a : Addr) : Obj := ⟨.type SZ.s5991306692159431302x13, none, .fields ⟨[.ref a, .none, .none, .none, .bool false, .none]⟩, #[]⟩
noncomputable def endIt (ty : String) (n : Int) (u : Tok) : Obj := ⟨.type ty, none, .fields ⟨[.none, .int n u]⟩, #[]⟩
noncomputable def smStrE (ty : String) (It : Addr) (x : Str) (n : Int) : Sm := ⟨[(It, strIt ty x 0 n 0)], nextC ty It, 2, fun old l tok => ⟨.error (.ref (l.getD 1 0)), [(l.getD 1 0, stopObj (l.getD 0 0)), (l.getD 0 0, tuple0)], old.map (setF 0 .none), tok⟩, mC⟩
theorem su_strE {ty : String} {x : Str} (hty : strTy x = ty) (It : Addr) {n : Int} (hc : x.cps[n.toNat]? = none) : Su Z (smStrE ty It x n) := by
  subst hty
  intro fs c c' k gd l news tok is old hi ho hc' K
  obtain ⟨i, j, rfl, rfl, hj⟩ := old1 hi ho
  obtain ⟨tks, rfl⟩ := mC_call hc'
  clear hi ho hc'
  have hi := hj
  clear hj
  replace K := fun a b => K [a, b] rfl
  unfold smStrE nextC strIt strTy stopObj tuple0 at *
  dsimp only at *
  cases hb : (x.cps.all fun x => decide (x < 128))
  all_goals
    rw [hb] at hi
    (try rw [hb] at K)
    apply g_call
    apply g_code
    conv => arg 4; whnf
    apply g_load (fun h D => D.at hi)
    conv => arg 4; whnf
    apply g_again (plainId_quiet (by decide +kernel) _)
    apply g_code
    conv => arg 4; whnf
    apply g_load (fun h D => D.at hi)
    conv => arg 4; whnf
    apply g_load (fun h D => D.at hi)
    k_subL
    conv => arg 4; whnf
    apply g_skim
    conv => arg 4; whnf
    apply g_load (fun h D => D.at hi)
    conv => arg 4; whnf
    apply g_update i hi (by exact rfl)
    conv => arg 4; whnf
    apply g_skim
    conv => arg 4; whnf
    apply g_alloc (by exact rfl)
    intro a
    conv => arg 4; whnf
    (try (apply g_skim; conv => arg 4; whnf))
    apply g_alloc (by exact rfl)
    intro b
    conv => arg 4; whnf
    apply g_handled
    conv => arg 4; whnf
    apply g_throw
    refine g_news ?_ (K a b)
    kernel_rfl!
end

section
noncomputable abbrev sFrame := SZ.s658472552662922059x5
variable {h₀ : Heap} {chg : List (Addr × Obj)} {vs : Array Value} {p : Setting} {Z : Calc h₀ chg p} {Y : Calc h₀ [(125, tableObj vs)] p} {t : Nat}
def Sg (c : Nat) : Prop := c = 10 ∨ c = 32 ∨ c = 34 ∨ c = 92 ∨ c = 97 ∨ c = 98 ∨ ∃ m, c = m + 256
def valOf {a : Option Nat} {c : Nat} (h : a = some c) : Nat := c
def tyOf {a b : String} (h : a = b) : String := b
def dE (k : Str) (v : Value) : DictEntry := ⟨0, .str k 0, v⟩
def oneE (k : Str) : Option Nat → List DictEntry | none => [] | some c => [dE k (.str ⟨#[c]⟩ 0)]
noncomputable def frO (es : List DictEntry) : Obj := ⟨.type sFrame, none, .dict ⟨es⟩ 0, #[]⟩
def BI (h₀ : Heap) : Prop := ∃ o : Obj, h₀.get? 0 = some o ∧ ∃ cl dd es ep sl, o = ⟨cl, dd, .dict es ep, sl⟩ ∧ ∀ (name : Str) (v : Value), (name == Str.ofString "__name__") = false → bootBuiltins name = some v → ∃ h k, ZFast.zw3451499830137702736 name.cps.size name.cps.toList es.toList false = (some ⟨h, k, v⟩, false)
theorem in_cons {K : Frag} {h : Heap} {a : Addr} {o : Obj} (e : h.get? a = some o) (X : K.In h) : Frag.In ((a, o) :: K) h := by
  intro b o' q
  unfold List.lookup at q
  split at q
  · rename_i hb
    cases q
    rw [eq_of_beq hb]; exact e
  · exact X b o' q
noncomputable def smV (id : String) (l : List Value) (r : Value) : Sm := ⟨[], .call (.builtin id) ⟨l, []⟩, 0, fun _ _ tok => ⟨.ok (.ret (bv tok r)), [], [], tok + 1⟩, mC⟩
theorem su_chr {v : Int} {m : Nat} (hv : v = Int.ofNat m) (h1 : 256 ≤ m) (h2 : m < 1114112) : Su Z (smV "chr" [.int v 0] (.str ⟨#[m]⟩ 0)) := by
  subst hv
  intro fs c c' k gd l news tok is old hi ho hc' K
  obtain ⟨tks, rfl⟩ := mC_call hc'
  cases old with
  | cons => cases ho
  | nil =>
  cases getAll0 hi
  replace K := K [] rfl
  unfold smV at K
  dsimp only at K
  k_all
  apply g_eq (same_ifF (Bool.or_eq_false_iff.mpr ⟨dF (by simp), dF (by simp; omega)⟩))
  k_all
  exact K
end

section
variable {h₀ : Heap} {chg : List (Addr × Obj)} {vs : Array Value} {p : Setting} {Z : Calc h₀ chg p} {Y : Calc h₀ [(125, tableObj vs)] p} {t : Nat}
theorem idx_ok {j n : Nat} (h : j < n) : ZFast.zw9430666877037008786 (Int.ofNat j) n = some j := by
  unfold ZFast.zw9430666877037008786
  have e : ∀ i : Decidable (Int.ofNat j < 0), (@ite _ (Int.ofNat j < 0) i (Int.ofNat j + (n : Int)) (Int.ofNat j)) = Int.ofNat j := fun i => if_neg (by simp)
  dsimp only
  rw [e, dT (by simp), dT (by simp; omega)]
  rfl
theorem idx_no {j n : Nat} (h : n ≤ j) : ZFast.zw9430666877037008786 (Int.ofNat j) n = none := by
  unfold ZFast.zw9430666877037008786
  have e : ∀ i : Decidable (Int.ofNat j < 0), (@ite _ (Int.ofNat j < 0) i (Int.ofNat j + (n : Int)) (Int.ofNat j)) = Int.ofNat j := fun i => if_neg (by simp)
  dsimp only
  rw [e, dT (by simp), dF (by simp; omega)]
  rfl
theorem su_getc {x : Str} {v : Int} {j ch : Nat} (hv : v = Int.ofNat j) (hj : j < 4611686018427387904) (hc : x.cps[j]? = some ch) : Su Z (smV "str.__getitem__" [.str x 0, .int v 0] (.str ⟨#[ch]⟩ 0)) := by
  subst hv
  intro fs c c' k gd l news tok is old hi ho hc' K
  obtain ⟨tks, rfl⟩ := mC_call hc'
  cases old with
  | cons => cases ho
  | nil =>
  cases getAll0 hi
  replace K := K [] rfl
  unfold smV at K
  dsimp only at K
  k_all
  k_upd
  apply g_eq (same_ifF (Bool.or_eq_false_iff.mpr ⟨dF (by simp), dF (by simp; omega)⟩))
  k_all
  have hq : (ZFast.zw9430666877037008786 (Int.ofNat j) x.length).bind (fun i => x.cps[i]?) = some ch := by
    obtain ⟨hl, he⟩ := Array.getElem?_eq_some_iff.mp hc
    rw [show x.length = x.cps.size from rfl, idx_ok hl]; exact hc
  dsimp only
  rw [hq]
  k_all
  exact K
end

section
variable {h₀ : Heap} {chg : List (Addr × Obj)} {vs : Array Value} {p : Setting} {Z : Calc h₀ chg p} {Y : Calc h₀ [(125, tableObj vs)] p} {t : Nat}
noncomputable def smT (id : String) (l : List Value) (r : Value) : Sm := ⟨[], .call (.builtin id) ⟨l, []⟩, 2, fun _ as' tok => ⟨.ok (.ret (bv (as'.getD 0 0) r)), [], [], tok + as'.getD 1 0⟩, mC⟩
noncomputable def smT1 (id : String) (l : List Value) (r : Value) : Sm := ⟨[], .call (.builtin id) ⟨l, []⟩, 2, fun _ as' tok => ⟨.ok (.ret (bv (as'.getD 0 0) r)), [], [], tok + as'.getD 1 0⟩, mC1⟩
structure Nice (Z : Calc h₀ chg p) : Prop where
  made : ∀ {T : String} {name : Str} {id : String} {B : Builtin} {v : Value} {l : List Value} {r : Value} {m : (Nat → Tok) → Made}, Slot T name id → (∀ (s : Shared) tk, s.TypeIs (bv tk v) T) → entryFor table id = some B →
    (∀ tks, argsOk id ⟨bVs tks (v :: l), []⟩) → (∀ tks, Gives (B ⟨bVs tks (v :: l), []⟩) (m tks)) → (∀ tks (s : Shared) (Q : Value → Shared → Prop), (∀ tk' n, Q (bv tk' r) { s with toks := s.toks + n }) → (m tks).post Q s) → Su Z (smT id (v :: l) r)
  made1 : ∀ {T : String} {name : Str} {id : String} {B : Builtin} {v : Value} {l : List Value} {r : Value} {m : Tok → Made}, Slot T name id → (∀ (s : Shared) tk, s.TypeIs (bv tk v) T) → entryFor table id = some B →
    (∀ tk, argsOk id ⟨bv tk v :: l, []⟩) → (∀ tk, Gives (B ⟨bv tk v :: l, []⟩) (m tk)) → (∀ tk (s : Shared) (Q : Value → Shared → Prop), (∀ tk' n, Q (bv tk' r) { s with toks := s.toks + n }) → (m tk).post Q s) → Su Z (smT1 id (v :: l) r)
theorem nice_wp (prog : Program) (w : World) (A : Around) (R : Result → Shared → Prop) (h₀ : Heap) (d : Drawn) (os : OsState) (hh : A.handled = none) (chg : List (Addr × Obj)) (g : Array GenState) : Nice (wpC prog w A R h₀ d os hh chg g) where
  made slot hT entry args g' hm := by
    intro fs c c' k gd l' news tok is old hi ho hc' K
    obtain ⟨tks, rfl⟩ := mC_call hc'
    cases old with
    | cons => cases ho
    | nil =>
    cases getAll0 hi
    replace K := fun a b => K [a, b] rfl
    refine Calc.call _ fun h D => ?_
    exact codeAny_call_builtin slot.plain entry (slot.check _ _ _ _ _ _ _ _ (hT _ _) (args tks) (g' tks prog w _ _ _ (hm tks _ _ fun tk' n => K tk' n h D)))
  made1 slot hT entry args g' hm := by
    intro fs c c' k gd l' news tok is old hi ho hc' K
    obtain ⟨tk, rfl⟩ := mC1_call hc'
    cases old with
    | cons => cases ho
    | nil =>
    cases getAll0 hi
    replace K := fun a b => K [a, b] rfl
    refine Calc.call _ fun h D => ?_
    exact codeAny_call_builtin slot.plain entry (slot.check _ _ _ _ _ _ _ _ (hT _ _) (args tk) (g' tk prog w _ _ _ (hm tk _ _ fun tk' n => K tk' n h D)))
open Builtin Builtin.Str in
theorem su_repl (N : Nice Z) {x y z : Str} {u v : Tok} (hu : u ≠ 0) (hv : v ≠ 0) (huv : u ≠ v) (hyz : (y == z) = false) (hb : x.length + (x.length + 1) * z.length ≤ 16777216) : Su Z (smT1 "str.replace" [.str x 0, .str y u, .str z v] (.str (Txt.replace x y z) 0)) := by
  have hl : tooLong (x.length + (occurrences x y 0 x.length (x.length + 1)).length * z.length) = false :=
    decide_eq_false (Nat.not_lt.mpr (Nat.le_trans (Nat.add_le_add_left (Nat.mul_le_mul_right z.length (StrLaws.occ_length_le x y 0 x.length (x.length + 1))) x.length) hb))
  refine N.made1 F.slot_str_replace (fun s tk => typeIs_str _ _ _) F.entry_str_replace (fun tk => F.args_str_replace_3 _ _ _) (fun tk => gives_str_replace x y z tk u v fun _ => ⟨by simp [hu, hv], by simp [huv], hyz, hl⟩) fun tk s Q hq => ?_
  unfold Txt.replace at hq
  cases hc : ((occurrences x y 0 x.length (x.length + 1)).isEmpty || (y.length == 0 && z.length == 0))
  · rw [hc] at hq
    simp only [Bool.false_eq_true, if_false] at hq ⊢
    exact ⟨fits_replaced y hb, hq s.toks 1⟩
  · rw [hc] at hq
    simp only [if_true] at hq ⊢
    exact hq tk 0
end

section
variable {h₀ : Heap} {chg : List (Addr × Obj)} {vs : Array Value} {p : Setting} {Z : Calc h₀ chg p} {Y : Calc h₀ [(125, tableObj vs)] p} {t : Nat}
noncomputable def sliceO (lo hi : Value) : Obj := ⟨.type SZ.s4674234679698826739x5, none, .fields ⟨[lo, hi, .none]⟩, #[]⟩
def oV : Option Int → Value | none => .none | some i => .int i 0
noncomputable def smSl (b : Addr) (x : Str) (lo hi : Option Int) : Sm := ⟨[(b, sliceO (oV lo) (oV hi))], .call (.builtin "str.__getitem__") ⟨[.str x 0, .ref b], []⟩, 2, fun old l tok => ⟨.ok (.ret (.str (Txt.slice x lo hi) (l.getD 0 0))), [], [], tok + l.getD 1 0⟩, mC⟩
theorem mkStr_ok {x : Str} (h : x.length ≤ sizeLine) : ZFast.zw10821573891100952770 x = .fresh fun t => .pure (.str x t) := by
  unfold ZFast.zw10821573891100952770
  exact if_neg (Nat.not_lt.mpr h)
theorem g_news' {fs c t news news' tok tok'} (e : news = news') (e2 : tok = tok') (x : Z.G fs c t news' tok') : Z.G fs c t news tok := by rw [e, e2]; exact x
theorem su_sl {x : Str} (b : Addr) (lo hi : Option Int) (hne : (lo.isSome || hi.isSome) = true) (hl : (Txt.slice x lo hi).length ≤ sizeLine) : Su Z (smSl b x lo hi) := by
  intro fs c c' k gd l news tok is old hi' ho hc' K
  obtain ⟨i, j, rfl, rfl, hj⟩ := old1 hi' ho
  obtain ⟨tks, rfl⟩ := mC_call hc'
  clear hi' ho hc'
  have hi' := hj
  clear hj
  replace K := fun a b => K [a, b] rfl
  cases lo <;> cases hi
  case none.none => exact absurd hne (by decide)
  all_goals
    unfold smSl sliceO at *
    unfold oV at *
    dsimp only at *
    apply g_call
    apply g_code
    k_upd
    apply g_again (plainId_quiet (by decide +kernel) _)
    apply g_code
    k_upd
    apply g_load (fun h D => D.at hi')
    k_all
    k_upd
    apply g_load (fun h D => D.at hi')
    k_all
    k_upd
    apply g_load (fun h D => D.at hi')
    k_all
    k_upd
    apply g_load (fun h D => D.at hi')
    k_all
    k_upd
    unfold Txt.slice at hl K
    rw [ZFast.ze163193231618251289] at hl K
    split at hl
    · rename_i hb
      (try rw [if_pos hb] at K)
      apply g_eq (same_ifT hb)
      k_all
      exact K (tks 0) 0
    · rename_i hb
      (try rw [if_neg hb] at K)
      apply g_eq (same_ifF (Bool.eq_false_iff.mpr hb))
      k_all
      k_upd
      apply g_eq (same_rec (show Same _ _ from mkStr_ok hl))
      k_all
      exact K tok 1
end

section
variable {h₀ : Heap} {chg : List (Addr × Obj)} {vs : Array Value} {p : Setting} {Z : Calc h₀ chg p} {Y : Calc h₀ [(125, tableObj vs)] p} {t : Nat}
open Builtin Builtin.Str
theorem su_streq (N : Nice Z) {x y : Str} {b : Bool} (hb : (x.cps.toList == y.cps.toList) = b) : Su Z (smT "str.__eq__" [.str x 0, .str y 0] (.bool b)) :=
  N.made F.slot_str_eq (fun s tk => typeIs_str _ _ _) F.entry_str_eq (fun tk => F.args_str_eq_2 _ _) (fun tk => gives_str_eq x y _ _) fun tk s Q hq => by rw [hb]; exact hq 0 0
theorem su_strne (N : Nice Z) {x y : Str} {b : Bool} (hb : (x.cps.toList != y.cps.toList) = b) : Su Z (smT "str.__ne__" [.str x 0, .str y 0] (.bool b)) :=
  N.made F.slot_str_ne (fun s tk => typeIs_str _ _ _) F.entry_str_ne (fun tk => F.args_str_ne_2 _ _) (fun tk => gives_str_ne x y _ _) fun tk s Q hq => by rw [hb]; exact hq 0 0
theorem su_intlt (N : Nice Z) {x y : Int} {b : Bool} (hb : decide (x < y) = b) : Su Z (smT "int.__lt__" [.int x 0, .int y 0] (.bool b)) :=
  N.made F.slot_int_lt (fun s tk => typeIs_int _ _ _) F.entry_int_lt (fun tk => F.args_int_lt_2 _ _) (fun tk => gives_int_lt x y _ _) fun tk s Q hq => by rw [hb]; exact hq 0 0
theorem su_intge (N : Nice Z) {x y : Int} {b : Bool} (hb : decide (x ≥ y) = b) : Su Z (smT "int.__ge__" [.int x 0, .int y 0] (.bool b)) :=
  N.made F.slot_int_ge (fun s tk => typeIs_int _ _ _) F.entry_int_ge (fun tk => F.args_int_ge_2 _ _) (fun tk => gives_int_ge x y _ _) fun tk s Q hq => by rw [hb]; exact hq 0 0
theorem str_empty {x : Str} (h : (x.length == 0) = true) : x = ⟨#[]⟩ := by
  obtain ⟨⟨l⟩⟩ := x
  cases l with
  | nil => rfl
  | cons a l => cases h
theorem su_stradd (N : Nice Z) {x y : Str} (hl : (x ++ y).length ≤ sizeLine) : Su Z (smT "str.__add__" [.str x 0, .str y 0] (.str (x ++ y) 0)) :=
  N.made F.slot_str_add (fun s tk => typeIs_str _ _ _) F.entry_str_add (fun tk => F.args_str_add_2 _ _) (fun tk => gives_str_add x y _ _) fun tk s Q hq => by
    split
    · rename_i h
      have := hq (tk 1) 0
      rw [str_empty h] at this
      rwa [show (⟨#[]⟩ : Str) ++ y = y from by show Str.mk (#[] ++ y.cps) = y; simp] at this
    · split
      · rename_i h
        have := hq (tk 0) 0
        rw [str_empty h] at this
        rwa [show x ++ (⟨#[]⟩ : Str) = x from by show Str.mk (x.cps ++ #[]) = x; simp] at this
      · exact ⟨hl, hq s.toks 1⟩
theorem su_strlen (N : Nice Z) {x : Str} : Su Z (smT "str.__len__" [.str x 0] (.int x.length 0)) :=
  N.made F.slot_str_len (fun s tk => typeIs_str _ _ _) F.entry_str_len (fun tk => F.args_str_len_1 _) (fun tk => gives_str_len x _) fun tk s Q hq => hq s.toks 1
theorem su_strcount (N : Nice Z) {x y : Str} : Su Z (smT "str.count" [.str x 0, .str y 0] (.int (occurrences x y 0 x.length (x.length + 1)).length 0)) :=
  N.made F.slot_str_count (fun s tk => typeIs_str _ _ _) F.entry_str_count (fun tk => F.args_str_count_2 _ _) (fun tk => gives_str_count x y _ _) fun tk s Q hq => hq s.toks 1
theorem su_strindex (N : Nice Z) {x y : Str} (i : Nat) (rest : List Nat) (h : occurrences x y 0 x.length 1 = i :: rest) : Su Z (smT "str.index" [.str x 0, .str y 0] (.int i 0)) :=
  N.made F.slot_str_index (fun s tk => typeIs_str _ _ _) F.entry_str_index (fun tk => F.args_str_index_2 _ _) (fun tk => gives_str_index x y _ _ i rest h) fun tk s Q hq => hq s.toks 1
theorem su_strin (N : Nice Z) {x y : Str} {b : Bool} (h : (!(occurrences x y 0 x.length 1).isEmpty) = b) : Su Z (smT "str.__contains__" [.str x 0, .str y 0] (.bool b)) :=
  N.made F.slot_str_contains (fun s tk => typeIs_str _ _ _) F.entry_str_contains (fun tk => F.args_str_contains_2 _ _) (fun tk => gives_str_contains x y _ _) fun tk s Q hq => by rw [h]; exact hq 0 0
end

section
variable {h₀ : Heap} {chg : List (Addr × Obj)} {vs : Array Value} {p : Setting} {Z : Calc h₀ chg p} {Y : Calc h₀ [(125, tableObj vs)] p} {t : Nat}
theorem su_lenstr {x : Str} (hl : x.length ≤ 16777216) : Su Z (smT "len" [.str x 0] (.int x.length 0)) := by
  intro fs c c' k gd l news tok is old hi ho hc' K
  obtain ⟨tks, rfl⟩ := mC_call hc'
  cases old with
  | cons => cases ho
  | nil =>
  cases getAll0 hi
  replace K := fun a b => K [a, b] rfl
  unfold smT at K
  dsimp only at K
  k_all
  k_upd
  apply g_eq (same_decF (by show ¬ (9223372036854775808 : Int) ≤ (x.length : Int); omega))
  k_all
  exact K (tok + 1) 2
end

section
variable {h₀ : Heap} {chg : List (Addr × Obj)} {vs : Array Value} {p : Setting} {Z : Calc h₀ chg p} {Y : Calc h₀ [(125, tableObj vs)] p} {t : Nat}
theorem fix_at {f : Nat → Bool} {L : Nat} (h : f L = false) : f = fun n => cond (Nat.beq n L) false (f n) := funext fun n => by
  cases e : Nat.beq n L with
  | false => rfl
  | true => rw [Nat.eq_of_beq_eq_true e, h]; rfl
theorem enter_ok (X : (heapK p.params).In h₀) {fs : List Fr} {c : Code} {n tok : Nat} {news : List (Addr × Obj)} {k : Unit → Sem PySem.Fin} (hR : Y.Rm fs n) (hc : Nat.ble (n + (c.weight + c.cUnits)) 900 = true) (x : Y.G fs c (k ()) news tok) : Y.G fs c (R.bindR (ZFast.enterX 0) k) news tok := by
  conv => arg 4; whnf
  refine g_stack hR hc fun st hst => ?_
  obtain ⟨hn1, hn2, hn3, hn4⟩ := hst
  conv => arg 4; whnf
  refine g_load (fun h D => D.old (X 2 _ rfl) rfl) ?_
  conv => arg 4; whnf
  refine g_eq (t' := k ()) ?_ x
  have h1 : nearF st 0 recursionLimit = false := hn1 0
  have h2 : overF st 0 recursionLimit = false := hn2 0
  have h3 : warmF st 0 recursionLimit = false := hn3 0
  generalize nearF st 0 = f1 at h1 ⊢
  generalize overF st 0 = f2 at h2 ⊢
  generalize warmF st 0 = f3 at h3 ⊢
  show _ = _
  rw [fix_at h1, fix_at h2, fix_at h3]
  kernel_rfl!
theorem enter_at (X : (heapK p.params).In h₀) {fs : List Fr} {n : Nat} {code : Code} {x : Option (Out × Obl)} {rest : List (Addr × Obj)} {V : VL} (m : List Nat) (hR : Y.Rm fs n)
   (e : (fA x, fB x, fC x, oKind x, oFs x, oT x, view m (oN x)) = (gA x, gB x, true, 1, fs, (R.bindR (ZFast.enterX 0) fun _ => .pure (.again code)), (V, rest))) (hc : Nat.ble (n + ((oC x).weight + (oC x).cUnits)) 900 = true)
   (hq : qk code = true) (k : ∀ J tok, Y.C fs code (led J V rest) tok) : OK Y x := by
  obtain ⟨e1, e⟩ := Prod.mk.inj e; obtain ⟨e2, e⟩ := Prod.mk.inj e; obtain ⟨e3, e⟩ := Prod.mk.inj e; obtain ⟨e4, e⟩ := Prod.mk.inj e; obtain ⟨e5, e⟩ := Prod.mk.inj e; obtain ⟨e6, e⟩ := Prod.mk.inj e
  obtain ⟨J, h⟩ := view_led m (oN x)
  rw [e] at h
  refine ⟨e1, e2, e3, e_run e4 (g_sub h ?_)⟩
  rw [e5, e6]
  exact enter_ok X hR hc (g_again (qk_quiet hq) (k J _))
end

section
variable {h₀ : Heap} {chg : List (Addr × Obj)} {vs : Array Value} {p : Setting} {Z : Calc h₀ chg p} {Y : Calc h₀ [(125, tableObj vs)] p} {t : Nat}
def sgn (n : Nat) : Nat := match n % 8 with | 0 => 97 | 1 => 34 | 2 => 92 | 3 => 32 | 4 => 10 | 5 => 34 | 6 => 92 | _ => n / 8 % 50000 + 256
def sgS (n : Nat) : Str := Str.ofString "a\"\\ \n\"\\" ++ (⟨#[n / 8 % 50000 + 256]⟩ : Str)
theorem sgS_at (n : Nat) : (sgS n).cps[n % 8]? = some (sgn n) := by
  have h : n % 8 < 8 := Nat.mod_lt _ (by decide)
  unfold sgn
  generalize n % 8 = k at h ⊢
  match k, h with
  | 0, _ => rfl
  | 1, _ => rfl
  | 2, _ => rfl
  | 3, _ => rfl
  | 4, _ => rfl
  | 5, _ => rfl
  | 6, _ => rfl
  | 7, _ => rfl
theorem law_sign {fs : List Fr} (hR : Y.Rm fs 610) (X : (heapK p.params).In h₀) (hB : BI h₀) (n : Nat) (tk : Tok) {rest : List (Addr × Obj)}
   (hK : ∀ tk J t', Y.B fs (rb tk (.ok (.ret (.str ⟨#[sgn n]⟩ 0)))) (led J [] rest) t')
   : Y.C fs (.call (.ref 116) ⟨[.int (Int.ofNat n) tk], []⟩) rest t := by
  have X0 := X
  obtain ⟨_, e0, cl, dd, es, ep, sl, rfl, hL⟩ := hB
  replace X := in_cons e0 X
  apply g_code
  apply run1 X sus0 [.s,.s,.a,.s,.s,.l 0,.l 0] rfl; intro L0 _
  refine enter_at (code := .func (bodyOf (heapK p.params) 116) (envOf (heapK p.params) 116 115 L0)) (V := [(true, L0, frO [dE (Str.ofString "cell") (.int (Int.ofNat n) 0)])]) (rest := rest) X0 [1] hR ?_ ?_ rfl (fun J tok => ?_)
  kernel_rfl!
  kernel_rfl!
  apply g_code
  apply run0 X sus0 [.s,.s,.s,.s,.s,.s] rfl; intro _; apply ok_run; kernel_rfl!
  obtain ⟨bh, bk, bq⟩ := hL (Str.ofString "chr") (.builtin "chr") (by kernel_rfl!) (by kernel_rfl!)
  k_subL
  have S0 : Sus Y _ := sus1 (su_chr (v := 256 + Z.modQ (Z.divQ (Int.ofNat n) 8) 50000) (m := n / 8 % 50000 + 256) (by rw [← Z.modQ_eq, ← Z.divQ_eq, Int.fmod_eq_emod_of_nonneg _ (by omega), Int.fdiv_eq_ediv_of_nonneg _ (by omega)]; simp; omega) (by omega) (by omega)) sus0
  have S1 : Sus Y _ := sus1 (su_getc (x := sgS n) (v := Z.modQ (Int.ofNat n) 8) (j := n % 8) (ch := sgn n) (by rw [← Z.modQ_eq, Int.fmod_eq_emod_of_nonneg _ (by omega)]; simp) (by omega) (sgS_at n)) S0
  clear S0
  apply run0 X S1 [.s,.s,.l 0,.s,.s,.c,.g,.s,.p,.s,.s,.c,.g,.s,.p,.s,.c,.g,.s,.p,.s,.u 0 [] 1,.s,.s,.s,.c,.g,.s,.p,.s,.l 0,.s,.s,.c,.g,.s,.p,.s,.u 0 [] 0,.pE] rfl; intro _
  refine ok_ret [0] ?_ hK
  kernel_rfl!
end

section
variable {h₀ : Heap} {chg : List (Addr × Obj)} {vs : Array Value} {p : Setting} {Z : Calc h₀ chg p} {Y : Calc h₀ [(125, tableObj vs)] p} {t : Nat}
noncomputable def over (x : Str) (k : Nat) : Str := match k with
  | 0 => Txt.replace x (Str.ofString "\"") (Str.ofString "\"\"")
  | _ => Txt.replace (Txt.replace x (Str.ofString "\\") (Str.ofString "\\\\")) (Str.ofString "\"") (Str.ofString "\\\"")
theorem tkne {a : Nat} (h : 0 < a) : a ≠ 0 := by omega
theorem tkn {a b : Nat} (h : a < b) : a ≠ b := Nat.ne_of_lt h
theorem law_over (N : Nice Y) {fs : List Fr} (hR : Y.Rm fs 610) (X : (heapK p.params).In h₀) (x : Str) (k : Nat) (tk tk2 : Tok) (hk : k = 0 ∨ k = 1) (hx : x.length ≤ 100000) (hx2 : (Txt.replace x (Str.ofString "\\") (Str.ofString "\\\\")).length ≤ 1000000) {rest : List (Addr × Obj)}
   (hK : ∀ tk J t', Y.B fs (rb tk (.ok (.ret (.str (over x k) 0)))) (led J [] rest) t')
   : Y.C fs (.call (.ref 123) ⟨[.str x tk2, .int (Int.ofNat k) tk], []⟩) rest t := by
  apply g_code
  apply run1 X sus0 [.s,.s,.a,.s,.s,.l 0,.l 0,.s,.s,.l 0,.l 0] rfl; intro L0 _; apply ok_run; kernel_rfl!
  k_places
  apply run0 X sus0 [.s] rfl; intro _; apply ok_run; kernel_rfl!
  k_subL
  rcases hk with rfl | rfl
  · have S1 : Sus Y _ := sus1 (su_repl N (x := x) (y := Str.ofString "\"") (z := Str.ofString "\"\"") (u := t + 2) (v := t + 3) (tkne (by omega)) (tkne (by omega)) (tkn (by omega)) (by decide +kernel) (by rw [show Str.length (Str.ofString "\"\"") = 2 from by decide +kernel]; omega)) sus0
    apply run2 X S1 [.g,.s,.s,.s,.l 0,.s,.c,.g,.p,.s,.s,.l 0,.s,.s,.s,.s,.s,.u 2 [] 0,.s,.pE] rfl; intro b0 b1 _
    refine ok_ret [0] ?_ hK
    kernel_rfl!
  · have S1 : Sus Y _ := sus1 (su_repl N (x := x) (y := Str.ofString "\\") (z := Str.ofString "\\\\") (u := t + 2) (v := t + 3) (tkne (by omega)) (tkne (by omega)) (tkn (by omega)) (by decide +kernel) (by rw [show Str.length (Str.ofString "\\\\") = 2 from by decide +kernel]; omega)) sus0
    apply run2 X S1 [.g,.s,.s,.s,.l 0,.s,.c,.g,.p,.s,.s,.l 0,.s,.s,.s,.s,.s,.u 2 [] 0,.s,.s,.s,.s,.s,.s] rfl; intro b0 b1 _; apply ok_run; kernel_rfl!
    have S2 : Sus Y _ := sus1 (su_repl N (x := Txt.replace x (Str.ofString "\\") (Str.ofString "\\\\")) (y := Str.ofString "\"") (z := Str.ofString "\\\"") (u := t + 4 + b1) (v := t + 4 + b1 + 1) (tkne (by omega)) (tkne (by omega)) (tkn (by omega)) (by decide +kernel) (by rw [show Str.length (Str.ofString "\\\"") = 2 from by decide +kernel]; omega)) sus0
    apply run2 X S2 [.u 2 [] 0,.s,.pE] rfl; intro c0 c1 _
    refine ok_ret [0] ?_ hK
    kernel_rfl!
end

section
variable {h₀ : Heap} {chg : List (Addr × Obj)} {vs : Array Value} {p : Setting} {Z : Calc h₀ chg p} {Y : Calc h₀ [(125, tableObj vs)] p} {t : Nat}
noncomputable abbrev rS (l : List Nat) : Str := ⟨⟨50 :: 53 :: 55 :: 32 :: 34 :: l⟩⟩
def p257 : List Nat → List Nat
  | [] => []
  | c :: l => if c = 34 then (match l with | d :: l' => if d = 34 then 34 :: p257 l' else [] | [] => []) else c :: p257 l
def tlen (x : Str) : Nat := x.cps.toList.length
noncomputable def pV (l : List Nat) (L : Addr) (p : Nat × Str × Option Nat) : VL := [(true, L, frO (dE (Str.ofString "resp") (.str (rS l) 0) :: dE (Str.ofString "dirname") (.str p.2.1 0) :: dE (Str.ofString "i") (.int (Int.ofNat p.1) 0) :: dE (Str.ofString "n") (.int (Int.ofNat (l.length + 5)) 0) :: oneE (Str.ofString "c") p.2.2))]
def pQ (l : List Nat) (p : Nat × Str × Option Nat) : Prop := 5 ≤ p.1 ∧ p.1 ≤ l.length + 5 ∧ p.2.1.cps.toList ++ p257 (l.drop (p.1 - 5)) = p257 l ∧ p.2.1.length ≤ p.1
theorem p257_ne {c : Nat} {l : List Nat} (h : ¬ c = 34) : p257 (c :: l) = c :: p257 l := by rw [p257.eq_def]; simp [h]
theorem drop_cons {l : List Nat} {i c : Nat} (e : l[i]? = some c) : l.drop i = c :: l.drop (i + 1) := by
  obtain ⟨hl, he⟩ := List.getElem?_eq_some_iff.mp e
  rw [List.drop_eq_getElem_cons hl, he]
theorem str_ext {x : Str} {l : List Nat} (h : x.cps.toList = l) : x = ⟨⟨l⟩⟩ := by obtain ⟨⟨m⟩⟩ := x; cases h; rfl
theorem app_toList (x : Str) (c : Nat) : (x ++ (⟨#[c]⟩ : Str)).cps.toList = x.cps.toList ++ [c] := by show (x.cps ++ #[c]).toList = _; simp
theorem app_length (x : Str) (c : Nat) : (x ++ (⟨#[c]⟩ : Str)).length = x.length + 1 := by show (x.cps ++ #[c]).size = x.cps.size + 1; simp
theorem p_lt {n j d : Nat} (h : j < n) (hd : 0 < d) : n - (j + d) < n - j := by omega
theorem p_app {D : Str} {c : Nat} {A B P : List Nat} (hD : D.cps.toList ++ A = P) (e : A = c :: B) : (D ++ (⟨#[c]⟩ : Str)).cps.toList ++ B = P := by rw [← hD, e, app_toList]; simp
theorem p_len {D : Str} {c j d : Nat} (h : D.length ≤ j) (hd : 0 < d) : Str.length (D ++ (⟨#[c]⟩ : Str)) ≤ j + d := by rw [app_length]; omega
theorem parse257 (N : Nice Y) {fs : List Fr} (hR : Y.Rm fs 610) (X : (heapK p.params).In h₀) (hB : BI h₀) (l : List Nat) (hl : ∀ c ∈ l, Sg c) (hln : l.length ≤ 1000) (tk2 : Tok) {rest : List (Addr × Obj)}
   (hK : ∀ tk J t', Y.B fs (rb tk (.ok (.ret (.str ⟨⟨p257 l⟩⟩ 0)))) (led J [] rest) t')
   : Y.C fs (.call (.ref 67) ⟨[.str (rS l) tk2], []⟩) rest t := by
  have X0 := X
  obtain ⟨_, e0, cl, dd, es, ep, sl, rfl, hL⟩ := hB
  replace X := in_cons e0 X
  apply g_code
  apply run1 X sus0 [.s,.s,.a,.s,.s,.l 0,.l 0] rfl; intro L0 _
  refine enter_at (code := .func (bodyOf (heapK p.params) 67) (envOf (heapK p.params) 67 66 L0)) (V := [(true, L0, frO [dE (Str.ofString "resp") (.str (rS l) 0)])]) (rest := rest) X0 [1] hR ?_ ?_ rfl (fun J tok => ?_)
  kernel_rfl!
  kernel_rfl!
  apply g_code
  apply run2 X sus0 [.s,.s,.s,.l 0,.s,.a,.s,.c,.g,.l 0,.l 0,.l 0,.l 0,.s,.p,.s,.s,.m,.c,.g,.p,.s,.s,.l 1,.s,.s,.a,.s,.c,.g,.l 0,.l 0,.l 0,.l 0,.s,.p,.s,.s,.m,.c,.g,.p,.s,.s,.s,.s,.s,.s,.l 2,.l 2,.s,.s,.s,.s,.s,.s,.s,.l 2,.l 2,.s,.s,.s,.s,.s] rfl; intro b0 b1 _; apply ok_run; kernel_rfl!
  obtain ⟨bh, bk, bq⟩ := hL (Str.ofString "len") (.builtin "len") (by kernel_rfl!) (by kernel_rfl!)
  k_subL
  have hrl : (rS l).length = l.length + 5 := rfl
  have S1 : Sus Y _ := sus1 (su_lenstr (x := rS l) (by omega)) sus0
  apply run2 X S1 [.s,.l 2,.s,.u 2 [] 0,.s,.s,.s,.s,.s,.l 2,.l 2,.s,.s,.cE] rfl; intro c0 c1 _
  refine ok_loop [0, 0, 1] (V := pV l L0 (5, ⟨#[]⟩, none)) (rest := rest) ?_ (gc_loop (fun p => l.length + 5 - p.1) (pV l L0) (pQ l) ?_ (5, ⟨#[]⟩, none) ⟨Nat.le_refl _, by show 5 ≤ l.length + 5; omega, rfl, by decide⟩)
  kernel_rfl!
  clear S1
  rintro ⟨j, D, s⟩ ⟨h5, hj, hD, hDl⟩ ih J tok
  dsimp only at h5 hj hD hDl ih
  apply g_code
  by_cases hlt : j < l.length + 5
  · have S1 : Sus Y _ := sus1 (su_intlt N (x := Int.ofNat j) (y := Int.ofNat (l.length + 5)) (b := true) (by simp; omega)) sus0
    obtain ⟨c, hc⟩ : ∃ c, l[j - 5]? = some c := ⟨_, List.getElem?_eq_getElem (by omega)⟩
    have hx : (rS l).cps[j]? = some c := by
      obtain ⟨k, rfl⟩ : ∃ k, j = k + 5 := ⟨j - 5, by omega⟩
      simpa using hc
    have hd := drop_cons hc
    have S2 : Sus Y _ := sus1 (su_getc (x := rS l) (v := Int.ofNat j) rfl (by omega) hx) S1
    clear S1
    by_cases hq : c = 34
    · subst hq
      have S3 := sus1 (su_streq N (x := ⟨#[34]⟩) (y := Str.ofString "\"") (b := true) (by decide +kernel)) S2
      clear S2
      by_cases hn : j + 1 < l.length + 5
      · obtain ⟨c2, hc2⟩ : ∃ c, l[j + 1 - 5]? = some c := ⟨_, List.getElem?_eq_getElem (by omega)⟩
        have hx2 : (rS l).cps[j + 1]? = some c2 := by
          obtain ⟨k, rfl⟩ : ∃ k, j = k + 5 := ⟨j - 5, by omega⟩
          rw [show k + 5 + 1 - 5 = k + 1 by omega] at hc2
          simpa using hc2
        have hd2 := drop_cons hc2
        have S4 := sus1 (su_intge N (x := Int.ofNat j + 1) (y := Int.ofNat (l.length + 5)) (b := false) (by simp; omega)) (sus1 (su_getc (x := rS l) (v := Int.ofNat j + 1) (j := j + 1) rfl (by omega) hx2) S3)
        clear S3
        by_cases hq2 : c2 = 34
        · subst hq2
          have S5 := sus1 (su_strne N (x := ⟨#[34]⟩) (y := Str.ofString "\"") (b := false) (by decide +kernel)) (sus1 (su_stradd N (x := D) (y := ⟨#[34]⟩) (by rw [app_length]; unfold sizeLine; omega)) S4)
          clear S4
          have e2 : p257 (l.drop (j - 5)) = 34 :: p257 (l.drop (j + 2 - 5)) := by
            rw [hd, show j - 5 + 1 = j + 1 - 5 by omega, hd2, show j + 1 - 5 + 1 = j + 2 - 5 by omega, p257, if_pos rfl]; rfl
          have hq := ih (j + 2, D ++ ⟨#[34]⟩, some 34) (p_lt hlt (by decide)) ⟨Nat.le_trans h5 (Nat.le_add_right _ _), hn, p_app hD e2, p_len hDl (by decide)⟩
          cases s
          all_goals
            apply runF X S5 [.s,.l 0,.s,.l 0,.s,.m,.u 2 [] 6,.s,.s,.l 0,.s,.l 0,.s,.u 0 [] 5,.s,.s,.s,.s,.l 0,.l 0,.s,.s,.s,.l 0,.s,.s,.c,.g,.s,.p,.s,.s,.s,.s,.l 0,.l 0,.s,.s,.s,.l 0,.s,.s,.m,.u 2 [] 4,.s,.s,.l 0,.s,.l 0,.s,.m,.u 2 [] 2,.s,.l 0,.s,.l 0,.s,.u 0 [] 3,.s,.s,.m,.u 2 [] 0,.s,.s,.l 0,.s,.s,.c,.g,.s,.p,.s,.s,.s,.s,.l 0,.l 0,.s,.s,.s,.l 0,.s,.l 0,.s,.s,.u 2 [] 1,.s,.s,.s,.s,.l 0,.l 0,.s,.gE]; intro aF _
            refine ok_code [1] ?_ hq
            kernel_rfl!
        · have S5 := sus1 (su_strne N (x := ⟨#[c2]⟩) (y := Str.ofString "\"") (b := true) (by show (([c2] : List Nat) != [34]) = true; simp [hq2])) S4
          clear S4
          have e : D = ⟨⟨p257 l⟩⟩ := str_ext (by rw [← hD, hd, show j - 5 + 1 = j + 1 - 5 by omega, hd2, p257, if_pos rfl]; simp [hq2])
          rw [← e] at hK
          cases s
          all_goals
            apply run8 X S5 [.s,.l 0,.s,.l 0,.s,.m,.u 2 [] 5,.s,.s,.l 0,.s,.l 0,.s,.u 0 [] 4,.s,.s,.s,.s,.l 0,.l 0,.s,.s,.s,.l 0,.s,.s,.c,.g,.s,.p,.s,.s,.s,.s,.l 0,.l 0,.s,.s,.s,.l 0,.s,.s,.m,.u 2 [] 3,.s,.s,.l 0,.s,.l 0,.s,.m,.u 2 [] 1,.s,.l 0,.s,.l 0,.s,.u 0 [] 2,.s,.s,.m,.u 2 [] 0,.s,.p,.s,.s,.l 0,.pE] rfl; intro a0 a1 a2 a3 a4 a5 a6 a7 _
            refine ok_ret [0] ?_ hK
            kernel_rfl!
      · have S4 := sus1 (su_intge N (x := Int.ofNat j + 1) (y := Int.ofNat (l.length + 5)) (b := true) (by simp; omega)) S3
        clear S3
        have e : D = ⟨⟨p257 l⟩⟩ := str_ext (by rw [← hD, hd, List.drop_eq_nil_of_le (show l.length ≤ j - 5 + 1 by omega), p257, if_pos rfl]; simp)
        rw [← e] at hK
        cases s
        all_goals
          apply run6 X S4 [.s,.l 0,.s,.l 0,.s,.m,.u 2 [] 3,.s,.s,.l 0,.s,.l 0,.s,.u 0 [] 2,.s,.s,.s,.s,.l 0,.l 0,.s,.s,.s,.l 0,.s,.s,.c,.g,.s,.p,.s,.s,.s,.s,.l 0,.l 0,.s,.s,.s,.l 0,.s,.s,.m,.u 2 [] 1,.s,.s,.l 0,.s,.l 0,.s,.m,.u 2 [] 0,.s,.p,.s,.s,.l 0,.pE] rfl; intro a0 a1 a2 a3 a4 a5 _
          refine ok_ret [0] ?_ hK
          kernel_rfl!
    · have S3 := sus1 (su_streq N (x := ⟨#[c]⟩) (y := Str.ofString "\"") (b := false) (by show (([c] : List Nat) == [34]) = false; simp [hq])) (sus1 (su_stradd N (x := D) (y := ⟨#[c]⟩) (by rw [app_length]; unfold sizeLine; omega)) S2)
      clear S2
      have e2 : p257 (l.drop (j - 5)) = c :: p257 (l.drop (j + 1 - 5)) := by rw [hd, p257_ne hq, show j - 5 + 1 = j + 1 - 5 by omega]
      have hq := ih (j + 1, D ++ ⟨#[c]⟩, some c) (p_lt hlt (by decide)) ⟨Nat.le_trans h5 (Nat.le_add_right _ _), hlt, p_app hD e2, p_len hDl (by decide)⟩
      cases s
      all_goals
        apply run6 X S3 [.s,.l 0,.s,.l 0,.s,.m,.u 2 [] 3,.s,.s,.l 0,.s,.l 0,.s,.u 0 [] 2,.s,.s,.s,.s,.l 0,.l 0,.s,.s,.s,.l 0,.s,.s,.c,.g,.s,.p,.s,.s,.s,.s,.l 0,.l 0,.s,.s,.s,.l 0,.s,.s,.m,.u 2 [] 0,.s,.s,.l 0,.s,.l 0,.s,.s,.u 2 [] 1,.s,.s,.s,.s,.l 0,.l 0,.s,.gE] rfl; intro a0 a1 a2 a3 a4 a5 _
        refine ok_code [1] ?_ hq
        kernel_rfl!
  · have S1 : Sus Y _ := sus1 (su_intlt N (x := Int.ofNat j) (y := Int.ofNat (l.length + 5)) (b := false) (by simp; omega)) sus0
    have e : D = ⟨⟨p257 l⟩⟩ := str_ext (by rw [← hD, List.drop_eq_nil_of_le (by omega), p257, List.append_nil])
    rw [← e] at hK
    cases s
    all_goals
      apply run2 X S1 [.s,.l 0,.s,.l 0,.s,.m,.u 2 [] 0,.p,.s,.s,.l 0,.pE] rfl; intro e0 e1 _
      refine ok_ret [0] ?_ hK
      kernel_rfl!
end

section
variable {h₀ : Heap} {chg : List (Addr × Obj)} {vs : Array Value} {p : Setting} {Z : Calc h₀ chg p} {Y : Calc h₀ [(125, tableObj vs)] p} {t : Nat}
def hidF : List Nat → Int → Int → Int
  | [], h, _ => h
  | c :: l, h, r => hidF l (if c = 34 then h + r.fmod 2 else h) (if c = 92 then r + 1 else 0)
theorem hidF_drop {l : List Nat} {i : Nat} {c : Nat} {h r h' r' : Int} (e : l[i]? = some c) (eh : h' = if c = 34 then h + r.fmod 2 else h) (er : r' = if c = 92 then r + 1 else 0) : hidF (l.drop (i + 1)) h' r' = hidF (l.drop i) h r := by
  obtain ⟨hl, he⟩ := List.getElem?_eq_some_iff.mp e
  rw [List.drop_eq_getElem_cons hl, he, hidF, eh, er]
noncomputable def hidV (ty : String) (x : Str) (It L : Addr) (p : Nat × Int × Int × Option Nat) : VL := [(true, It, strIt ty x 0 (Int.ofNat p.1) 0),
  (true, L, frO (dE (Str.ofString "text") (.str x 0) :: dE (Str.ofString "hidden") (.int p.2.1 0) :: dE (Str.ofString "run") (.int p.2.2.1 0) :: oneE (Str.ofString "sign") p.2.2.2))]
theorem law_hidden4 (N : Nice Y) {fs : List Fr} (hR : Y.Rm fs 610) (X : (heapK p.params).In h₀) (x : Str) (tk : Tok) (hx : ∀ c ∈ x.cps.toList, Sg c) {rest : List (Addr × Obj)}
   (hK : ∀ tk J t', Y.B fs (rb tk (.ok (.ret (.int (hidF x.cps.toList 0 0) 0)))) (led J [] rest) t')
   : Y.C fs (.call (.ref 137) ⟨[.str x tk], []⟩) rest t := by
  apply g_code
  apply run1 X sus0 [.s,.s,.a,.s,.s,.l 0,.l 0] rfl; intro L0 _; apply ok_run; kernel_rfl!
  k_places
  apply run0 X sus0 [.s] rfl; intro _; apply ok_run; kernel_rfl!
  k_subL
  apply run5 X sus0 [.g,.s,.s,.s,.s,.s,.a,.s,.l 0,.l 0,.l 0,.m,.c,.l 0,.g,.a,.p,.l 0,.l 0,.c,.l 0,.g,.l 0,.l 0,.l 1,.l 0,.l 0,.p,.l 0,.c,.l 0,.g,.l 0,.l 0,.l 1,.l 0,.l 0,.p,.l 0,.c,.l 0,.g,.l 0,.l 0,.l 1,.s,.l 0,.l 0,.a,.a,.s,.p,.l 0,.s,.s,.s,.s,.l 4,.l 4,.s,.s,.s,.s,.s,.l 4,.l 4,.s,.s,.s,.l 4,.s,.m,.c,.g,.a,.p] rfl; intro b0 b1 b2 b3 b4 _
  refine ok_view [1, 0, 0, 0, 0, 1] (V := hidV (strTy x) x b4 L0 (0, 0, 0, none)) (rest := rest) ?_ ?_
  kernel_rfl!
  intro J tok
  have hty := strTy_or x
  generalize hT : strTy x = ty at hty ⊢
  rcases hty with rfl | rfl
  all_goals
    apply run0 X sus0 [.l 0,.cE] rfl; intro _
    refine ok_loop [1, 1] (V := hidV (tyOf hT) x b4 L0 (0, 0, 0, none)) (rest := rest) ?_ (gc_loop (fun p => x.cps.size - p.1) (hidV (tyOf hT) x b4 L0) (fun p => p.1 ≤ x.cps.size ∧ hidF (x.cps.toList.drop p.1) p.2.1 p.2.2.1 = hidF x.cps.toList 0 0) ?_ (0, 0, 0, none) ⟨Nat.zero_le _, rfl⟩)
    kernel_rfl!
    rintro ⟨i, v2, v3, s⟩ ⟨hi, hf⟩ ih J tok
    dsimp only at hi hf ih
    apply g_code
    by_cases hlt : i < x.cps.size
    · have hc : x.cps[(Int.ofNat i).toNat]? = some x.cps[i] := by simp [hlt]
      have hl : x.cps.toList[i]? = some x.cps[i] := by simp [hlt]
      have hs : Sg x.cps[i] := hx _ (by simp)
      generalize x.cps[i] = c at hc hl hs
      have S1 : Sus Y _ := sus1 (su_str hT b4 hc) sus0
      rcases hs with rfl | rfl | rfl | rfl | rfl | rfl | ⟨m, rfl⟩
      case inr.inr.inl =>
        cases s
        all_goals
          apply run0 X S1 [.s,.l 0,.u 0 [0] 0,.s,.s,.s,.s,.l 1,.l 1,.s,.s,.s,.l 1,.s,.s,.m,.c,.g,.p,.s,.l 1,.s,.l 1,.s,.s,.c,.g,.s,.p,.s,.c,.g,.s,.p,.s,.s,.s,.s,.l 1,.l 1,.s,.s,.s,.l 1,.s,.s,.m,.c,.g,.p,.s,.s,.s,.s,.s,.l 1,.l 1,.s,.gE] rfl; intro _
          refine ok_code [1, 1] ?_ (ih (i + 1, v2 + Z.modQ v3 2, 0, some 34) (by show x.cps.size - (i + 1) < x.cps.size - i; omega) ⟨hlt, (hidF_drop hl (by rw [if_pos rfl, Z.modQ_eq]) (if_neg (by omega)).symm).trans hf⟩)
          kernel_rfl!
      case inr.inr.inr.inl =>
        cases s
        all_goals
          apply run0 X S1 [.s,.l 0,.u 0 [0] 0,.s,.s,.s,.s,.l 1,.l 1,.s,.s,.s,.l 1,.s,.s,.m,.c,.g,.p,.s,.s,.l 1,.s,.s,.m,.c,.g,.p,.s,.l 1,.s,.s,.c,.g,.s,.p,.s,.s,.s,.s,.l 1,.l 1,.s,.gE] rfl; intro _
          refine ok_code [1, 1] ?_ (ih (i + 1, v2, v3 + 1, some 92) (by show x.cps.size - (i + 1) < x.cps.size - i; omega) ⟨hlt, (hidF_drop hl (if_neg (by omega)).symm (if_pos rfl).symm).trans hf⟩)
          kernel_rfl!
      all_goals
        cases s
        all_goals
          apply run0 X S1 [.s,.l 0,.u 0 [0] 0,.s,.s,.s,.s,.l 1,.l 1,.s,.s,.s,.l 1,.s,.s,.m,.c,.g,.p,.s,.s,.l 1,.s,.s,.m,.c,.g,.p,.s,.s,.s,.s,.s,.l 1,.l 1,.s,.gE] rfl; intro _
          refine ok_code [1, 1] ?_ (ih (i + 1, v2, 0, some (valOf hc)) (by show x.cps.size - (i + 1) < x.cps.size - i; omega) ⟨hlt, (hidF_drop hl (if_neg (by omega)).symm (if_neg (by omega)).symm).trans hf⟩)
          kernel_rfl!
    · have hc : x.cps[(Int.ofNat i).toNat]? = none := by simp; omega
      have S1 : Sus Y _ := sus1 (su_strE hT b4 hc) sus0
      have e : v2 = hidF x.cps.toList 0 0 := by rw [← hf, List.drop_eq_nil_of_le (by simp; omega), hidF]
      rw [← e] at hK
      cases s
      all_goals
        apply run2 X S1 [.s,.l 0,.u 2 [0] 0,.l 0,.g,.p,.s,.s,.l 3,.pE] rfl; intro e0 e1 _
        refine ok_ret [0, 0, 0, 0] ?_ hK
        kernel_rfl!
  
end

section
variable {h₀ : Heap} {chg : List (Addr × Obj)} {vs : Array Value} {p : Setting} {Z : Calc h₀ chg p} {Y : Calc h₀ [(125, tableObj vs)] p} {t : Nat}
theorem ok_G {x : Option (Out × Obl)} {fs c t news tok} (e : (fA x, fB x, fC x, oKind x, oFs x, oC x, oT x, oN x, oK x) = (gA x, gB x, true, 1, fs, c, t, news, tok)) (k : Z.G fs c t news tok) : OK Z x := by
  obtain ⟨e1, e⟩ := Prod.mk.inj e; obtain ⟨e2, e⟩ := Prod.mk.inj e; obtain ⟨e3, e⟩ := Prod.mk.inj e; obtain ⟨e4, e⟩ := Prod.mk.inj e; obtain ⟨e5, e⟩ := Prod.mk.inj e; obtain ⟨e6, e⟩ := Prod.mk.inj e; obtain ⟨e7, e⟩ := Prod.mk.inj e; obtain ⟨e8, e⟩ := Prod.mk.inj e
  exact ⟨e1, e2, e3, e_run e4 (by rw [e5, e6, e7, e8, e]; exact k)⟩
theorem old2 {news : List (Addr × Obj)} {is : List Nat} {old : List (Addr × Obj)} {a b : Addr} {o o' : Obj} (h : getAll news is = some old) (e : old.map vP = [(a, o), (b, o')]) : ∃ i j ja jb, is = [i, j] ∧ old = [(a, bO ja true o), (b, bO jb true o')] ∧ news[i]? = some (a, bO ja true o) ∧ news[j]? = some (b, bO jb true o') := by
  match is, h with
  | [], h => cases h; cases e
  | i :: is, h =>
    unfold getAll at h
    split at h
    · rename_i q hq
      split at h
      · rename_i l hl
        cases h
        have e' := (List.cons.inj e).2
        obtain ⟨j, jb, rfl, rfl, hj⟩ := old1 hl e'
        obtain ⟨i, ja, hi, hq', hq''⟩ := old1 (news := news) (is := [i]) (old := [q]) (a := a) (o := o) (by unfold getAll; rw [hq]; rfl) (by rw [← (List.cons.inj e).1]; rfl)
        cases hi
        cases hq'
        exact ⟨_, _, ja, jb, rfl, rfl, hq, hj⟩
      · cases h
    · cases h
theorem perm2 {news : List (Addr × Obj)} {i j : Nat} {x y : Addr × Obj} (hi : news[i]? = some x) (hj : news[j]? = some y) (hne : x ≠ y) : ∃ rest, news.Perm (x :: y :: rest) ∧ ∀ x' y', ((news.set i x').set j y').Perm (x' :: y' :: rest) := by
  have hij : i ≠ j := by rintro rfl; rw [hi] at hj; exact hne (Option.some.inj hj)
  obtain ⟨s, t, e⟩ := List.append_of_mem (List.mem_of_getElem? hi)
  have h1 : news.Perm (x :: (s ++ t)) := by rw [e]; exact List.perm_middle
  have hy : y ∈ s ++ t := by
    rcases List.mem_cons.mp (h1.mem_iff.mp (List.mem_of_getElem? hj)) with h | h
    · exact absurd h.symm hne
    · exact h
  obtain ⟨s', t', e'⟩ := List.append_of_mem hy
  have h2 : news.Perm (x :: y :: (s' ++ t')) := h1.trans (by rw [e']; exact List.Perm.cons _ List.perm_middle)
  refine ⟨s' ++ t', h2, fun x' y' => ?_⟩
  have h3 : (news.set i x').Perm (x' :: y :: (s' ++ t')) := perm_set (j := 0) h2 hi rfl
  exact perm_set (j := 1) h3 (by rw [List.getElem?_set_ne hij]; exact hj) rfl
theorem g_perm {fs c t news news' tok} (q : news.Perm news') (x : Z.G fs c t news' tok) : Z.G fs c t news tok := Z.weak (fun _ D => by obtain ⟨l, D, r⟩ := D; exact ⟨l, D, r.trans q⟩) x
noncomputable def lastV (o : Option Nat) : Value := match o with | some c => .str ⟨#[c]⟩ 0 | none => .none
noncomputable def enuO (It : Addr) (f : Value) (i : Int) (l : Value) : Obj := ⟨.type "enumerate", none, .fields ⟨[f, .bool false, .ref It, .int i 0, .none, l]⟩, #[]⟩
noncomputable def tup2 (a b : Value) : Obj := ⟨.type SZ.s2766695959194262286x5, none, .seq ⟨[a, b]⟩ 0, #[]⟩
noncomputable def smEnum (ty : String) (En It : Addr) (x : Str) (i : Int) (ch : Nat) (l : Option Nat) : Sm := ⟨[(En, enuO It .none i (lastV l)), (It, strIt ty x 0 i 0)], .call (.builtin "enumerate.__next__") ⟨[.ref En], []⟩, 1,
  fun old n tok => ⟨.ok (.ret (.ref (n.getD 0 0))), [(n.getD 0 0, tup2 (.int i (tok + 1)) (.str ⟨#[ch]⟩ tok))],
   match old with | [e, q] => [setF 0 (.int (Int.ofNat (n.getD 0 0)) 0) (setF 5 (.str ⟨#[ch]⟩ tok) (setF 3 (.int (i + 1) 0) e)), setF 1 (.int (i + 1) 0) q] | o => o, tok + 2⟩, mC⟩
def fN : Obj → Nat | ⟨_, _, .fields f, _⟩ => f.size | _ => 0
theorem enu_ne {j1 j2 It f i l ty x tk n u} (e : bO j1 true (enuO It f i l) = bO j2 true (strIt ty x tk n u)) : False := by
  have h1 : fN (bO j1 true (enuO It f i l)) = 6 := by kernel_rfl!
  have h2 : fN (bO j2 true (strIt ty x tk n u)) = 2 := by kernel_rfl!
  rw [e, h2] at h1
  exact absurd h1 (by decide)
theorem su_enum {K : Frag} (X : K.In h₀) {ty : String} {x : Str} (hty : strTy x = ty) (En It : Addr) {i : Int} {ch : Nat} (l : Option Nat) (hc : x.cps[i.toNat]? = some ch) : Su Z (smEnum ty En It x i ch l) := by
  intro fs c c' k gd ll news tok is old hi ho hc' K'
  obtain ⟨ie, ii, j1, j2, rfl, rfl, h1, h2⟩ := old2 hi ho
  obtain ⟨tks, rfl⟩ := mC_call hc'
  clear hi ho hc'
  replace K' := fun a => K' [a] rfl
  have S1 : Sus Z [smStr ty It x i ch] := sus1 (su_str hty It hc) sus0
  have hty' := strTy_or x
  rw [hty] at hty'
  rcases hty' with rfl | rfl
  all_goals
   cases l
   all_goals
    obtain ⟨rest, q1, q2⟩ := perm2 h1 h2 (fun e => enu_ne (congrArg Prod.snd e))
    clear h1 h2
    refine g_perm q1 ?_
    apply g_call
    apply g_code
    apply run1 X S1 [.l 0,.g,.l 0,.l 1,.u 0 [1] 0,.l 0,.l 0,.s,.l 0,.l 0,.l 0,.l 0,.a,.l 1,.s,.l 1,.l 1,.l 1,.l 1,.l 1,.l 1,.l 1,.s,.p] rfl; intro e0 _
    refine ok_G ?_ (g_perm (List.Perm.cons _ (q2 _ _).symm) (K' e0))
    kernel_rfl!
noncomputable def smEnumE (ty : String) (En It : Addr) (x : Str) (i : Int) (l : Option Nat) : Sm := ⟨[(En, enuO It .none i (lastV l)), (It, strIt ty x 0 i 0)], .call (.builtin "enumerate.__next__") ⟨[.ref En], []⟩, 2,
  fun old n tok => ⟨.error (.ref (n.getD 1 0)), [(n.getD 1 0, stopObj (n.getD 0 0)), (n.getD 0 0, tuple0)],
   match old with | [e, q] => [e, setF 0 .none q] | o => o, tok⟩, mC⟩
theorem su_enumE {K : Frag} (X : K.In h₀) {ty : String} {x : Str} (hty : strTy x = ty) (En It : Addr) {i : Int} (l : Option Nat) (hc : x.cps[i.toNat]? = none) : Su Z (smEnumE ty En It x i l) := by
  intro fs c c' k gd ll news tok is old hi ho hc' K'
  obtain ⟨ie, ii, j1, j2, rfl, rfl, h1, h2⟩ := old2 hi ho
  obtain ⟨tks, rfl⟩ := mC_call hc'
  clear hi ho hc'
  replace K' := fun a b => K' [a, b] rfl
  have S1 : Sus Z [smStrE ty It x i] := sus1 (su_strE hty It hc) sus0
  have hty' := strTy_or x
  rw [hty] at hty'
  rcases hty' with rfl | rfl
  all_goals
   cases l
   all_goals
    obtain ⟨rest, q1, q2⟩ := perm2 h1 h2 (fun e => enu_ne (congrArg Prod.snd e))
    clear h1 h2
    refine g_perm q1 ?_
    apply g_call
    apply g_code
    apply run2 X S1 [.l 0,.g,.l 0,.l 1,.u 2 [1] 0,.p] rfl; intro e0 e1 _
    refine ok_G ?_ (g_perm (List.Perm.cons _ (List.Perm.cons _ (q2 _ _).symm)) (K' e0 e1))
    kernel_rfl!
end

section
variable {prog : Program} {w : World} {A : Around} {h₀ : Heap} {d : Drawn} {os : OsState} {vs : Array Value}
theorem nice_sg (prog : Program) (w : World) (A : Around) (P : End → Shared → Prop) (h₀ : Heap) (d : Drawn) (os : OsState) (hh : A.handled = none) (chg : List (Addr × Obj)) (g : Array GenState) : Nice (sgC prog w A P h₀ d os hh chg g) where
  made slot hT entry args g' hm := by
    intro fs c c' k gd l' news tok is old hi ho hc' K
    obtain ⟨tks, rfl⟩ := mC_call hc'
    cases old with
    | cons => cases ho
    | nil =>
    cases getAll0 hi
    replace K := fun a b => K [a, b] rfl
    intro Fs F h D
    refine s_cmd prog w _ _ _ _ (m := .call _ none gd l' .pure) (k := k) (y_start _ _ _ _ _ _ _ _ _ _ _ _ (by intro x; cases x) ?_)
    exact codeAny_call_builtin slot.plain entry (slot.check _ _ _ _ _ _ _ _ (hT _ _) (args tks) (g' tks prog w _ _ _ (hm tks _ _ fun tk' n => wpAny_pure (K tk' n Fs F h D))))
  made1 slot hT entry args g' hm := by
    intro fs c c' k gd l' news tok is old hi ho hc' K
    obtain ⟨tk, rfl⟩ := mC1_call hc'
    cases old with
    | cons => cases ho
    | nil =>
    cases getAll0 hi
    replace K := fun a b => K [a, b] rfl
    intro Fs F h D
    refine s_cmd prog w _ _ _ _ (m := .call _ none gd l' .pure) (k := k) (y_start _ _ _ _ _ _ _ _ _ _ _ _ (by intro x; cases x) ?_)
    exact codeAny_call_builtin slot.plain entry (slot.check _ _ _ _ _ _ _ _ (hT _ _) (args tk) (g' tk prog w _ _ _ (hm tk _ _ fun tk' n => wpAny_pure (K tk' n Fs F h D))))
end

section
variable {prog : Program} {w : World} {A : Around} {R : Result → Shared → Prop} {h₀ : Heap} {d : Drawn} {os : OsState} {vs : Array Value} {hh : A.handled = none} {t : Nat}
def bsl : Str := Str.ofString "\\"
def esc : List Nat → Nat → Bool → List (Nat × Str)
  | [], i, true => [(i - 1, bsl)]
  | [], _, false => []
  | c :: l, i, true => (i, ⟨⟨[92, c]⟩⟩) :: esc l (i + 1) false
  | c :: l, i, false => if c = 92 then esc l (i + 1) true else (i, ⟨⟨[c]⟩⟩) :: esc l (i + 1) false
noncomputable def genV (ty : String) (x : Str) (F It L : Addr) (p : Nat × Bool × Option Nat) : VL := [(true, F, enuO It .none (Int.ofNat p.1) (lastV p.2.2)), (true, It, strIt ty x 0 (Int.ofNat p.1) 0),
  (true, L, frO (dE (Str.ofString "addr") (.str x 0) :: dE (Str.ofString "pos") (.int (Int.ofNat (p.1 - 1)) 0) :: dE (Str.ofString "escape") (.bool p.2.1) :: oneE (Str.ofString "ch") p.2.2))]
noncomputable def genE (x : Str) (L : Addr) (p : Nat × Bool × Option Nat) : VL := [(true, L, frO (dE (Str.ofString "addr") (.str x 0) :: dE (Str.ofString "pos") (.int (Int.ofNat (p.1 - 1)) 0) :: dE (Str.ofString "escape") (.bool p.2.1) :: oneE (Str.ofString "ch") p.2.2))]
theorem ok_items {i1 i2 : List (Nat × Str)} {chg : List (Addr × Obj)} {g : Array GenState} {rest : List (Addr × Obj)} {hA : A.handled = none} {x : Option (Out × Obl)} (e : i1 = i2)
   (h : OK (sgC prog w A (PP prog w h₀ d os chg i2 g rest) h₀ d os hA chg g) x) : OK (sgC prog w A (PP prog w h₀ d os chg i1 g rest) h₀ d os hA chg g) x := by subst e; exact h
theorem ok_GV {chg : List (Addr × Obj)} {p : Setting} {Z : Calc h₀ chg p} {x : Option (Out × Obl)} (m : List Nat) {fs c t V rest} (e : (fA x, fB x, fC x, oKind x, oFs x, oC x, oT x, view m (oN x)) = (gA x, gB x, true, 1, fs, c, t, (V, rest))) (k : ∀ J tok, Z.G fs c t (led J V rest) tok) : OK Z x := by
  obtain ⟨e1, e⟩ := Prod.mk.inj e; obtain ⟨e2, e⟩ := Prod.mk.inj e; obtain ⟨e3, e⟩ := Prod.mk.inj e; obtain ⟨e4, e⟩ := Prod.mk.inj e; obtain ⟨e5, e⟩ := Prod.mk.inj e; obtain ⟨e6, e⟩ := Prod.mk.inj e; obtain ⟨e7, e⟩ := Prod.mk.inj e
  obtain ⟨J, h⟩ := view_led m (oN x)
  rw [e] at h
  exact ⟨e1, e2, e3, e_run e4 (g_sub h (by rw [e5, e6, e7]; exact k J _))⟩
theorem esc_t (c : Nat) (l : List Nat) (i : Nat) : esc (c :: l) i true = (i, ⟨⟨[92, c]⟩⟩) :: esc l (i + 1) false := rfl
theorem esc_f {c : Nat} (l : List Nat) (i : Nat) (h : ¬ c = 92) : esc (c :: l) i false = (i, ⟨⟨[c]⟩⟩) :: esc l (i + 1) false := by rw [esc, if_neg h]
theorem esc_b (l : List Nat) (i : Nat) : esc (92 :: l) i false = esc l (i + 1) true := rfl
def ldK : Sem PySem.Fin → Obj → Sem PySem.Fin | .load _ _ k => k | t => fun _ => t
def fsC : List Fr → Code | f :: _ => f.c | [] => .block [] default
def fsK : List Fr → Result → Sem PySem.Fin | f :: _ => f.k | [] => fun _ => .raise .none
noncomputable def gCode (w : World) (F L : Addr) : Code := forC ((bodyOf (heapK w.params) 28)[2]?) (.ref F) (envOf (heapK w.params) 28 27 L)
noncomputable def nextT (p : Setting) (c : Code) (F a : Addr) : Sem PySem.Fin := fsK (oFs (ex p [] [] [] [.s, .l 0, .cE] [] c (den c) [(F, enuO 0 .none 0 .none)] 0 [])) (.ok (.ret (.ref a)))
noncomputable def enF (v a b c d e : Value) : Obj := ⟨.type "enumerate", none, .fields ⟨[v, a, b, c, d, e]⟩, #[]⟩
theorem own_gen {chg : List (Addr × Obj)} {Z : Calc h₀ chg ⟨prog, w.params⟩} {fs c news tok} (F L a : Addr) (v1 v2 v3 v4 v5 : Value) (i : Nat) (hi : news[i]? = some (F, enF (.int (Int.ofNat a) 0) v1 v2 v3 v4 v5))
   (x : Z.G fs c (ldK (nextT ⟨prog, w.params⟩ (gCode w F L) F a) (enF .none v1 v2 v3 v4 v5)) (news.set i (F, enF .none v1 v2 v3 v4 v5)) tok) : Z.G fs c (ldK (nextT ⟨prog, w.params⟩ (gCode w F L) F a) (enF (.int (Int.ofNat a) 0) v1 v2 v3 v4 v5)) news tok := by
  k_subL
  apply g_rule
  conv => arg 4; whnf
  apply g_load (fun h D => D.at hi)
  conv => arg 4; whnf
  apply g_update i hi (by exact rfl)
  refine g_eq (t' := ldK (nextT ⟨prog, w.params⟩ (gCode w F L) F a) (enF .none v1 v2 v3 v4 v5)) ?_ x
  show _ = _
  kernel_rfl!
noncomputable def genW (ty : String) (x : Str) (F It L a : Addr) (i : Nat) (ef : Bool) (c : Nat) (s : Option Nat) (tok : Tok) : VL := [(true, a, tup2 (.int (Int.ofNat i) 0) (.str ⟨#[c]⟩ 0)), (false, F, enF (.int (Int.ofNat a) 0) (.bool false) (.ref It) (.int (Int.ofNat (i + 1)) 0) .none (.str ⟨#[c]⟩ tok)), (true, It, strIt ty x 0 (Int.ofNat (i + 1)) 0),
  (true, L, frO (dE (Str.ofString "addr") (.str x 0) :: dE (Str.ofString "pos") (.int (Int.ofNat (i - 1)) 0) :: dE (Str.ofString "escape") (.bool ef) :: oneE (Str.ofString "ch") s))]
theorem gen_for (X : (heapK w.params).In h₀) (hB : BI h₀) {ty : String} {x : Str} (hT : strTy x = ty) (hx : ∀ c ∈ x.cps.toList, Sg c) (F It L : Addr) (cB : Code) (kB : Result → Sem PySem.Fin)
   (hend : ∀ ef s A' (hA' : A'.handled = none) g' rest' J tok, (sgC prog w A' (PP prog w h₀ d os [(125, tableObj vs)] (esc [] x.cps.size ef) g' rest') h₀ d os hA' [(125, tableObj vs)] g').G [] cB (kB (.ok .next)) (led J (genE x L (x.cps.size, ef, s)) rest') tok) :
   ∀ A' (hA' : A'.handled = none) g' rest' J tok, (sgC prog w A' (PP prog w h₀ d os [(125, tableObj vs)] (esc x.cps.toList 0 false) g' rest') h₀ d os hA' [(125, tableObj vs)] g').C [⟨cB, kB, false⟩] (gCode w F L) (led J (genV ty x F It L (0, false, none)) rest') tok := by
  obtain ⟨_, e0, cl, dd, es, ep, sl, rfl, hL⟩ := hB
  replace X := in_cons e0 X
  refine gen_loop (fun p => x.cps.size - p.1) (genV ty x F It L) (fun p => esc (x.cps.toList.drop p.1) p.1 p.2.1) (fun p => p.1 ≤ x.cps.size ∧ (p.2.1 = true → 1 ≤ p.1)) ?_ (0, false, none) ⟨Nat.zero_le _, by intro h; cases h⟩
  rintro ⟨i, ef, s⟩ ⟨hi, hef⟩ ih A' hA' g' rest' J tok
  dsimp only at hi hef ih
  apply g_code
  by_cases hlt : i < x.cps.size
  · have hc : x.cps[(Int.ofNat i).toNat]? = some x.cps[i] := by simp [hlt]
    have hl : x.cps.toList[i]? = some x.cps[i] := by simp [hlt]
    have hs : Sg x.cps[i] := hx _ (by simp)
    have hd : x.cps.toList.drop i = x.cps[i] :: x.cps.toList.drop (i + 1) := by rw [List.drop_eq_getElem_cons (by simpa using hlt)]; simp
    rw [hd]
    generalize x.cps[i] = c at hc hl hs
    clear hd hl hs hx
    have hlt' : x.cps.size - (i + 1) < x.cps.size - i := by omega
    have ih0 := fun A' hA' g' rest' => ih (i + 1, false, some c) hlt' ⟨hlt, fun _ => Nat.le_add_left _ _⟩ A' hA' g' rest'
    have ih1 := fun A' hA' g' rest' => ih (i + 1, true, some c) hlt' ⟨hlt, fun _ => Nat.le_add_left _ _⟩ A' hA' g' rest'
    clear ih hend
    generalize x.cps.toList.drop (i + 1) = l at ih0 ih1 ⊢
    have N := nice_sg prog w A' (PP prog w h₀ d os [(125, tableObj vs)] (esc (c :: l) i ef) g' rest') h₀ d os hA' [(125, tableObj vs)] g'
    have S1 : Sus (sgC prog w A' (PP prog w h₀ d os [(125, tableObj vs)] (esc (c :: l) i ef) g' rest') h₀ d os hA' [(125, tableObj vs)] g') _ := sus1 (su_enum X hT F It s hc) sus0
    rcases s with _ | s
    · apply run1 X S1 [.s,.l 0,.u 1 [0,1] 0,.l 1] rfl; intro y0 _
      refine ok_GV [1, 2, 1, 1] (fs := [⟨cB, kB, false⟩]) (V := genW ty x F It L y0 i ef c none tok) (rest := rest') (c := gCode w F L) (t := ldK (nextT ⟨prog, w.params⟩ (gCode w F L) F y0) (enF (.int (Int.ofNat y0) 0) (.bool false) (.ref It) (.int (Int.ofNat (i + 1)) 0) .none (.str ⟨#[c]⟩ tok))) ?_ ?_
      kernel_rfl!
      intro J tok'
      refine own_gen F L y0 (.bool false) (.ref It) (.int (Int.ofNat (i + 1)) 0) .none (.str ⟨#[c]⟩ tok) 1 rfl ?_
      clear S1
      cases ef
      · by_cases h92 : c = 92
        · subst h92
          have S1 := sus1 (su_streq N (x := ⟨#[92]⟩) (y := bsl) (b := true) (by decide +kernel)) sus0
          apply run5 X S1 [.s,.l 0,.l 0,.l 0,.m,.c,.l 0,.g,.a,.p,.l 0,.l 0,.c,.l 0,.g,.l 0,.l 0,.l 1,.l 0,.l 0,.p,.l 0,.c,.l 0,.g,.l 0,.l 0,.l 1,.l 0,.l 0,.p,.l 0,.c,.l 0,.g,.l 0,.l 0,.l 1,.s,.l 0,.l 0,.a,.a,.s,.p,.l 0,.s,.s,.s,.s,.l 6,.l 6,.s,.s,.s,.s,.s,.l 6,.l 6,.s,.s,.s,.l 6,.s,.s,.s,.l 6,.s,.s,.m,.u 2 [] 0,.s,.s,.s,.s,.s,.l 6,.l 6,.s,.gE] rfl; intro u0 u1 u2 u3 u4 _
          refine ok_items (esc_b _ _) (ok_code [0, 0, 0, 0, 1, 1, 1] ?_ (ih1 A' hA' g' rest'))
          kernel_rfl!
        · have S1 := sus1 (su_streq N (x := ⟨#[c]⟩) (y := bsl) (b := false) (by show (([c] : List Nat) == [92]) = false; simp [h92])) sus0
          apply run6 X S1 [.s,.l 0,.l 0,.l 0,.m,.c,.l 0,.g,.a,.p,.l 0,.l 0,.c,.l 0,.g,.l 0,.l 0,.l 1,.l 0,.l 0,.p,.l 0,.c,.l 0,.g,.l 0,.l 0,.l 1,.l 0,.l 0,.p,.l 0,.c,.l 0,.g,.l 0,.l 0,.l 1,.s,.l 0,.l 0,.a,.a,.s,.p,.l 0,.s,.s,.s,.s,.l 6,.l 6,.s,.s,.s,.s,.s,.l 6,.l 6,.s,.s,.s,.l 6,.s,.s,.s,.l 6,.s,.s,.m,.u 2 [] 0,.s,.s,.s,.l 6,.s,.l 6,.a,.s] rfl; intro u0 u1 u2 u3 u4 u5 _
          refine ok_items (esc_f _ _ h92) (yield_ok [1, 0, 0, 0, 0, 1, 1, 1] (a := u5) (V := genV ty x F It L (i + 1, false, some c)) ?_ ?_)
          kernel_rfl!
          intro J A' hA' g' rest' tok
          clear S1
          apply run0 X sus0 [.gE] rfl; intro _
          refine ok_code [1, 1, 1] ?_ (ih0 A' hA' g' rest')
          kernel_rfl!
      · apply run4 X sus0 [.s,.l 0,.l 0,.l 0,.m,.c,.l 0,.g,.a,.p,.l 0,.l 0,.c,.l 0,.g,.l 0,.l 0,.l 1,.l 0,.l 0,.p,.l 0,.c,.l 0,.g,.l 0,.l 0,.l 1,.l 0,.l 0,.p,.l 0,.c,.l 0,.g,.l 0,.l 0,.l 1,.s,.l 0,.l 0,.a,.a,.s,.p,.l 0,.s,.s,.s,.s,.l 6,.l 6,.s,.s,.s,.s,.s,.l 6,.l 6,.s,.s,.s,.l 6,.s,.s,.s,.s,.l 6,.s,.s,.l 6,.s,.s,.c,.g,.s,.p,.a,.s] rfl; intro u0 u1 u2 u3 _
        refine ok_items (esc_t _ _ _) (yield_ok [1, 0, 0, 0, 0, 1, 1, 1] (a := u3) (V := genV ty x F It L (i + 1, true, some c)) ?_ ?_)
        kernel_rfl!
        intro J A' hA' g' rest' tok
        apply run0 X sus0 [.s,.s,.s,.s,.s,.l 2,.l 2,.s,.gE] rfl; intro _
        refine ok_code [1, 1, 1] ?_ (ih0 A' hA' g' rest')
        kernel_rfl!
    · apply run1 X S1 [.s,.l 0,.u 1 [0,1] 0,.l 1] rfl; intro y0 _
      refine ok_GV [1, 2, 1, 1] (fs := [⟨cB, kB, false⟩]) (V := genW ty x F It L y0 i ef c (some s) tok) (rest := rest') (c := gCode w F L) (t := ldK (nextT ⟨prog, w.params⟩ (gCode w F L) F y0) (enF (.int (Int.ofNat y0) 0) (.bool false) (.ref It) (.int (Int.ofNat (i + 1)) 0) .none (.str ⟨#[c]⟩ tok))) ?_ ?_
      kernel_rfl!
      intro J tok'
      refine own_gen F L y0 (.bool false) (.ref It) (.int (Int.ofNat (i + 1)) 0) .none (.str ⟨#[c]⟩ tok) 1 rfl ?_
      clear S1
      cases ef
      · by_cases h92 : c = 92
        · subst h92
          have S1 := sus1 (su_streq N (x := ⟨#[92]⟩) (y := bsl) (b := true) (by decide +kernel)) sus0
          apply run5 X S1 [.s,.l 0,.l 0,.l 0,.m,.c,.l 0,.g,.a,.p,.l 0,.l 0,.c,.l 0,.g,.l 0,.l 0,.l 1,.l 0,.l 0,.p,.l 0,.c,.l 0,.g,.l 0,.l 0,.l 1,.l 0,.l 0,.p,.l 0,.c,.l 0,.g,.l 0,.l 0,.l 1,.s,.l 0,.l 0,.a,.a,.s,.p,.l 0,.s,.s,.s,.s,.l 6,.l 6,.s,.s,.s,.s,.s,.l 6,.l 6,.s,.s,.s,.l 6,.s,.s,.s,.l 6,.s,.s,.m,.u 2 [] 0,.s,.s,.s,.s,.s,.l 6,.l 6,.s,.gE] rfl; intro u0 u1 u2 u3 u4 _
          refine ok_items (esc_b _ _) (ok_code [0, 0, 0, 0, 1, 1, 1] ?_ (ih1 A' hA' g' rest'))
          kernel_rfl!
        · have S1 := sus1 (su_streq N (x := ⟨#[c]⟩) (y := bsl) (b := false) (by show (([c] : List Nat) == [92]) = false; simp [h92])) sus0
          apply run6 X S1 [.s,.l 0,.l 0,.l 0,.m,.c,.l 0,.g,.a,.p,.l 0,.l 0,.c,.l 0,.g,.l 0,.l 0,.l 1,.l 0,.l 0,.p,.l 0,.c,.l 0,.g,.l 0,.l 0,.l 1,.l 0,.l 0,.p,.l 0,.c,.l 0,.g,.l 0,.l 0,.l 1,.s,.l 0,.l 0,.a,.a,.s,.p,.l 0,.s,.s,.s,.s,.l 6,.l 6,.s,.s,.s,.s,.s,.l 6,.l 6,.s,.s,.s,.l 6,.s,.s,.s,.l 6,.s,.s,.m,.u 2 [] 0,.s,.s,.s,.l 6,.s,.l 6,.a,.s] rfl; intro u0 u1 u2 u3 u4 u5 _
          refine ok_items (esc_f _ _ h92) (yield_ok [1, 0, 0, 0, 0, 1, 1, 1] (a := u5) (V := genV ty x F It L (i + 1, false, some c)) ?_ ?_)
          kernel_rfl!
          intro J A' hA' g' rest' tok
          clear S1
          apply run0 X sus0 [.gE] rfl; intro _
          refine ok_code [1, 1, 1] ?_ (ih0 A' hA' g' rest')
          kernel_rfl!
      · apply run4 X sus0 [.s,.l 0,.l 0,.l 0,.m,.c,.l 0,.g,.a,.p,.l 0,.l 0,.c,.l 0,.g,.l 0,.l 0,.l 1,.l 0,.l 0,.p,.l 0,.c,.l 0,.g,.l 0,.l 0,.l 1,.l 0,.l 0,.p,.l 0,.c,.l 0,.g,.l 0,.l 0,.l 1,.s,.l 0,.l 0,.a,.a,.s,.p,.l 0,.s,.s,.s,.s,.l 6,.l 6,.s,.s,.s,.s,.s,.l 6,.l 6,.s,.s,.s,.l 6,.s,.s,.s,.s,.l 6,.s,.s,.l 6,.s,.s,.c,.g,.s,.p,.a,.s] rfl; intro u0 u1 u2 u3 _
        refine ok_items (esc_t _ _ _) (yield_ok [1, 0, 0, 0, 0, 1, 1, 1] (a := u3) (V := genV ty x F It L (i + 1, true, some c)) ?_ ?_)
        kernel_rfl!
        intro J A' hA' g' rest' tok
        apply run0 X sus0 [.s,.s,.s,.s,.s,.l 2,.l 2,.s,.gE] rfl; intro _
        refine ok_code [1, 1, 1] ?_ (ih0 A' hA' g' rest')
        kernel_rfl!
  · have hc : x.cps[(Int.ofNat i).toNat]? = none := by simp [hlt]
    obtain rfl : i = x.cps.size := by omega
    have hd : x.cps.toList.drop x.cps.size = [] := by simp
    rw [hd]
    have S1 : Sus (sgC prog w A' (PP prog w h₀ d os [(125, tableObj vs)] (esc [] x.cps.size ef) g' rest') h₀ d os hA' [(125, tableObj vs)] g') _ := sus1 (su_enumE X hT F It s hc) sus0
    replace hend := hend ef s A' hA' g' rest'
    cases s
    all_goals
      apply run2 X S1 [.s,.l 0,.u 2 [0,1] 0,.l 0,.g,.p] rfl; intro y0 y1 _
      refine ok_GV [0, 0, 0, 0, 1] ?_ hend
      kernel_rfl!
end

section
variable {prog : Program} {w : World} {A : Around} {R : Result → Shared → Prop} {h₀ : Heap} {d : Drawn} {os : OsState} {vs : Array Value} {hh : A.handled = none} {t : Nat}
theorem newGen_ok {chg : List (Addr × Obj)} {fs c t news tok} {g : Array GenState} (items : List (Nat × Str)) (own : List (Addr × Obj)) (e : isNew t = true) (go : GenOK prog w h₀ d os chg items (.fresh (ngC t)) own)
   (x : ∀ c₀, GenOK prog w h₀ d os chg items (.fresh c₀) own → (wpC prog w A R h₀ d os hh chg (g.push (.fresh c₀))).G fs c (ngK t g.size) news tok) : (wpC prog w A R h₀ d os hh chg g).G fs c t news tok := by
  cases t with
  | newGen c' k => exact fun h D => X.y_newGen _ prog w _ _ _ _ h g d _ os _ _ (x _ go h D)
  | _ => cases e
theorem ok_loop1 {chg : List (Addr × Obj)} {p : Setting} {Z : Calc h₀ chg p} {x : Option (Out × Obl)} (m : List Nat) (c : Code) {V rest} (e : (fA x, fB x, fC x, oKind x, oFs x, oC x, view m (oN x)) = (gA x, gB x, true, 2, [⟨fsC (oFs x), fsK (oFs x), false⟩], c, (V, rest))) (k : ∀ J tok, Z.C [⟨fsC (oFs x), fsK (oFs x), false⟩] c (led J V rest) tok) : OK Z x := ok_code m e k
noncomputable def genV0 (x : Str) (L : Addr) : VL := [(true, L, frO [dE (Str.ofString "addr") (.str x 0)])]
noncomputable def genV1 (ty : String) (x : Str) (It L : Addr) : VL := [(true, It, strIt ty x 0 0 0), (true, L, frO [dE (Str.ofString "addr") (.str x 0), dE (Str.ofString "pos") (.int 0 0), dE (Str.ofString "escape") (.bool false)])]
noncomputable def genO (n : Nat) : Obj := ⟨.type SZ.s7929333955151719606x9, none, .fields ⟨[.int (Int.ofNat n) 0, .str (Str.ofString "_iter_escaped_chars") 0, .str (Str.ofString "_iter_escaped_chars") 0]⟩, #[]⟩
theorem gen_make {g : Array GenState} {fs : List Fr} (hR : (wpC prog w A R h₀ d os hh [(125, tableObj vs)] g).Rm fs 610) (X : (heapK w.params).In h₀) (hB : BI h₀) (x : Str) (tk : Tok) {rest : List (Addr × Obj)} (hx : ∀ c ∈ x.cps.toList, Sg c)
   (hK : ∀ a c₀ own J t', GenOK prog w h₀ d os [(125, tableObj vs)] (esc x.cps.toList 0 false) (.fresh c₀) own → (wpC prog w A R h₀ d os hh [(125, tableObj vs)] (g.push (.fresh c₀))).B fs (.ok (.ret (.ref a))) (led J [(true, a, genO g.size)] (own ++ rest)) t')
   : (wpC prog w A R h₀ d os hh [(125, tableObj vs)] g).C fs (.call (.ref 28) ⟨[.str x tk], []⟩) rest t := by
  have hB0 := hB
  have X0 := X
  obtain ⟨_, e0, cl, dd, es, ep, sl, rfl, hL⟩ := hB
  replace X := in_cons e0 X
  apply g_code
  apply run1 X sus0 [.s,.s,.a,.s,.s,.l 0,.l 0] rfl; intro L0 _; apply ok_run; kernel_rfl!
  k_places
  apply run0 X sus0 [.s] rfl; intro _; apply ok_run; kernel_rfl!
  k_subL
  apply run0 X sus0 [] rfl; intro _
  refine ok_view [1] (V := genV0 x L0) (rest := rest) ?_ ?_
  kernel_rfl!
  intro J tok
  apply newGen_ok (esc x.cps.toList 0 false) (build J (genV0 x L0))
  kernel_rfl!
  · clear hR
    apply fresh_ok
    intro A' hA' hR' g' rest' tok'
    replace hR := hR' g' rest'
    clear hR'
    apply g_code
    apply run0 X sus0 [.s,.s,.s,.s,.s,.s,.s,.l 0,.l 0,.s,.s,.s,.s,.s,.s,.l 0,.l 0,.s,.s,.s,.s,.s] rfl; intro _; apply ok_run; kernel_rfl!
    obtain ⟨bh, bk, bq⟩ := hL (Str.ofString "enumerate") (.type "enumerate") (by kernel_rfl!) (by kernel_rfl!)
    k_subL
    apply run0 X sus0 [.s,.l 0,.s,.c,.g,.c,.g] rfl; intro _; apply ok_run; kernel_rfl!
    k_places
    apply run0 X sus0 [] rfl; intro _; apply ok_run; kernel_rfl!
    k_subL
    apply run1 X sus0 [.m,.c,.g,.a,.p] rfl; intro e0 _
    refine ok_view [1, 1] (V := genV1 (strTy x) x e0 L0) (rest := rest') ?_ ?_
    kernel_rfl!
    intro J tok
    have hty := strTy_or x
    generalize hT : strTy x = ty at hty ⊢
    rcases hty with rfl | rfl
    all_goals
      apply run1 X sus0 [.l 0,.a,.p,.l 0,.l 0,.c,.l 0,.g,.l 0,.p,.p,.s,.s,.l 0,.l 0,.m,.c,.l 0,.g,.p,.l 0,.cE] rfl; intro f0 _
      refine ok_loop1 [1, 1, 1] (forC ((bodyOf (heapK w.params) 28)[2]?) (.ref f0) (envOf (heapK w.params) 28 27 L0)) (V := genV (tyOf hT) x f0 e0 L0 (0, false, none)) (rest := rest') ?_ (fun J tok => gen_for X0 hB0 hT hx f0 e0 L0 _ _ ?_ A' hA' g' rest' J tok)
      kernel_rfl!
      clear hR
      intro ef s A' hA' g' rest' J tok
      cases ef
      · apply run0 X sus0 [.s,.s,.l 0,.s,.pE] rfl; intro _
        refine end_ok (V := []) [0] ?_
        kernel_rfl!
      · apply run1 X sus0 [.s,.s,.l 0,.s,.s,.s,.s,.l 0,.s,.a,.s] rfl; intro y0 _
        refine yield_ok (V := []) [1, 0] (a := y0) ?_ ?_
        kernel_rfl!
        intro J A' hA' g' rest' tok
        apply run0 X sus0 [.pE] rfl; intro _
        refine end_ok (V := []) [] ?_
        kernel_rfl!
  intro c₀ hG
  apply run1 X sus0 [.s,.s,.a,.pE] rfl; intro z0 _
  refine ok_ret [1] (r := .ok (.ret (.ref z0))) (V := [(true, z0, genO g.size)]) (rest := build J (genV0 x L0) ++ rest) ?_ (fun tk J' t' => hK z0 c₀ (build J (genV0 x L0)) J' t' hG)
  kernel_rfl!
end

section
variable {prog : Program} {w : World} {A : Around} {R : Result → Shared → Prop} {h₀ : Heap} {d : Drawn} {os : OsState} {vs : Array Value} {hh : A.handled = none} {t : Nat}
def Bare (g : Array GenState) : Prop := ∀ y ∈ g, y.bare = true
def isGs : Sem PySem.Fin → Option Nat | .genState m _ => some m | _ => none
def gsK : Sem PySem.Fin → GenStatus × Option (List (Code × Pos)) → Sem PySem.Fin | .genState _ k => k | t => fun _ => t
theorem seen_ok {chg : List (Addr × Obj)} {fs c t news tok} {g : Array GenState} {n : Nat} {st : GenState} (e : isGs t = some n) (hg : g[n]? = some st) (x : (wpC prog w A R h₀ d os hh chg g).G fs c (gsK t st.seen) news tok) : (wpC prog w A R h₀ d os hh chg g).G fs c t news tok := by
  cases t with
  | genState m k => cases (Option.some.inj e); exact fun h D => y_genState _ prog w _ _ _ _ _ _ _ _ hg (x h D)
  | _ => cases e
def isRes : Sem PySem.Fin → Option Nat | .resume n (.send .none) _ _ => some n | _ => none
def reK : Sem PySem.Fin → GenResult → Sem PySem.Fin | .resume _ _ _ k => k | t => fun _ => t
theorem seg_monoQ {M : Model} {A : Around} {c : Code} {t : Sem PySem.Fin} {fs : List Frame} {s : Shared} {P P' : End → Shared → Prop} (x : SegX M A c t fs s P) (h : ∀ e s', e.genState.bare = true → P e s' → P' e s') : SegX M A c t fs s P' := fun Γ p hc hΓ => by
  obtain ⟨e, s', hr, hq, hp⟩ := x Γ p hc hΓ
  exact ⟨e, s', hr, hq, h e s' (End.bare_of_quiet hq) hp⟩
theorem bare_set {g : Array GenState} {n : Nat} {x y : GenState} (hx : x.bare = true) (hy : y.bare = true) (h : Bare g) : Bare ((g.setIfInBounds n x).setIfInBounds n y) := fun z hz => by
  rcases Array.mem_or_eq_of_mem_setIfInBounds hz with hz | rfl
  · rcases Array.mem_or_eq_of_mem_setIfInBounds hz with hz | rfl
    · exact h z hz
    · exact hx
  · exact hy
theorem get_set {g : Array GenState} {n : Nat} {x y st : GenState} (hg : g[n]? = some st) : ((g.setIfInBounds n x).setIfInBounds n y)[n]? = some y := by
  have : n < g.size := (Array.getElem?_eq_some_iff.mp hg).1
  simp [this]
theorem resume_ok {chg : List (Addr × Obj)} {fs c t tok} {g : Array GenState} {n m : Nat} {items : List (Nat × Str)} {st : GenState} {own rest : List (Addr × Obj)} (hR : (wpC prog w A R h₀ d os hh chg g).Rm fs m) (hb : Nat.ble (m + (c.weight + c.cUnits)) 610 = true)
   (e : isRes t = some n) (hg : g[n]? = some st) (hG : GenOK prog w h₀ d os chg items st own)
   (x0 : items = [] → ∀ g' J own' tok', (Bare g → Bare g') → (wpC prog w A R h₀ d os hh chg g').G fs c (reK t (.returned .none)) (led J [] (own' ++ rest)) tok')
   (x1 : ∀ i xs l, items = (i, xs) :: l → ∀ g' st' own' a J tok', g'[n]? = some st' → (Bare g → Bare g') → GenOK prog w h₀ d os chg l st' own' →
     (wpC prog w A R h₀ d os hh chg g').G fs c (reK t (.yielded (.ref a))) (led J [(true, a, tup2 (.int (Int.ofNat i) 0) (.str xs 0))] (own' ++ rest)) tok') : (wpC prog w A R h₀ d os hh chg g).G fs c t (own ++ rest) tok := by
  have hb := Nat.le_of_ble_eq_true hb
  have hd : ((Ar A fs).under c).depth ≤ 610 := by show (Ar A fs).depth + c.weight ≤ 610; have := hR.1; omega
  have hu : ((Ar A fs).under c).units ≤ 610 := by show (Ar A fs).units + c.cUnits ≤ 610; have := hR.2; omega
  have hn : ((Ar A fs).under c).handled = none := handled_Ar hh fs
  cases t with
  | resume n' r l k =>
    cases r with
    | send v =>
      cases v with
      | none =>
        cases (Option.some.inj e)
        intro h D
        have hW := (genOK_iff ..).mp hG _ hn hd hu (g.setIfInBounds n .running) rest tok h D
        have hP : ∀ (e : End) (s' : Shared), e.genState.bare = true → PP prog w h₀ d os chg items (g.setIfInBounds n .running) rest e s' → postG prog w (Ar A fs) c (postC prog w (Ar A fs) (Rk prog w A R fs)) (postE (Rk prog w A R fs)) k n e s' := by
          intro e s' hq hp
          cases items with
          | nil =>
            obtain ⟨f, h', tok', own', rfl, hr, rfl, hD⟩ := hp
            unfold postG
            rw [hr]
            exact x0 rfl _ (fun _ => jo0) own' tok' (bare_set rfl hq) h' hD
          | cons q l =>
            obtain ⟨i, xs⟩ := q
            obtain ⟨a, t1, t2, ep, h', tok', own', hr, rfl, hD, hG'⟩ := hp
            unfold postG
            rw [hr]
            exact x1 i xs l rfl _ _ own' a (fun _ => ⟨fun _ => 0, fun i => if i = 0 then t1 else t2, fun _ => 0, ep⟩) tok' (get_set hg) (bare_set rfl hq) hG' h' hD
        cases st with
        | fresh c₀ =>
          replace hW : SegX (model prog w) _ c₀ (ZFast.zw11892475500146522536 ZFast.tableZ c₀) [] _ _ := hW
          rw [← den_eq] at hW
          exact y_resume_f _ prog w _ _ _ _ _ _ _ _ _ hg (seg_monoQ hW hP)
        | suspended k₀ l₀ c₀ p₀ fs₀ cl => exact y_resume_s _ prog w _ _ _ _ _ _ _ _ _ _ _ _ _ _ _ hg (seg_monoQ hW hP)
        | _ => exact hW.elim
      | _ => cases e
    | _ => cases e
  | _ => cases e
theorem g_mem {chg : List (Addr × Obj)} {g : Array GenState} {fs c t news tok} (x : (∃ h, Mm h₀ h chg news) → (wpC prog w A R h₀ d os hh chg g).G fs c t news tok) : (wpC prog w A R h₀ d os hh chg g).G fs c t news tok := fun h D => x ⟨h, D⟩ h D
theorem mm_perm {chg l l' : List (Addr × Obj)} {h : Heap} (q : l.Perm l') (D : Mm h₀ h chg l) : Mm h₀ h chg l' := by obtain ⟨x, D, r⟩ := D; exact ⟨x, D, r.trans q⟩
theorem gen_next (X : (heapK w.params).In h₀) {g : Array GenState} {fs : List Fr} (hR : (wpC prog w A R h₀ d os hh [(125, tableObj vs)] g).Rm fs 560) (a : Addr) (n : Nat) {items : List (Nat × Str)} {st : GenState} {own rest : List (Addr × Obj)} (J : Nat → JO) (hg : g[n]? = some st) (hG : GenOK prog w h₀ d os [(125, tableObj vs)] items st own)
   (x0 : items = [] → ∀ g' J own' e e' tok', (Bare g → Bare g') → (wpC prog w A R h₀ d os hh [(125, tableObj vs)] g').B fs (.error (.ref e)) (led J [(true, e, stopObj e'), (true, a, genO n)] (own' ++ rest)) tok')
   (x1 : ∀ i xs l, items = (i, xs) :: l → ∀ g' st' own' a' J tok', g'[n]? = some st' → (Bare g → Bare g') → GenOK prog w h₀ d os [(125, tableObj vs)] l st' own' →
     (wpC prog w A R h₀ d os hh [(125, tableObj vs)] g').B fs (.ok (.ret (.ref a'))) (led J [(true, a', tup2 (.int (Int.ofNat i) 0) (.str xs 0)), (true, a, genO n)] (own' ++ rest)) tok')
   : (wpC prog w A R h₀ d os hh [(125, tableObj vs)] g).C fs (.call (.builtin "generator.__next__") ⟨[.ref a], []⟩) (led J [(true, a, genO n)] (own ++ rest)) t := by
  apply g_code
  apply run0 X sus0 [.l 0,.g,.l 0] rfl; intro _
  refine ok_view [1] (V := [(true, a, genO n)]) (rest := own ++ rest) ?_ ?_
  kernel_rfl!
  intro J tok
  refine seen_ok (n := n) ?_ hg ?_
  kernel_rfl!
  refine g_mem fun hD => ?_
  have hs : (∃ c, st = .fresh c) ∨ (∃ k l c p fr cl, st = .suspended k l c p fr cl) := by
    obtain ⟨h, D⟩ := hD
    have := (genOK_iff ..).mp hG (Ar A fs) (handled_Ar hh fs) (Nat.le_trans hR.1 (by decide)) (Nat.le_trans hR.2 (by decide)) #[] ((a, bO (J 0) true (genO n)) :: rest) 0 h (mm_perm List.perm_middle.symm D)
    cases st with
    | fresh c => exact .inl ⟨_, rfl⟩
    | suspended k l c p fr cl => exact .inr ⟨_, _, _, _, _, _, rfl⟩
    | _ => exact this.elim
  clear hD
  rcases hs with ⟨c, rfl⟩ | ⟨k, l, c, p, fr, cl, rfl⟩
  all_goals
    apply run0 X sus0 [] rfl; intro _; apply ok_run; kernel_rfl!
    k_places
    apply run0 X sus0 [.s] rfl; intro _; apply ok_run; kernel_rfl!
    k_subL
    apply run0 X sus0 [] rfl; intro _
    refine ok_view [1] (V := [(true, a, genO n)]) (rest := own ++ rest) ?_ ?_
    kernel_rfl!
    intro J tok
    refine g_perm (news' := own ++ ((a, bO (J 0) true (genO n)) :: rest)) (show List.Perm ((a, bO (J 0) true (genO n)) :: (own ++ rest)) _ from List.perm_middle.symm) ?_
    refine resume_ok (n := n) hR ?_ ?_ hg hG ?_ ?_
    kernel_rfl!
    kernel_rfl!
    · intro he g' J' own' tok' hb
      replace x0 := x0 he g'
      clear x1
      refine g_perm (news' := (a, bO (J 0) true (genO n)) :: (own' ++ rest)) List.perm_middle ?_
      apply run2 X sus0 [.a,.a,.s,.pE] rfl; intro f0 f1 _
      refine ok_ret [1, 0, 1] (r := .error (.ref f1)) (V := [(true, f1, stopObj f0), (true, a, genO n)]) (rest := own' ++ rest) ?_ (fun tk J' t' => x0 J' own' f1 f0 t' hb)
      kernel_rfl!
    · intro i xs l he g' st' own' a' J' tok' hg' hb hG'
      replace x1 := x1 i xs l he g' st' own' a'
      clear x0
      refine g_perm (news' := (a', bO (J' 0) true (tup2 (.int (Int.ofNat i) 0) (.str xs 0))) :: (a, bO (J 0) true (genO n)) :: (own' ++ rest)) (List.Perm.cons _ List.perm_middle) ?_
      apply run0 X sus0 [.pE] rfl; intro _
      refine ok_ret [1, 1] (r := .ok (.ret (.ref a'))) (V := [(true, a', tup2 (.int (Int.ofNat i) 0) (.str xs 0)), (true, a, genO n)]) (rest := own' ++ rest) ?_ (fun tk J' t' => x1 J' t' hg' hb hG')
      kernel_rfl!
end

section
variable {h₀ : Heap} {chg : List (Addr × Obj)} {p : Setting} {Z : Calc h₀ chg p}
structure Nice3 (Z : Calc h₀ chg p) : Prop where
  call : ∀ {fs : List Fr} {c : Code} {gd : Bool} {l : List Value} {k : Result → Sem PySem.Fin} {news : List (Addr × Obj)} {tok : Nat} {f : Value} {pos : List Value} (E : Result → List (Addr × Obj) → Nat → Prop),
    (∀ (prog : Program) (w : World) (A : Around) (g : Array GenState) (d : Drawn) (os : OsState) (h : Heap), A.handled = none → Mm h₀ h chg news →
      wpAny (model prog w) A (PySem.call f pos) (fun v s' => ∃ h' news' tok', s' = ⟨h', g, d, tok', os⟩ ∧ Mm h₀ h' chg news' ∧ E (.ok (.ret v)) news' tok')
        (fun e s' => ∃ h' news' tok', s' = ⟨h', g, d, tok', os⟩ ∧ Mm h₀ h' chg news' ∧ E (.error e) news' tok') ⟨h, g, d, tok, os⟩) →
    (∀ r news' tok', E r news' tok' → Z.G fs c (k r) news' tok') → Z.G fs c (.call (.call f ⟨pos, []⟩) none gd l k) news tok
theorem nice3_wp (prog : Program) (w : World) (A : Around) (R : Result → Shared → Prop) (h₀ : Heap) (d : Drawn) (os : OsState) (hh : A.handled = none) (chg : List (Addr × Obj)) (g : Array GenState) : Nice3 (wpC prog w A R h₀ d os hh chg g) where
  call := by
    intro fs c gd l k news tok f pos E H K h D Γ p hc hΓ
    have := H prog w ((Ar A fs).under c) g d os h (handled_Ar hh fs) D Γ p (hc ▸ hΓ.in)
    unfold PySem.call at this
    rw [Sem.wp_runValue] at this
    refine wpCode_mono (fun r s' hr => ?_) this
    cases r with
    | error e => obtain ⟨h', news', tok', rfl, D', hE⟩ := hr; exact K _ _ _ hE h' D' Γ p hc hΓ
    | ok f => cases f with
      | ret v => obtain ⟨h', news', tok', rfl, D', hE⟩ := hr; exact K _ _ _ hE h' D' Γ p hc hΓ
      | _ => exact hr.elim
theorem nice3_sg (prog : Program) (w : World) (A : Around) (P : End → Shared → Prop) (h₀ : Heap) (d : Drawn) (os : OsState) (hh : A.handled = none) (chg : List (Addr × Obj)) (g : Array GenState) : Nice3 (sgC prog w A P h₀ d os hh chg g) where
  call := by
    intro fs c gd l k news tok f pos E H K Fs F h D
    refine s_cmd prog w _ _ _ _ (m := .call _ none gd l .pure) (k := k) fun Γ p hΓ => ?_
    have := H prog w (A.over c Fs) g d os h (marks0 F hh hh) D Γ p hΓ
    unfold PySem.call at this
    rw [Sem.wp_runValue] at this
    refine wpCode_mono (fun r s' hr => ?_) this
    cases r with
    | error e => obtain ⟨h', news', tok', rfl, D', hE⟩ := hr; exact K _ _ _ hE Fs F h' D'
    | ok f => cases f with
      | ret v => obtain ⟨h', news', tok', rfl, D', hE⟩ := hr; exact K _ _ _ hE Fs F h' D'
      | _ => exact hr.elim
noncomputable def smR (id : String) (args : List Value) (ob : List (Addr × Obj)) (r : Value) : Sm := ⟨ob, .call (.builtin id) ⟨args, []⟩, 2, fun _ as' _ => ⟨.ok (.ret (bv (as'.getD 0 0) r)), [], [], as'.getD 1 0⟩, mC⟩
theorem getAll_mem {news : List (Addr × Obj)} : ∀ {is old}, getAll news is = some old → ∀ q ∈ old, ∃ i : Nat, news[i]? = some q
  | [], old, h, q, hq => by cases h; cases hq
  | i :: is, old, h, q, hq => by
    unfold getAll at h
    split at h
    · rename_i x hx
      split at h
      · rename_i l hl
        cases h
        rcases List.mem_cons.mp hq with rfl | hq
        · exact ⟨i, hx⟩
        · exact getAll_mem hl q hq
      · cases h
    · cases h
theorem setAll_nil (news : List (Addr × Obj)) (is : List Nat) : setAll news is [] = news := by cases is <;> rfl
theorem su_read (N : Nice3 Z) {id : String} {args : List Value} {ob : List (Addr × Obj)} {r : Value}
    (H : ∀ (prog : Program) (w : World) (A : Around) (E : Value → Shared → Prop) (Q : Value → Shared → Prop) (h : Heap) (g : Array GenState) (d : Drawn) (os : OsState) (tok : Nat) (tks : Nat → Tok) (old : List (Addr × Obj)), old.map vP = ob → (∀ q ∈ old, h.get? q.1 = some q.2) →
      (∀ tk' k, Q (bv tk' r) ⟨h, g, d, k, os⟩) → wpAny (model prog w) A (PySem.call (.builtin id) (bVs tks args)) Q E ⟨h, g, d, tok, os⟩) : Su Z (smR id args ob r) := by
  intro fs c c' k gd l news tok is old hi ho hc' K
  obtain ⟨tks, rfl⟩ := mC_call hc'
  replace K := fun a b => K [a, b] rfl
  refine N.call (fun r' news' tok' => news' = news ∧ ∃ tk', r' = .ok (.ret (bv tk' r))) (fun prog w A g d os h hA D => ?_) ?_
  · refine H prog w A _ _ h g d os tok tks old ho (fun q hq => ?_) fun tk' n => ⟨h, news, n, rfl, D, rfl, tk', rfl⟩
    obtain ⟨i, hi⟩ := getAll_mem hi q hq
    exact D.at hi
  · rintro r' news' tok' ⟨rfl, tk', rfl⟩
    have := K tk' tok'
    unfold Eff.news smR at this
    dsimp only at this
    rw [setAll_nil] at this
    exact this
def strV (x : Str) : Value := .str x 0
noncomputable def lstO (l : List Value) : Obj := ⟨.type "list", none, .seq ⟨l⟩ 0, #[]⟩
noncomputable def listE (es : Array Value) (n : Nat) : Obj := ⟨.type "list", none, .seq es n, #[]⟩
theorem vO_seq {o : Obj} {l : List Value} (h : vO o = lstO l) : ∃ es n, o = listE es n ∧ es.toList.map vv = l := by
  obtain ⟨c, d, x, s⟩ := o
  cases x with
  | seq es n =>
    unfold lstO at h
    replace h : (⟨c, d, .seq ⟨es.toList.map vv⟩ 0, s⟩ : Obj) = _ := h
    injection h with h1 h2 h3 h4
    injection h3 with h5
    injection h5 with h6
    subst h1 h2 h4
    exact ⟨es, n, rfl, h6⟩
  | cell v => cases v <;> (unfold vO lstO at h; injection h with h1 h2 h3 h4; cases h3)
  | _ => unfold vO lstO at h; injection h with h1 h2 h3 h4; cases h3
theorem old_list {old : List (Addr × Obj)} {D : Addr} {l : List Value} (h : old.map vP = [(D, lstO l)]) : ∃ es n, old = [(D, listE es n)] ∧ es.toList.map vv = l := by
  cases old with
  | nil => cases h
  | cons q old =>
    obtain ⟨a, o⟩ := q
    cases old with
    | cons => exact absurd (congrArg List.length h) (by simp)
    | nil =>
      have h1 := (List.cons.inj h).1
      have h2 : a = D := congrArg Prod.fst h1
      obtain ⟨es, n, rfl, he⟩ := vO_seq (congrArg Prod.snd h1 : vO o = lstO l)
      exact ⟨es, n, by rw [h2], he⟩
theorem strs_ex : ∀ {es : List Value} {ls : List Str}, es.map vv = ls.map strV → ∃ l : List (Str × Tok), es = strValues l ∧ l.map (·.1) = ls
  | [], [], _ => ⟨[], rfl, rfl⟩
  | [], _ :: _, h => by cases h
  | _ :: _, [], h => by cases h
  | v :: es, x :: ls, h => by
    obtain ⟨l, rfl, e⟩ := strs_ex (List.cons.inj h).2
    have hv : vv v = .str x 0 := (List.cons.inj h).1
    have : v = .str x (tkOf v) := by rw [← bv_vv v, hv]; rfl
    exact ⟨(x, tkOf v) :: l, by rw [this]; rfl, by rw [List.map_cons, e]⟩
theorem su_join (N : Nice3 Z) {x : Str} {D : Addr} {es : Array Value} {ls : List Str} (he : es.toList.map vv = ls.map strV) (hok : JoinOk x ls = true) : Su Z (smR "str.join" [.str x 0, .ref D] [(D, lstO (es.toList.map vv))] (.str (Txt.join x ls) 0)) := by
  refine su_read N ?_
  intro prog w A E Q h g d os tok tks old ho hm hQ
  obtain ⟨es', n, rfl, he'⟩ := old_list ho
  obtain ⟨l, hl, e⟩ := strs_ex (he'.trans he)
  have hg := hm _ (.head _)
  exact SC.join (D := D) (l := l) ⟨_, hg, rfl, n, by rw [← hl]; rfl⟩ e hok fun t' k => hQ t' k
theorem su_lcount (N : Nice3 Z) {D : Addr} {es : Array Value} {x : Value} (e : Value → Bool) (hE : ∀ y u, vv y ∈ es.toList.map vv → MeetsSeq.EqGives y (bv u x) (e (vv y))) : Su Z (smR "list.count" [.ref D, x] [(D, lstO (es.toList.map vv))] (.int ((es.toList.map vv).countP e : Nat) 0)) := by
  refine su_read N ?_
  intro prog w A E Q h g d os tok tks old ho hm hQ
  obtain ⟨es', n, rfl, he'⟩ := old_list ho
  have hg := hm _ (.head _)
  refine call_meets F.slot_list_count ⟨_, hg, rfl⟩ F.entry_list_count (F.args_list_count_2 _ _) (MeetsSeq.list_count D es' n _ (e ∘ vv) fun y hy => hE y _ ?_) ⟨hg, ?_⟩
  · rw [← he']; exact List.mem_map_of_mem (by simpa using hy)
  · have := hQ tok (tok + 1)
    rw [← he', List.countP_map] at this
    exact this
theorem su_lindex (N : Nice3 Z) {D : Addr} {es : Array Value} {x : Value} (e : Value → Bool) (hE : ∀ y u, vv y ∈ es.toList.map vv → MeetsSeq.EqGives y (bv u x) (e (vv y))) (j : Nat) (hz : es.size ≤ 16777216) (hj : ((es.toList.map vv)[j]?).map e = some true) (hno : ∀ i, i < j → ((es.toList.map vv)[i]?).map e = some false) :
    Su Z (smR "list.index" [.ref D, x] [(D, lstO (es.toList.map vv))] (.int (j : Nat) 0)) := by
  refine su_read N ?_
  intro prog w A E Q h g d os tok tks old ho hm hQ
  obtain ⟨es', n, rfl, he'⟩ := old_list ho
  have hg := hm _ (.head _)
  have hs : es'.size = es.size := by have := congrArg List.length he'; simpa using this
  rw [← he'] at hj hno
  have hj' : j < es'.size := by
    rcases Nat.lt_or_ge j es'.size with h | h
    · exact h
    · rw [List.getElem?_eq_none (by simpa using h)] at hj; cases hj
  refine call_meets F.slot_list_index ⟨_, hg, rfl⟩ F.entry_list_index (F.args_list_index_2 _ _) (MeetsSeq.list_index D es' n _ (e ∘ vv) (fun y hy => hE y _ ?_) j hj' (by omega) ?_ ?_) ⟨hg, hQ tok (tok + 1)⟩
  · rw [← he']; exact List.mem_map_of_mem (by simpa using hy)
  · simpa [hj'] using hj
  · intro m hm' hlt
    simpa [hm'] using hno m hlt
end

section
variable {h₀ : Heap} {chg : List (Addr × Obj)} {p : Setting} {Z : Calc h₀ chg p}
noncomputable def lItO (D : Value) (i : Int) : Obj := ⟨.type "list_iterator", none, .fields ⟨[D, .int i 0]⟩, #[]⟩
noncomputable def smL (It D : Addr) (L : List Value) (i : Int) (v : Value) : Sm := ⟨[(It, lItO (.ref D) i), (D, lstO L)], .call (.builtin "list_iterator.__next__") ⟨[.ref It], []⟩, 1,
  fun old n tok => ⟨.ok (.ret (bv (n.getD 0 0) v)), [], match old with | [q, r] => [setF 1 (.int (i + 1) 0) q, r] | o => o, tok⟩, mC⟩
theorem old2L {news : List (Addr × Obj)} {is : List Nat} {old : List (Addr × Obj)} {a b : Addr} {o : Obj} {L : List Value} (h : getAll news is = some old) (e : old.map vP = [(a, o), (b, lstO L)]) : ∃ i j ja es n, is = [i, j] ∧ old = [(a, bO ja true o), (b, listE es n)] ∧ news[i]? = some (a, bO ja true o) ∧ news[j]? = some (b, listE es n) ∧ es.toList.map vv = L := by
  obtain ⟨i, j, ja, jb, rfl, rfl, h1, h2⟩ := old2 h e
  obtain ⟨es, n, hes⟩ := vO_seq (o := bO jb true (lstO L)) (l := (bVs jb.v L).map vv) rfl
  refine ⟨i, j, ja, es, n, rfl, by rw [hes.1], h1, by rw [h2, hes.1], ?_⟩
  have := congrArg Prod.snd (List.cons.inj (List.cons.inj e).2).1
  rw [hes.2]
  exact congrArg (fun o => match o.data with | .seq es _ => es.toList | _ => []) this
theorem at_list {es : Array Value} {L : List Value} {i : Nat} {v : Value} (he : es.toList.map vv = L) (hc : L[i]? = some v) : ∃ tk, es[i]? = some (bv tk v) := by
  rw [← he, List.getElem?_map] at hc
  cases h : es[i]? with
  | none => rw [Array.getElem?_toList, h] at hc; cases hc
  | some x =>
    rw [Array.getElem?_toList, h] at hc
    exact ⟨tkOf x, by rw [← Option.some.inj hc, bv_vv]⟩
theorem at_none {es : Array Value} {L : List Value} {i : Nat} (he : es.toList.map vv = L) (hc : L[i]? = none) : es[i]? = none := by
  rw [← he, List.getElem?_map, Array.getElem?_toList] at hc
  cases h : es[i]? with
  | none => rfl
  | some x => rw [h] at hc; cases hc
def seqN : Obj → Bool | ⟨_, _, .seq _ _, _⟩ => true | _ => false
theorem it_ne {j : JO} {D : Value} {i : Int} {es : Array Value} {n : Nat} (e : bO j true (lItO D i) = listE es n) : False := by
  have h1 : seqN (bO j true (lItO D i)) = false := by kernel_rfl!
  rw [e] at h1
  cases h1
theorem su_lnext {K : Frag} (X : K.In h₀) {It D : Addr} {L : List Value} {i : Int} {v : Value} (hc : L[i.toNat]? = some v) : Su Z (smL It D L i v) := by
  intro fs c c' k gd ll news tok is old hi ho hc' K'
  obtain ⟨ie, ii, j1, es, n, rfl, rfl, h1, h2, he⟩ := old2L hi ho
  obtain ⟨tks, rfl⟩ := mC_call hc'
  clear hi ho hc'
  obtain ⟨tk, hv⟩ := at_list he hc
  replace K' := K' [tk] rfl
  obtain ⟨rest, q1, q2⟩ := perm2 h1 h2 (fun e => it_ne (congrArg Prod.snd e))
  clear h1 h2
  refine g_perm q1 ?_
  apply g_call
  apply g_code
  apply run0 X sus0 [.l 0,.g,.l 0,.l 0,.l 1] rfl; intro _; apply ok_run; kernel_rfl!
  with_unfolding_all (conv => arg 4; whnf)
  apply g_eq
  with_unfolding_all (conv => arg 1; whnf)
  rw [hv]
  exact same_rfl
  apply run0 X sus0 [.l 0,.l 0,.p] rfl; intro _
  refine ok_G ?_ (g_perm (q2 _ _).symm K')
  kernel_rfl!
noncomputable def smLE (It D : Addr) (L : List Value) (i : Int) : Sm := ⟨[(It, lItO (.ref D) i), (D, lstO L)], .call (.builtin "list_iterator.__next__") ⟨[.ref It], []⟩, 2,
  fun old n tok => ⟨.error (.ref (n.getD 1 0)), [(n.getD 1 0, stopObj (n.getD 0 0)), (n.getD 0 0, tuple0)], match old with | [q, r] => [setF 0 .none q, r] | o => o, tok⟩, mC⟩
theorem su_lend {K : Frag} (X : K.In h₀) {It D : Addr} {L : List Value} {i : Int} (hc : L[i.toNat]? = none) : Su Z (smLE It D L i) := by
  intro fs c c' k gd ll news tok is old hi ho hc' K'
  obtain ⟨ie, ii, j1, es, n, rfl, rfl, h1, h2, he⟩ := old2L hi ho
  obtain ⟨tks, rfl⟩ := mC_call hc'
  clear hi ho hc'
  have hv := at_none he hc
  replace K' := fun a b => K' [a, b] rfl
  obtain ⟨rest, q1, q2⟩ := perm2 h1 h2 (fun e => it_ne (congrArg Prod.snd e))
  clear h1 h2
  refine g_perm q1 ?_
  apply g_call
  apply g_code
  apply run0 X sus0 [.l 0,.g,.l 0,.l 0,.l 1] rfl; intro _; apply ok_run; kernel_rfl!
  with_unfolding_all (conv => arg 4; whnf)
  apply g_eq
  with_unfolding_all (conv => arg 1; whnf)
  rw [hv]
  exact same_rfl
  apply run2 X sus0 [.s,.l 0,.l 0,.a,.a,.s,.p] rfl; intro f0 f1 _
  refine ok_G ?_ (g_perm (List.Perm.cons _ (List.Perm.cons _ (q2 _ _).symm)) (K' f0 f1))
  kernel_rfl!
end

section
variable {prog : Program} {w : World} {A : Around} {R : Result → Shared → Prop} {h₀ : Heap} {d : Drawn} {os : OsState} {vs : Array Value} {hh : A.handled = none} {t : Nat}
theorem ok_call1 {chg : List (Addr × Obj)} {p : Setting} {Z : Calc h₀ chg p} {x : Option (Out × Obl)} (m : List Nat) {f args V rest fs} (e : (fA x, fB x, fC x, oKind x, oFs x, callee (oC x), ckw (oC x), (cpos (oC x)).map vv, view m (oN x)) = (gA x, gB x, true, 2, ⟨fsC (oFs x), fsK (oFs x), false⟩ :: fs, f, true, args, (V, rest))) (k : ∀ tks J tok, Z.C (⟨fsC (oFs x), fsK (oFs x), false⟩ :: fs) (.call f ⟨bVs tks args, []⟩) (led J V rest) tok) (hf : f ≠ .none) : OK Z x := by
  obtain ⟨e1, e⟩ := Prod.mk.inj e; obtain ⟨e2, e⟩ := Prod.mk.inj e; obtain ⟨e3, e⟩ := Prod.mk.inj e; obtain ⟨e4, e⟩ := Prod.mk.inj e; obtain ⟨e5, e⟩ := Prod.mk.inj e; obtain ⟨e6, e⟩ := Prod.mk.inj e; obtain ⟨e7, e⟩ := Prod.mk.inj e; obtain ⟨e8, e9⟩ := Prod.mk.inj e
  refine ok_call m (show (fA x, fB x, fC x, oKind x, callee (oC x), ckw (oC x), (cpos (oC x)).map vv, view m (oN x)) = (gA x, gB x, true, 2, f, true, args, (V, rest)) by rw [e1, e2, e3, e4, e6, e7, e8, e9]) (fun tks J tok => ?_) hf
  have := k tks J tok
  rw [← e5] at this
  exact this
theorem gen_swap {chg : List (Addr × Obj)} {p : Setting} {Z : Calc h₀ chg p} {fs c t tok a J J' V own rest} {o : Obj} (x : Z.G fs c t (led (sh (J' 0) J) ((true, a, o) :: V) (own ++ rest)) tok) : Z.G fs c t (led J' [(true, a, o)] (own ++ led J V rest)) tok :=
  g_perm (news := (a, bO (J' 0) true o) :: (own ++ (build J V ++ rest))) (news' := (a, bO (J' 0) true o) :: (build J V ++ (own ++ rest))) (List.Perm.cons _ (List.perm_append_comm_assoc _ _ _)) x
theorem ok_loopf {chg : List (Addr × Obj)} {p : Setting} {Z : Calc h₀ chg p} {x : Option (Out × Obl)} (m : List Nat) (c : Code) {V rest fs} (e : (fA x, fB x, fC x, oKind x, oFs x, oC x, view m (oN x)) = (gA x, gB x, true, 2, ⟨fsC (oFs x), fsK (oFs x), false⟩ :: fs, c, (V, rest))) (k : ∀ J tok, Z.C (⟨fsC (oFs x), fsK (oFs x), false⟩ :: fs) c (led J V rest) tok) : OK Z x := ok_code m e k
theorem gw_loop {chg : List (Addr × Obj)} {fs : List Fr} {c : Code} {rest : List (Addr × Obj)} {P : Type} (V : P → VL) (items : P → List (Nat × Str)) (Q : P → Prop) (n : Nat)
    (turn : ∀ p, Q p → ∀ g st own, Bare g → g[n]? = some st → GenOK prog w h₀ d os chg (items p) st own →
      (∀ p', (items p').length < (items p).length → Q p' → ∀ g' st' own', Bare g' → g'[n]? = some st' → GenOK prog w h₀ d os chg (items p') st' own' → ∀ J tok, (wpC prog w A R h₀ d os hh chg g').C fs c (led J (V p') (own' ++ rest)) tok) →
      ∀ J tok, (wpC prog w A R h₀ d os hh chg g).C fs c (led J (V p) (own ++ rest)) tok)
    (p : P) (hq : Q p) : ∀ g st own, Bare g → g[n]? = some st → GenOK prog w h₀ d os chg (items p) st own → ∀ J tok, (wpC prog w A R h₀ d os hh chg g).C fs c (led J (V p) (own ++ rest)) tok := by
  have : ∀ m p, (items p).length = m → Q p → ∀ g st own, Bare g → g[n]? = some st → GenOK prog w h₀ d os chg (items p) st own → ∀ J tok, (wpC prog w A R h₀ d os hh chg g).C fs c (led J (V p) (own ++ rest)) tok := by
    intro m
    induction m using Nat.strongRecOn with
    | ind m ih => exact fun p e hq g st own hb hg hG => turn p hq g st own hb hg hG fun p' hl hq' => ih _ (e ▸ hl) p' rfl hq'
  exact this _ p rfl hq
theorem gen_swap2 {chg : List (Addr × Obj)} {p : Setting} {Z : Calc h₀ chg p} {fs c t tok a b J J' V own rest} {ma mb : Bool} {o o' : Obj} (x : Z.G fs c t (led (sh (J' 0) (sh (J' 1) J)) ((ma, b, o') :: (mb, a, o) :: V) (own ++ rest)) tok) : Z.G fs c t (led J' [(ma, b, o'), (mb, a, o)] (own ++ led J V rest)) tok :=
  g_perm (news := (b, bO (J' 0) ma o') :: (a, bO (J' 1) mb o) :: (own ++ (build J V ++ rest))) (news' := (b, bO (J' 0) ma o') :: (a, bO (J' 1) mb o) :: (build J V ++ (own ++ rest))) (List.Perm.cons _ (List.Perm.cons _ (List.perm_append_comm_assoc _ _ _))) x
theorem gc_perm {chg : List (Addr × Obj)} {p : Setting} {Z : Calc h₀ chg p} {fs c news news' tok} (q : news.Perm news') (x : Z.C fs c news' tok) : Z.C fs c news tok := Z.weakC (fun _ D => by obtain ⟨l, D, r⟩ := D; exact ⟨l, D, r.trans q⟩) x
theorem gc_swap {chg : List (Addr × Obj)} {p : Setting} {Z : Calc h₀ chg p} {fs c tok a J V own rest} {o : Obj} (x : Z.C fs c (led J [(true, a, o)] (own ++ led (fun i => J (i + 1)) V rest)) tok) : Z.C fs c (led J ((true, a, o) :: V) (own ++ rest)) tok :=
  gc_perm (news := (a, bO (J 0) true o) :: (build (fun i => J (i + 1)) V ++ (own ++ rest))) (news' := (a, bO (J 0) true o) :: (own ++ (build (fun i => J (i + 1)) V ++ rest))) (List.Perm.cons _ (List.perm_append_comm_assoc _ _ _)) x
noncomputable def nextK (p : Setting) (c : Code) (a : Addr) (o : Obj) : Result → Sem PySem.Fin := fsK (oFs (ex p [] [] [] [.s, .l 0, .cE] [] c (den c) [(a, o)] 0 []))
theorem ok_codeN {chg : List (Addr × Obj)} {p : Setting} {Z : Calc h₀ chg p} {x : Option (Out × Obl)} {fs c news} (e : (fA x, fB x, fC x, oKind x, oFs x, oC x, oN x) = (gA x, gB x, true, 2, fs, c, news)) (k : ∀ tok, Z.C fs c news tok) : OK Z x := by
  obtain ⟨e1, e⟩ := Prod.mk.inj e; obtain ⟨e2, e⟩ := Prod.mk.inj e; obtain ⟨e3, e⟩ := Prod.mk.inj e; obtain ⟨e4, e⟩ := Prod.mk.inj e; obtain ⟨e5, e⟩ := Prod.mk.inj e; obtain ⟨e6, e⟩ := Prod.mk.inj e
  exact ⟨e1, e2, e3, e_code e4 (by rw [e5, e6, e]; exact k _)⟩
theorem ok_drop {chg : List (Addr × Obj)} {p : Setting} {Z : Calc h₀ chg p} {x : Option (Out × Obl)} (j : Nat) {fs c t news} (e : (fA x, fB x, fC x, oKind x, oFs x, oC x, oT x, (oN x).drop j) = (gA x, gB x, true, 1, fs, c, t, news)) (k : ∀ tok, Z.G fs c t news tok) : OK Z x := by
  obtain ⟨e1, e⟩ := Prod.mk.inj e; obtain ⟨e2, e⟩ := Prod.mk.inj e; obtain ⟨e3, e⟩ := Prod.mk.inj e; obtain ⟨e4, e⟩ := Prod.mk.inj e; obtain ⟨e5, e⟩ := Prod.mk.inj e; obtain ⟨e6, e⟩ := Prod.mk.inj e; obtain ⟨e7, e⟩ := Prod.mk.inj e
  exact ⟨e1, e2, e3, e_run e4 (g_sub (List.drop_sublist j _) (by rw [e5, e6, e7, e]; exact k _))⟩
end

section
variable {h₀ : Heap} {chg : List (Addr × Obj)} {p : Setting} {Z : Calc h₀ chg p}
def pushO (v : Value) : Addr × Obj → Addr × Obj
  | (a, ⟨c, d, .seq es n, s⟩) => (a, ⟨c, d, .seq (es.push v) (n + 1), s⟩)
  | p => p
noncomputable def smPush (D : Addr) (L : List Value) (v : Value) : Sm := ⟨[(D, lstO L)], .call (.builtin "list.append") ⟨[.ref D, v], []⟩, 1, fun old as' tok => ⟨.ok (.ret .none), [], old.map (pushO (bv (as'.getD 0 0) v)), tok⟩, mC⟩
theorem su_append (N : Nice3 Z) {D : Addr} {L : List Value} {v : Value} (hz : L.length ≤ 16777216) : Su Z (smPush D L v) := by
  intro fs c c' k gd l news tok is old hi ho hc' K
  obtain ⟨tks, rfl⟩ := mC_call hc'
  obtain ⟨es, n, rfl, he⟩ := old_list ho
  obtain ⟨i, rfl, hj⟩ := getAll1 hi
  clear hi
  have hi := hj
  clear hj
  replace K := K [tks 1] rfl
  refine N.call (fun r' news' tok' => r' = .ok (.ret .none) ∧ news' = news.set i (D, listE (es.push (bv (tks 1) v)) (n + 1)) ∧ tok' = tok) (fun prog w A g d os h hA M => ?_) ?_
  · have hg := M.at hi
    have hs : es.size ≤ sizeLine := by
      have := congrArg List.length he
      unfold sizeLine
      simp at this
      omega
    obtain ⟨ln, M, q⟩ := M
    obtain ⟨j, hj⟩ := List.mem_iff_getElem?.mp (q.mem_iff.mpr (List.mem_of_getElem? hi))
    refine wpAny_call_entry slot_list_append ⟨_, hg, rfl⟩ entry_list_append ?_ (args_list_append _ _)
    show wpAny _ _ (updateSeq D (·.push (bv (tks 1) v)) >>= fun _ => ret .none) _ _ _
    refine wpAny_bind ?_
    refine wpAny_updateSeq hg rfl (wpAny_pure ⟨.none, rfl, _, _, _, rfl, ⟨_, Mem.update M hj ?_, perm_set q hj hi⟩, rfl, ?_, rfl⟩)
    · rfl
    · unfold listE; rw [PyProof.Rows.mapSeq_push]
  · rintro r' news' tok' ⟨rfl, rfl, rfl⟩
    exact K
end

section
variable {prog : Program} {w : World} {A : Around} {R : Result → Shared → Prop} {h₀ : Heap} {d : Drawn} {os : OsState} {vs : Array Value} {hh : A.handled = none} {t : Nat} {chg : List (Addr × Obj)} {p : Setting} {Z : Calc h₀ chg p}
noncomputable def stCode (w : World) (F L : Addr) : Code := forC ((bodyOf (heapK w.params) 35)[4]?) (.ref F) (envOf (heapK w.params) 35 34 L)
noncomputable def opV : Option Nat → Value | none => .none | some n => .int (Int.ofNat n) 0
structure StS where
  l : List (Nat × Str)
  st : Nat
  op : Option Nat
  es : Array Value
  ep : Nat
  last : Option (Nat × Str)
def lastE : Option (Nat × Str) → List DictEntry | none => [] | some (i, x) => [dE (Str.ofString "pos") (.int (Int.ofNat i) 0), dE (Str.ofString "ch") (.str x 0)]
noncomputable def stV (x : Str) (a R L : Addr) (n : Nat) (p : StS) : VL := [(true, a, genO n), (false, R, listE p.es 0), (true, L, frO (dE (Str.ofString "addr") (.str x 0) :: dE (Str.ofString "start") (.int (Int.ofNat p.st) 0) :: dE (Str.ofString "open_pos") (opV p.op) :: dE (Str.ofString "result") (.ref R) :: lastE p.last))]
noncomputable def stV0 (x : Str) (R L : Addr) : VL := [(true, R, lstO []), (true, L, frO [dE (Str.ofString "addr") (.str x 0), dE (Str.ofString "start") (.int 0 0), dE (Str.ofString "open_pos") .none, dE (Str.ofString "result") (.ref R)])]
theorem su_intne (N : Nice Z) {x y : Int} {b : Bool} (hb : decide (x ≠ y) = b) : Su Z (smT "int.__ne__" [.int x 0, .int y 0] (.bool b)) :=
  N.made F.slot_int_ne (fun s tk => typeIs_int _ _ _) F.entry_int_ne (fun tk => F.args_int_ne_2 _ _) (fun tk => gives_int_ne x y _ _) fun tk s Q hq => by
    have : (x != y) = b := by rw [← hb]; by_cases h : x = y <;> simp [h]
    rw [this]; exact hq 0 0
def stepS (x : Str) (s : Nat × Option Nat × List Str) (it : Nat × Str) : Nat × Option Nat × List Str :=
  if it.2.cps.toList = [34] then (match s.2.1 with | none => (s.1, some it.1, s.2.2) | some o => (it.1 + 1, none, if s.1 = o then s.2.2 else s.2.2 ++ [Txt.slice x (some s.1) (some o)])) else s
theorem strip_loop {fs : List Fr} {cB : Code} {kB : Result → Sem PySem.Fin} (hR : ∀ g, (wpC prog w A R h₀ d os hh [(125, tableObj vs)] g).Rm (⟨cB, kB, false⟩ :: fs) 460) (X : (heapK w.params).In h₀) (hB : BI h₀) (x : Str) {rest : List (Addr × Obj)} (hz : x.length ≤ 1000) (a B L : Addr) (n : Nat) (F : Nat × Option Nat × List Str)
   (hend : ∀ g' st op es ep last r own' J tok, Bare g' → es.toList.map vv = r.map strV → (st, op, r) = F → r.length ≤ 1001 → (∀ y ∈ r, y.length ≤ 1000) → (wpC prog w A R h₀ d os hh [(125, tableObj vs)] g').G fs cB (kB (.ok .next)) (led J (stV x a B L n ⟨[], st, op, es, ep, last⟩) (own' ++ rest)) tok)
   (p : StS) (hq : ∃ r, p.es.toList.map vv = r.map strV ∧ p.l.foldl (stepS x) (p.st, p.op, r) = F ∧ r.length + p.l.length ≤ 1001 ∧ ∀ y ∈ r, y.length ≤ 1000) : ∀ g st own, Bare g → g[n]? = some st → GenOK prog w h₀ d os [(125, tableObj vs)] p.l st own → ∀ J tok, (wpC prog w A R h₀ d os hh [(125, tableObj vs)] g).C (⟨cB, kB, false⟩ :: fs) (stCode w a L) (led J (stV x a B L n p) (own ++ rest)) tok := by
  have X0 := X
  obtain ⟨_, e0, cl, dd, es, ep, sl, rfl, hL⟩ := hB
  replace X := in_cons e0 X
  refine gw_loop (fun p => stV x a B L n p) (fun p => p.l) (fun p => ∃ r, p.es.toList.map vv = r.map strV ∧ p.l.foldl (stepS x) (p.st, p.op, r) = F ∧ r.length + p.l.length ≤ 1001 ∧ ∀ y ∈ r, y.length ≤ 1000) n ?_ p hq
  rintro ⟨l, s, op, es, ep, last⟩ ⟨r, he, hf, hn, hy⟩ g st own hb hg hG ih J tok
  dsimp only at he hf hG hn
  have N := nice_wp prog w A R h₀ d os hh [(125, tableObj vs)] g
  apply g_code
  apply run0 X sus0 [.s,.l 0,.cE] rfl; intro _
  refine ok_codeN (fs := ⟨stCode w a L, nextK ⟨prog, w.params⟩ (stCode w a L) a (genO 0), true⟩ :: ⟨cB, kB, false⟩ :: fs) (c := .call (.builtin "generator.__next__") ⟨[.ref a], []⟩) (news := led J (stV x a B L n ⟨l, s, op, es, ep, last⟩) (own ++ rest)) ?_ (fun tok => gc_swap (gen_next X0 (rm_of 1 (hR g) rfl ?_) a n J hg hG ?_ ?_))
  kernel_rfl!
  kernel_rfl!
  · intro hl g' J' own' e e' tok' hb'
    subst hl
    have N := nice_wp prog w A R h₀ d os hh [(125, tableObj vs)] g'
    refine gb_cons (gen_swap2 ?_)
    apply run0 X sus0 [.l 0,.g,.p] rfl; intro _
    refine ok_drop 1 (t := kB (.ok .next)) (c := cB) (fs := fs) (news := led (sh (J' 1) (fun i => J (i + 1))) (stV x a B L n ⟨[], s, op, es, ep, last⟩) (own' ++ rest)) ?_ (fun tok => hend g' s op es ep last r own' _ tok (hb' hb) he hf hn hy)
    kernel_rfl!
  · intro i xs l' hl g' st' own' a' J' tok' hg' hb' hG'
    subst hl
    replace ih := fun s op es ep hq J tok => ih ⟨l', s, op, es, ep, some (i, xs)⟩ (Nat.lt_succ_self _) hq g' st' own' (hb' hb) hg' hG' J tok
    clear hend hG hG' hg hg' hb hb' N
    have N := nice_wp prog w A R h₀ d os hh [(125, tableObj vs)] g'
    refine gb_cons (gen_swap2 ?_)
    rw [List.foldl_cons] at hf
    have hn' : r.length + l'.length ≤ 1001 := by rw [List.length_cons] at hn; omega
    by_cases hx : xs.cps.toList = [34]
    · have S1 := sus1 (su_streq N (x := xs) (y := Str.ofString "\"") (b := true) (by rw [hx]; decide +kernel)) sus0
      rcases op with _ | o
      · rw [show stepS x (s, none, r) (i, xs) = (s, some i, r) from if_pos hx] at hf
        rcases last with _ | ⟨i0, x0⟩
        all_goals
          apply run5 X S1 [.l 1,.s,.l 0,.l 0,.l 0,.m,.c,.l 0,.g,.a,.p,.l 0,.l 0,.c,.l 0,.g,.l 0,.l 0,.l 1,.l 0,.l 0,.p,.l 0,.c,.l 0,.g,.l 0,.l 0,.l 1,.l 0,.l 0,.p,.l 0,.c,.l 0,.g,.l 0,.l 0,.l 1,.s,.l 0,.l 0,.a,.a,.s,.p,.l 0,.s,.s,.s,.s,.l 6,.l 6,.s,.s,.s,.s,.s,.l 6,.l 6,.s,.s,.s,.l 6,.s,.s,.m,.u 2 [] 0,.s,.s,.l 6,.s,.s,.s,.l 6,.s,.s,.s,.s,.l 6,.l 6,.s,.gE] rfl; intro d0 d1 d2 d3 d4 _
          refine ok_code [0, 0, 0, 0, 1, 2, 1] ?_ (ih s (some i) es ep ⟨r, he, hf, hn', hy⟩)
          kernel_rfl!
      · rw [show stepS x (s, some o, r) (i, xs) = (i + 1, none, if s = o then r else r ++ [Txt.slice x (some s) (some o)]) from if_pos hx] at hf
        by_cases hso : s = o
        · rw [if_pos hso] at hf
          have S2 := sus1 (su_intne N (x := Int.ofNat s) (y := Int.ofNat o) (b := false) (by simp [hso])) S1
          clear S1
          rcases last with _ | ⟨i0, x0⟩
          all_goals
            apply run7 X S2 [.l 1,.s,.l 0,.l 0,.l 0,.m,.c,.l 0,.g,.a,.p,.l 0,.l 0,.c,.l 0,.g,.l 0,.l 0,.l 1,.l 0,.l 0,.p,.l 0,.c,.l 0,.g,.l 0,.l 0,.l 1,.l 0,.l 0,.p,.l 0,.c,.l 0,.g,.l 0,.l 0,.l 1,.s,.l 0,.l 0,.a,.a,.s,.p,.l 0,.s,.s,.s,.s,.l 6,.l 6,.s,.s,.s,.s,.s,.l 6,.l 6,.s,.s,.s,.l 6,.s,.s,.m,.u 2 [] 1,.s,.s,.l 6,.s,.s,.s,.l 6,.s,.l 6,.s,.m,.u 2 [] 0,.s,.s,.l 6,.s,.s,.c,.g,.s,.p,.s,.s,.s,.s,.l 6,.l 6,.s,.s,.s,.s,.s,.s,.l 6,.l 6,.s,.gE] rfl; intro d0 d1 d2 d3 d4 d5 d6 _
            refine ok_code [0, 0, 0, 0, 1, 2, 1] ?_ (ih (i + 1) none es ep ⟨r, he, hf, hn', hy⟩)
            kernel_rfl!
        · rw [if_neg hso] at hf
          have S2 := sus1 (su_intne N (x := Int.ofNat s) (y := Int.ofNat o) (b := true) (by simpa using (fun h : (s : Int) = (o : Int) => hso (Int.ofNat.inj h)))) S1
          clear S1
          rcases last with _ | ⟨i0, x0⟩
          all_goals
            apply run8 X S2 [.l 1,.s,.l 0,.l 0,.l 0,.m,.c,.l 0,.g,.a,.p,.l 0,.l 0,.c,.l 0,.g,.l 0,.l 0,.l 1,.l 0,.l 0,.p,.l 0,.c,.l 0,.g,.l 0,.l 0,.l 1,.l 0,.l 0,.p,.l 0,.c,.l 0,.g,.l 0,.l 0,.l 1,.s,.l 0,.l 0,.a,.a,.s,.p,.l 0,.s,.s,.s,.s,.l 6,.l 6,.s,.s,.s,.s,.s,.l 6,.l 6,.s,.s,.s,.l 6,.s,.s,.m,.u 2 [] 1,.s,.s,.l 6,.s,.s,.s,.l 6,.s,.l 6,.s,.m,.u 2 [] 0,.s,.s,.l 6,.s,.l 5,.l 5,.l 5,.l 5,.s,.s,.l 6,.s,.l 6,.s,.l 6,.a] rfl; intro d0 d1 d2 d3 d4 d5 d6 d7 _; apply ok_run; kernel_rfl!
            have S3 := sus1 (su_sl (Z := wpC prog w A R h₀ d os hh [(125, tableObj vs)] g') (x := x) d7 (some (Int.ofNat s)) (some (Int.ofNat o)) rfl (Nat.le_trans (Txt.slice_le x _ _) (Nat.le_trans hz (by decide)))) S2
            clear S2
            have S4 := sus1 (su_append (nice3_wp prog w A R h₀ d os hh [(125, tableObj vs)] g') (D := B) (L := es.toList.map vv) (v := .str (Txt.slice x (some s) (some o)) 0) (by rw [he, List.length_map]; omega)) S3
            clear S3
            apply run3 X S4 [.s,.u 2 [0] 1,.s,.u 1 [6] 0,.s,.s,.s,.l 7,.s,.s,.c,.g,.s,.p,.s,.s,.s,.s,.l 7,.l 7,.s,.s,.s,.s,.s,.s,.l 7,.l 7,.s,.gE] rfl; intro f0 f1 f2 _
            refine ok_code [0, 0, 0, 0, 0, 1, 2, 1] ?_ (ih (i + 1) none (es.push (.str (Txt.slice x (some s) (some o)) f2)) (ep + 1) ⟨r ++ [Txt.slice x (some s) (some o)], ?_, hf, ?_, ?_⟩)
            kernel_rfl!
            · rw [Array.toList_push, List.map_append, he, List.map_append]; rfl
            · simp only [List.length_append, List.length_cons, List.length_nil] at hn ⊢; omega
            · intro y hy'
              rcases List.mem_append.mp hy' with h | h
              · exact hy y h
              · rw [List.mem_singleton.mp h]; exact Nat.le_trans (Txt.slice_le x _ _) hz
    · rw [show stepS x (s, op, r) (i, xs) = (s, op, r) from if_neg hx] at hf
      have S1 := sus1 (su_streq N (x := xs) (y := Str.ofString "\"") (b := false) (by rw [beq_eq_false_iff_ne]; exact hx)) sus0
      rcases op with _ | o
      all_goals
        rcases last with _ | ⟨i0, x0⟩
        all_goals
          apply run5 X S1 [.l 1,.s,.l 0,.l 0,.l 0,.m,.c,.l 0,.g,.a,.p,.l 0,.l 0,.c,.l 0,.g,.l 0,.l 0,.l 1,.l 0,.l 0,.p,.l 0,.c,.l 0,.g,.l 0,.l 0,.l 1,.l 0,.l 0,.p,.l 0,.c,.l 0,.g,.l 0,.l 0,.l 1,.s,.l 0,.l 0,.a,.a,.s,.p,.l 0,.s,.s,.s,.s,.l 6,.l 6,.s,.s,.s,.s,.s,.l 6,.l 6,.s,.s,.s,.l 6,.s,.s,.m,.u 2 [] 0,.gE] rfl; intro d0 d1 d2 d3 d4 _
          refine ok_code [0, 0, 0, 0, 1, 2, 1] ?_ (ih s _ es ep ⟨r, he, hf, hn', hy⟩)
          kernel_rfl!
end

section
variable {prog : Program} {w : World} {A : Around} {R : Result → Shared → Prop} {h₀ : Heap} {d : Drawn} {os : OsState} {vs : Array Value} {hh : A.handled = none} {t : Nat} {chg : List (Addr × Obj)} {p : Setting} {Z : Calc h₀ chg p}
def stripT (x : Str) (F : Nat × Option Nat × List Str) : List Str := if F.1 < x.length then F.2.2 ++ [Txt.slice x (some (Int.ofNat F.1)) none] else F.2.2
def stripF (x : Str) : Str := if 34 ∈ x.cps.toList then Txt.join ⟨#[]⟩ (stripT x ((esc x.cps.toList 0 false).foldl (stepS x) (0, none, []))) else x
theorem str34 : Str.ofString "\"" = ⟨#[34]⟩ := by kernel_rfl!
theorem bare_push {g : Array GenState} {c : Code} (h : Bare g) : Bare (g.push (.fresh c)) := fun y hy => by
  rcases Array.mem_push.mp hy with h1 | rfl
  · exact h y h1
  · rfl
theorem join_ok {x : Str} {ys : List Str} (hx : x.length = 0) (hn : ys.length ≤ 1002) (hy : ∀ y ∈ ys, y.length ≤ 1000) : JoinOk x ys = true := by
  apply PyProof.Rows.joinOk_of
  rw [hx, Nat.mul_zero, Nat.add_zero]
  have : ∀ l : List Str, (∀ y ∈ l, y.length ≤ 1000) → (l.map (·.length)).sum ≤ l.length * 1000 := by
    intro l
    induction l with
    | nil => intro _; exact Nat.zero_le _
    | cons y l ih =>
      intro h
      have h1 := h y (.head _)
      have h2 := ih fun z hz => h z (.tail _ hz)
      simp only [List.map_cons, List.sum_cons, List.length_cons]
      omega
  have := this ys hy
  omega
theorem strip_ok {g : Array GenState} {fs : List Fr} (hR : ∀ g, (wpC prog w A R h₀ d os hh [(125, tableObj vs)] g).Rm fs 410) (X : (heapK w.params).In h₀) (hB : BI h₀) (x : Str) (tk : Tok) {rest : List (Addr × Obj)} (hx : ∀ c ∈ x.cps.toList, Sg c) (hz : x.length ≤ 1000) (hg0 : Bare g)
   (hesc : (esc x.cps.toList 0 false).length ≤ 1001)
   (hK : ∀ g' tk J t', Bare g' → (wpC prog w A R h₀ d os hh [(125, tableObj vs)] g').B fs (rb tk (.ok (.ret (.str (stripF x) 0)))) (led J [] rest) t')
   : (wpC prog w A R h₀ d os hh [(125, tableObj vs)] g).C fs (.call (.ref 35) ⟨[.str x tk], []⟩) rest t := by
  have hB0 := hB
  have X0 := X
  have N := nice_wp prog w A R h₀ d os hh [(125, tableObj vs)] g
  have hRg := hR g
  obtain ⟨_, e0, cl, dd, es, ep, sl, rfl, hL⟩ := hB
  replace X := in_cons e0 X
  apply g_code
  apply run1 X sus0 [.s,.s,.a,.s,.s,.l 0,.l 0] rfl; intro L0 _
  refine enter_at (code := .func (bodyOf (heapK w.params) 35) (envOf (heapK w.params) 35 34 L0)) (V := [(true, L0, frO [dE (Str.ofString "addr") (.str x 0)])]) (rest := rest) X0 [1] (hR g) ?_ ?_ rfl (fun J tok => ?_)
  kernel_rfl!
  kernel_rfl!
  apply g_code
  by_cases hq : 34 ∈ x.cps.toList
  · have hF : stripF x = Txt.join ⟨#[]⟩ (stripT x ((esc x.cps.toList 0 false).foldl (stepS x) (0, none, []))) := if_pos hq
    rw [hF] at hK
    generalize hf : (esc x.cps.toList 0 false).foldl (stepS x) (0, none, []) = F at hK
    have S1 := sus1 (su_strin N (x := x) (y := Str.ofString "\"") (b := true) (by rw [str34, StrLaws.found_one]; simpa using hq)) sus0
    apply run3 X S1 [.s,.s,.s,.s,.l 0,.s,.u 2 [] 0,.s,.s,.s,.s,.s,.s,.l 0,.l 0,.s,.s,.s,.s,.s,.s,.l 0,.l 0,.s,.s,.s,.a,.s,.s,.s,.s,.l 1,.l 1,.s,.s,.s,.s,.s,.l 1,.s,.s,.cE] rfl; intro b0 b1 b2 _
    refine ok_call1 [1, 1] (f := .ref 28) (args := [.str x 0]) (fs := fs) (V := stV0 x b2 L0) (rest := rest) ?_ (fun tks J tok => ?_) (by intro h; cases h)
    kernel_rfl!
    refine gen_make (rm_of 1 (hR g) rfl ?_) X0 hB0 x _ hx ?_
    kernel_rfl!
    intro a c₀ own J' t' hG
    refine gb_cons (gen_swap ?_)
    clear S1 N
    apply run0 X sus0 [.s,.s,.l 0,.l 0,.m,.c,.l 0,.g,.p,.l 0,.cE] rfl; intro _
    refine ok_loopf [1, 2, 1] (stCode w a L0) (fs := fs) (V := stV x a b2 L0 g.size ⟨esc x.cps.toList 0 false, 0, none, #[], 0, none⟩) (rest := own ++ rest) ?_ (strip_loop (fun g => rm_of 1 (hR g) rfl ?_) X0 hB0 x hz a b2 L0 g.size F ?_ _ ⟨[], rfl, hf, by simpa using hesc, fun _ h => nomatch h⟩ _ (.fresh c₀) own (bare_push hg0) (by simp) hG)
    kernel_rfl!
    kernel_rfl!
    intro g' st op es' ep' last r own' J tok hb he hF hn hy
    replace hK := fun tk J t' => gb_sub (List.sublist_append_right own' rest) (hK g' tk J t' hb)
    have N := nice_wp prog w A R h₀ d os hh [(125, tableObj vs)] g'
    have N3 := nice3_wp prog w A R h₀ d os hh [(125, tableObj vs)] g'
    subst hF
    apply run0 X sus0 [.s,.s,.l 2,.s,.s,.s] rfl; intro _; apply ok_run; kernel_rfl!
    obtain ⟨bh, bk, bq⟩ := hL (Str.ofString "len") (.builtin "len") (by kernel_rfl!) (by kernel_rfl!)
    k_subL
    have S1 := sus1 (su_lenstr (Z := wpC prog w A R h₀ d os hh [(125, tableObj vs)] g') (x := x) (Nat.le_trans hz (by decide))) sus0
    by_cases hlt : st < x.length
    · rw [show stripT x (st, op, r) = r ++ [Txt.slice x (some (Int.ofNat st)) none] from if_pos hlt] at hK
      have S2 := sus1 (su_intlt N (x := Int.ofNat st) (y := x.length) (b := true) (by simpa using hlt)) S1
      clear S1
      apply run5 X S2 [.s,.l 2,.s,.u 2 [] 1,.s,.s,.m,.u 2 [] 0,.s,.s,.l 2,.s,.l 1,.l 1,.l 1,.l 1,.s,.s,.l 2,.s,.l 2,.a] rfl; intro e0 e1 e2 e3 e4 _; apply ok_run; kernel_rfl!
      have S3 := sus1 (su_sl (Z := wpC prog w A R h₀ d os hh [(125, tableObj vs)] g') (x := x) e4 (some (Int.ofNat st)) none rfl (Nat.le_trans (Txt.slice_le x _ _) (Nat.le_trans hz (by decide)))) S2
      clear S2
      have S4 := sus1 (su_append N3 (D := b2) (L := es'.toList.map vv) (v := .str (Txt.slice x (some (Int.ofNat st)) none) 0) (by rw [he, List.length_map]; omega)) S3
      clear S3
      apply run3 X S4 [.s,.u 2 [0] 1,.s,.u 1 [2] 0,.s,.s,.s,.s,.s,.s,.l 3,.s] rfl; intro f0 f1 f2 _; apply ok_run; kernel_rfl!
      clear S4
      have he2 : (es'.push (.str (Txt.slice x (some (Int.ofNat st)) none) f2)).toList.map vv = (r ++ [Txt.slice x (some (Int.ofNat st)) none]).map strV := by rw [Array.toList_push, List.map_append, he, List.map_append]; rfl
      have S5 := sus1 (su_join N3 (x := ⟨#[]⟩) (D := b2) he2 (join_ok rfl (by rw [List.length_append]; exact Nat.succ_le_succ hn) (by
        intro y hy'
        rcases List.mem_append.mp hy' with h | h
        · exact hy y h
        · rw [List.mem_singleton.mp h]; exact Nat.le_trans (Txt.slice_le x _ _) hz))) sus0
      apply run2 X S5 [.u 2 [2] 0,.s,.pE] rfl; intro h0 h1 _
      refine ok_ret [0, 0, 0, 0] (V := []) (rest := own' ++ rest) ?_ hK
      kernel_rfl!
    · rw [show stripT x (st, op, r) = r from if_neg hlt] at hK
      have S2 := sus1 (su_intlt N (x := Int.ofNat st) (y := x.length) (b := false) (by simpa using hlt)) (sus1 (su_join N3 (x := ⟨#[]⟩) (D := b2) he (join_ok rfl (by omega) hy)) S1)
      clear S1
      apply run6 X S2 [.s,.l 2,.s,.u 2 [] 2,.s,.s,.m,.u 2 [] 0,.s,.s,.s,.s,.s,.l 2,.s,.u 2 [1] 1,.s,.pE] rfl; intro e0 e1 e2 e3 e4 e5 _
      refine ok_ret [0, 0, 0] (V := []) (rest := own' ++ rest) ?_ hK
      kernel_rfl!
  · rw [show stripF x = x from if_neg hq] at hK
    have S1 := sus1 (su_strin N (x := x) (y := Str.ofString "\"") (b := false) (by rw [str34, StrLaws.found_one]; simpa using hq)) sus0
    apply run2 X S1 [.s,.s,.s,.s,.l 0,.s,.u 2 [] 0,.s,.s,.l 0,.pE] rfl; intro b0 b1 _
    refine ok_ret [0] (V := []) (rest := rest) ?_ (fun tk J t' => hK g tk J t' hg0)
    kernel_rfl!
end

section
variable {prog : Program} {w : World} {A : Around} {R : Result → Shared → Prop} {h₀ : Heap} {d : Drawn} {os : OsState} {vs : Array Value} {hh : A.handled = none} {t : Nat} {chg : List (Addr × Obj)} {p : Setting} {Z : Calc h₀ chg p}
def vlOf : Option Stmt → PySem.Expr | some (.Assign _ e _) => e | some (.Return (some e) _) => e | _ => default
def argOf : PySem.Expr → PySem.Expr | .Call _ (a :: _) .. => a | e => e
def leftOf : PySem.Expr → PySem.Expr | .BinOp l _ _ _ => l | e => e
noncomputable def compEnv (K : Frag) (a code : Nat) (L N : Addr) (e : PySem.Expr) : Env := match K.lookup a, e with
  | some ⟨_, _, .func f, _⟩, .ListComp _ _ s _ => { scope := s, locals := N, globals := 3, cells := [], qual := f.qualname ++ Str.ofString ".<locals>.", func := none, code := .ref code, frame := some L, builtins := 0 }
  | _, _ => default
noncomputable def compS (e : PySem.Expr) (it acc : Addr) (env : Env) : Code := .compStart e 0 (.ref it) (.ref acc) env
noncomputable def compL (e : PySem.Expr) (it acc : Addr) (env : Env) : Code := .compLoop e 0 (.ref it) (.ref acc) env
noncomputable def frC (es : List DictEntry) : Obj := ⟨.type SZ.s14018661285674007319x4, none, .dict ⟨es⟩ 0, #[]⟩
theorem ok_loopg {x : Option (Out × Obl)} (m : List Nat) (c : Code) (b : Bool) {V rest fs} (e : (fA x, fB x, fC x, oKind x, oFs x, oC x, view m (oN x)) = (gA x, gB x, true, 2, ⟨fsC (oFs x), fsK (oFs x), b⟩ :: fs, c, (V, rest))) (k : ∀ J tok, Z.C (⟨fsC (oFs x), fsK (oFs x), b⟩ :: fs) c (led J V rest) tok) : OK Z x := ok_code m e k
end

section
variable {h₀ : Heap} {chg : List (Addr × Obj)} {vs : Array Value} {p : Setting} {Z : Calc h₀ chg p} {Y : Calc h₀ [(125, tableObj vs)] p} {t : Nat}
noncomputable def ouE (p : Setting) : PySem.Expr := vlOf ((bodyOf (heapK p.params) 149)[0]?)
noncomputable def ouC (p : Setting) (L En Ac N : Addr) : Code := compL (ouE p) En Ac (compEnv (heapK p.params) 149 148 L N (ouE p))
def intV (n : Nat) : Value := .int (Int.ofNat n) 0
def cutL : List Str → Nat → List Nat
  | [], _ => []
  | u :: l, i => if u.cps.toList = [34] then i :: cutL l (i + 1) else cutL l (i + 1)
def plE : Option (Nat × Str) → List DictEntry | none => [] | some (i, x) => [dE (Str.ofString "place") (.int (Int.ofNat i) 0), dE (Str.ofString "unit") (.str x 0)]
def plV : Option (Nat × Str) → Value | none => .none | some (i, x) => .str x 0
structure OuS where
  i : Nat
  ac : Array Value
  last : Option (Nat × Str)
noncomputable def ouV (D L It En Ac N : Addr) (es : Array Value) (p : OuS) : VL := [(true, N, frC (plE p.last)), (false, Ac, listE p.ac 0), (true, En, enuO It .none (Int.ofNat p.i) (plV p.last)), (true, It, lItO (.ref D) (Int.ofNat p.i)), (true, L, frO [dE (Str.ofString "units") (.ref D)]), (false, D, listE es 0)]
noncomputable def ouW (D L Ac N : Addr) (es ac : Array Value) (last : Option (Nat × Str)) : VL := [(true, N, frC (plE last)), (false, Ac, listE ac 0), (true, L, frO [dE (Str.ofString "units") (.ref D)]), (false, D, listE es 0)]
theorem own_ou {Z : Calc h₀ chg p} {fs c news tok} (F L Ac NN a : Addr) (v1 v2 v3 v4 v5 : Value) (i : Nat) (hi : news[i]? = some (F, enF (.int (Int.ofNat a) 0) v1 v2 v3 v4 v5))
   (x : Z.G fs c (ldK (nextT p (ouC p L F Ac NN) F a) (enF .none v1 v2 v3 v4 v5)) (news.set i (F, enF .none v1 v2 v3 v4 v5)) tok) : Z.G fs c (ldK (nextT p (ouC p L F Ac NN) F a) (enF (.int (Int.ofNat a) 0) v1 v2 v3 v4 v5)) news tok := by
  k_subL
  apply g_rule
  conv => arg 4; whnf
  apply g_load (fun h D => D.at hi)
  conv => arg 4; whnf
  apply g_update i hi (by exact rfl)
  refine g_eq (t' := ldK (nextT p (ouC p L F Ac NN) F a) (enF .none v1 v2 v3 v4 v5)) ?_ x
  show _ = _
  kernel_rfl!
theorem ou_comp {fs : List Fr} {cB : Code} {kB : Result → Sem PySem.Fin} (N : Nice Y) (N3 : Nice3 Y) (X : (heapK p.params).In h₀) (D L It En Ac NN : Addr) (es : Array Value) (us : List Str) (he : es.toList.map vv = us.map strV) (hz : us.length ≤ 1000) (hne : 0 < us.length) {rest : List (Addr × Obj)}
  (hend : ∀ ac i0 x0 J tok, ac.toList.map vv = (cutL us 0).map intV → Y.G fs cB (kB (.ok .next)) (led J (ouW D L Ac NN es ac (some (i0, x0))) rest) tok)
  (q : OuS) (hq : q.i ≤ us.length ∧ ∃ r, q.ac.toList.map vv = r.map intV ∧ r ++ cutL (us.drop q.i) q.i = cutL us 0 ∧ r.length ≤ q.i ∧ (q.last = none → q.i = 0)) : ∀ J tok, Y.C (⟨cB, kB, true⟩ :: fs) (ouC p L En Ac NN) (led J (ouV D L It En Ac NN es q) rest) tok := by
  refine gc_loop (fun q => us.length - q.i) (ouV D L It En Ac NN es) (fun q => q.i ≤ us.length ∧ ∃ r, q.ac.toList.map vv = r.map intV ∧ r ++ cutL (us.drop q.i) q.i = cutL us 0 ∧ r.length ≤ q.i ∧ (q.last = none → q.i = 0)) ?_ q hq
  rintro ⟨i, ac, last⟩ ⟨hi, r, hr, hf, hl, hn⟩ ih J tok
  dsimp only at hi hr hf hl hn ih
  apply g_code
  by_cases hlt : i < us.length
  · have hc : (es.toList.map vv)[(Int.ofNat i).toNat]? = some (strV us[i]) := by rw [he, List.getElem?_map]; simp [hlt]
    have hd : us.drop i = us[i] :: us.drop (i + 1) := List.drop_eq_getElem_cons hlt
    rw [hd] at hf
    generalize us[i] = u at hc hf
    have S1 := sus1 (su_lnext (Z := Y) X (It := It) (D := D) hc) sus0
    rcases last with _ | ⟨i0, x0⟩
    · apply run2 X S1 [.s,.l 2,.c,.l 2,.g,.l 2,.l 3,.u 1 [3,5] 0,.l 2,.l 2,.s,.l 2,.l 2,.l 2,.l 2,.a,.l 3,.s,.l 3,.l 3,.l 3,.l 3,.l 3,.l 3,.l 3,.s,.p,.l 3] rfl; intro b0 b1 _
      refine ok_GV [1, 1, 2, 2, 1, 1, 2] (fs := ⟨cB, kB, true⟩ :: fs) (c := ouC p L En Ac NN) (t := ldK (nextT p (ouC p L En Ac NN) En b1) (enF (.int (Int.ofNat b1) 0) (.bool false) (.ref It) (.int (Int.ofNat (i + 1)) 0) .none (.str u b0))) (V := (true, b1, tup2 (.int (Int.ofNat i) 0) (.str u 0)) :: (true, NN, frC (plE none)) :: (false, Ac, listE ac 0) :: (false, En, enF (.int (Int.ofNat b1) 0) (.bool false) (.ref It) (.int (Int.ofNat (i + 1)) 0) .none (.str u b0)) :: (true, It, lItO (.ref D) (Int.ofNat (i + 1))) :: (true, L, frO [dE (Str.ofString "units") (.ref D)]) :: (false, D, listE es 0) :: []) (rest := rest) ?_ ?_
      kernel_rfl!
      intro J tok'
      refine own_ou En L Ac NN b1 _ _ _ _ _ 3 rfl ?_
      clear S1
      replace ih := fun ac hq => ih ⟨i + 1, ac, some (i, u)⟩ (by show us.length - (i + 1) < us.length - i; omega) ⟨hlt, hq⟩
      rw [cutL] at hf
      by_cases hu : u.cps.toList = [34]
      · rw [if_pos hu] at hf
        have S1 := sus1 (su_streq N (x := u) (y := Str.ofString "\"") (b := true) (by rw [hu]; decide +kernel)) (sus1 (su_append N3 (D := Ac) (L := ac.toList.map vv) (v := intV i) (by rw [hr, List.length_map]; omega)) sus0)
        apply run6 X S1 [.s,.l 0,.l 0,.l 0,.m,.c,.l 0,.g,.a,.p,.l 0,.l 0,.c,.l 0,.g,.l 0,.l 0,.l 1,.l 0,.l 0,.p,.l 0,.c,.l 0,.g,.l 0,.l 0,.l 1,.l 0,.l 0,.p,.l 0,.c,.l 0,.g,.l 0,.l 0,.l 1,.s,.l 0,.l 0,.a,.a,.s,.p,.l 0,.s,.s,.s,.s,.l 4,.l 4,.s,.s,.s,.s,.s,.l 4,.l 4,.s,.s,.l 4,.s,.s,.m,.u 2 [] 0,.s,.l 4,.u 1 [5] 1,.gE] rfl; intro c0 c1 c2 c3 c4 c5 _
        refine ok_code [0, 0, 0, 0, 1, 2, 1, 1, 1, 2] ?_ (ih (ac.push (.int (Int.ofNat i) c5)) ⟨r ++ [i], by rw [Array.toList_push, List.map_append, hr, List.map_append]; rfl, by rw [← hf, List.append_assoc]; rfl, by rw [List.length_append]; exact Nat.succ_le_succ hl, fun h => nomatch h⟩)
        kernel_rfl!
      · rw [if_neg hu] at hf
        have S1 := sus1 (su_streq N (x := u) (y := Str.ofString "\"") (b := false) (by rw [beq_eq_false_iff_ne]; exact hu)) sus0
        apply run5 X S1 [.s,.l 0,.l 0,.l 0,.m,.c,.l 0,.g,.a,.p,.l 0,.l 0,.c,.l 0,.g,.l 0,.l 0,.l 1,.l 0,.l 0,.p,.l 0,.c,.l 0,.g,.l 0,.l 0,.l 1,.l 0,.l 0,.p,.l 0,.c,.l 0,.g,.l 0,.l 0,.l 1,.s,.l 0,.l 0,.a,.a,.s,.p,.l 0,.s,.s,.s,.s,.l 4,.l 4,.s,.s,.s,.s,.s,.l 4,.l 4,.s,.s,.l 4,.s,.s,.m,.u 2 [] 0,.gE] rfl; intro c0 c1 c2 c3 c4 _
        refine ok_code [0, 0, 0, 0, 1, 2, 1, 1, 1, 2] ?_ (ih ac ⟨r, hr, hf, Nat.le_succ_of_le hl, fun h => nomatch h⟩)
        kernel_rfl!
    · apply run2 X S1 [.s,.l 2,.c,.l 2,.g,.l 2,.l 3,.u 1 [3,5] 0,.l 2,.l 2,.s,.l 2,.l 2,.l 2,.l 2,.a,.l 3,.s,.l 3,.l 3,.l 3,.l 3,.l 3,.l 3,.l 3,.s,.p,.l 3] rfl; intro b0 b1 _
      refine ok_GV [1, 1, 2, 2, 1, 1, 2] (fs := ⟨cB, kB, true⟩ :: fs) (c := ouC p L En Ac NN) (t := ldK (nextT p (ouC p L En Ac NN) En b1) (enF (.int (Int.ofNat b1) 0) (.bool false) (.ref It) (.int (Int.ofNat (i + 1)) 0) .none (.str u b0))) (V := (true, b1, tup2 (.int (Int.ofNat i) 0) (.str u 0)) :: (true, NN, frC (plE (some (i0, x0)))) :: (false, Ac, listE ac 0) :: (false, En, enF (.int (Int.ofNat b1) 0) (.bool false) (.ref It) (.int (Int.ofNat (i + 1)) 0) .none (.str u b0)) :: (true, It, lItO (.ref D) (Int.ofNat (i + 1))) :: (true, L, frO [dE (Str.ofString "units") (.ref D)]) :: (false, D, listE es 0) :: []) (rest := rest) ?_ ?_
      kernel_rfl!
      intro J tok'
      refine own_ou En L Ac NN b1 _ _ _ _ _ 3 rfl ?_
      clear S1
      replace ih := fun ac hq => ih ⟨i + 1, ac, some (i, u)⟩ (by show us.length - (i + 1) < us.length - i; omega) ⟨hlt, hq⟩
      rw [cutL] at hf
      by_cases hu : u.cps.toList = [34]
      · rw [if_pos hu] at hf
        have S1 := sus1 (su_streq N (x := u) (y := Str.ofString "\"") (b := true) (by rw [hu]; decide +kernel)) (sus1 (su_append N3 (D := Ac) (L := ac.toList.map vv) (v := intV i) (by rw [hr, List.length_map]; omega)) sus0)
        apply run6 X S1 [.s,.l 0,.l 0,.l 0,.m,.c,.l 0,.g,.a,.p,.l 0,.l 0,.c,.l 0,.g,.l 0,.l 0,.l 1,.l 0,.l 0,.p,.l 0,.c,.l 0,.g,.l 0,.l 0,.l 1,.l 0,.l 0,.p,.l 0,.c,.l 0,.g,.l 0,.l 0,.l 1,.s,.l 0,.l 0,.a,.a,.s,.p,.l 0,.s,.s,.s,.s,.l 4,.l 4,.s,.s,.s,.s,.s,.l 4,.l 4,.s,.s,.l 4,.s,.s,.m,.u 2 [] 0,.s,.l 4,.u 1 [5] 1,.gE] rfl; intro c0 c1 c2 c3 c4 c5 _
        refine ok_code [0, 0, 0, 0, 1, 2, 1, 1, 1, 2] ?_ (ih (ac.push (.int (Int.ofNat i) c5)) ⟨r ++ [i], by rw [Array.toList_push, List.map_append, hr, List.map_append]; rfl, by rw [← hf, List.append_assoc]; rfl, by rw [List.length_append]; exact Nat.succ_le_succ hl, fun h => nomatch h⟩)
        kernel_rfl!
      · rw [if_neg hu] at hf
        have S1 := sus1 (su_streq N (x := u) (y := Str.ofString "\"") (b := false) (by rw [beq_eq_false_iff_ne]; exact hu)) sus0
        apply run5 X S1 [.s,.l 0,.l 0,.l 0,.m,.c,.l 0,.g,.a,.p,.l 0,.l 0,.c,.l 0,.g,.l 0,.l 0,.l 1,.l 0,.l 0,.p,.l 0,.c,.l 0,.g,.l 0,.l 0,.l 1,.l 0,.l 0,.p,.l 0,.c,.l 0,.g,.l 0,.l 0,.l 1,.s,.l 0,.l 0,.a,.a,.s,.p,.l 0,.s,.s,.s,.s,.l 4,.l 4,.s,.s,.s,.s,.s,.l 4,.l 4,.s,.s,.l 4,.s,.s,.m,.u 2 [] 0,.gE] rfl; intro c0 c1 c2 c3 c4 _
        refine ok_code [0, 0, 0, 0, 1, 2, 1, 1, 1, 2] ?_ (ih ac ⟨r, hr, hf, Nat.le_succ_of_le hl, fun h => nomatch h⟩)
        kernel_rfl!
  · have hc : (es.toList.map vv)[(Int.ofNat i).toNat]? = none := by rw [he, List.getElem?_map]; simp; omega
    obtain rfl : i = us.length := by omega
    have S1 := sus1 (su_lend (Z := Y) X (It := It) (D := D) hc) sus0
    rcases last with _ | ⟨i0, x0⟩
    · exact absurd (hn rfl) (by omega)
    apply run2 X S1 [.s,.l 2,.c,.l 2,.g,.l 2,.l 3,.u 2 [3,5] 0,.p,.l 0,.p] rfl; intro b0 b1 _
    refine ok_GV [0, 0, 1, 2, 0, 0, 1, 2] (t := kB (.ok .next)) ?_ (fun J tok => hend ac i0 x0 J tok (by rw [hr, ← hf, List.drop_length]; simp [cutL]))
    kernel_rfl!
end

section
variable {h₀ : Heap} {chg : List (Addr × Obj)} {p : Setting} {Z : Calc h₀ chg p}
noncomputable def slO3 (lo hi st : Option Int) : Obj := ⟨.type "slice", none, .fields ⟨[oV lo, oV hi, oV st]⟩, #[]⟩
def pickO (lo hi st : Option Int) : Obj → Obj
  | ⟨c, d, .seq es n, s⟩ => ⟨c, d, .seq (slicePick es lo hi st) 0, s⟩
  | o => o
noncomputable def smPick (D b : Addr) (L : List Value) (lo hi st : Option Int) : Sm := ⟨[(D, lstO L), (b, slO3 lo hi st)], .call (.builtin "list.__getitem__") ⟨[.ref D, .ref b], []⟩, 1,
  fun old as' tok => ⟨.ok (.ret (.ref (as'.getD 0 0))), [(as'.getD 0 0, pickO lo hi st (old.getD 0 (0, listE #[] 0)).2)], [], tok⟩, mC⟩
theorem old2A {old : List (Addr × Obj)} {a b : Addr} {L : List Value} {o : Obj} (h : old.map vP = [(a, lstO L), (b, o)]) : ∃ es n o', old = [(a, listE es n), (b, o')] ∧ es.toList.map vv = L ∧ vO o' = o := by
  cases old with
  | nil => cases h
  | cons q old =>
    obtain ⟨a', o1⟩ := q
    cases old with
    | nil => exact absurd (congrArg List.length h) (by simp)
    | cons q2 old =>
      obtain ⟨b', o2⟩ := q2
      cases old with
      | cons => exact absurd (congrArg List.length h) (by simp)
      | nil =>
        have h1 := (List.cons.inj h).1
        have h2 := (List.cons.inj (List.cons.inj h).2).1
        have e1 : a' = a := congrArg Prod.fst h1
        have e2 : b' = b := congrArg Prod.fst h2
        obtain ⟨es, n, rfl, he⟩ := vO_seq (congrArg Prod.snd h1 : vO o1 = lstO L)
        exact ⟨es, n, o2, by rw [e1, e2], he, congrArg Prod.snd h2⟩
theorem part_of {v : Value} {k : Option Int} (h : vv v = oV k) : IsPart v k := by
  cases k with
  | none => cases v <;> first | (cases h) | skip
            exact .none
  | some i => cases v <;> first | (injection h with h1; subst h1; exact .int _ _) | cases h
theorem slice_of {o : Obj} {lo hi st : Option Int} (h : vO o = slO3 lo hi st) : ∃ x y z, o = ⟨.type "slice", none, .fields #[x, y, z], #[]⟩ ∧ IsPart x lo ∧ IsPart y hi ∧ IsPart z st := by
  obtain ⟨c, d, dt, s⟩ := o
  cases dt with
  | fields es =>
    unfold slO3 at h
    replace h : (⟨c, d, .fields ⟨es.toList.map vv⟩, s⟩ : Obj) = _ := h
    injection h with h1 h2 h3 h4
    injection h3 with h5
    injection h5 with h6
    subst h1 h2 h4
    obtain ⟨es⟩ := es
    have hl := congrArg List.length h6
    rcases es with _ | ⟨x, _ | ⟨y, _ | ⟨z, _ | ⟨_, _⟩⟩⟩⟩ <;> first | (exfalso; simp at hl; done) | skip
    injection h6 with h7 h8
    injection h8 with h9 h10
    injection h10 with h11 _
    exact ⟨x, y, z, rfl, part_of h7, part_of h9, part_of h11⟩
  | cell v => cases v <;> (unfold vO slO3 at h; injection h with h1 h2 h3 h4; cases h3)
  | _ => unfold vO slO3 at h; injection h with h1 h2 h3 h4; cases h3
theorem su_lslice (N : Nice3 Z) {D b : Addr} {L : List Value} {lo hi st : Option Int} (h0 : st ≠ some 0) (hz : L.length ≤ 16777216) : Su Z (smPick D b L lo hi st) := by
  intro fs c c' k gd l news tok is old hi' ho hc' K
  obtain ⟨tks, rfl⟩ := mC_call hc'
  obtain ⟨es, n, o', rfl, he, hs⟩ := old2A ho
  obtain ⟨x, y, z, rfl, px, py, pz⟩ := slice_of hs
  have hm := getAll_mem hi'
  replace K := fun a => K [a] rfl
  refine N.call (fun r' news' tok' => ∃ a, r' = .ok (.ret (.ref a)) ∧ news' = (a, listE (slicePick es lo hi st) 0) :: news ∧ tok' = tok) (fun prog w A g d os h hA M => ?_) ?_
  · obtain ⟨i, hi1⟩ := hm _ (.head _)
    obtain ⟨j, hj1⟩ := hm _ (.tail _ (.head _))
    have hD : h.get? D = some (listE es n) := M.at hi1
    have hb := M.at hj1
    have hsz : es.size ≤ sizeLine := by
      have := congrArg List.length he
      unfold sizeLine
      simp at this
      omega
    have hl : h.IsList D es := ⟨_, hD, rfl, n, rfl⟩
    have hTs : Shared.TypeIs ⟨h, g, d, tok, os⟩ (.ref b) "slice" := ⟨_, hb, rfl⟩
    have hstep : ¬ ((rawPart st == rawInt 0) = true) := by
      cases st with
      | none => exact Bool.false_ne_true
      | some c =>
        intro hh
        have : c = 0 := by simpa [rawPart, rawInt] using hh
        exact h0 (by rw [this])
    refine wpAny_call_entry slot_list_getitem hl.typeIs entry_list_getitem ?_ (args_list_getitem _ _)
    show wpAny _ _ (Builtin.List.listSubscript? (.ref b) >>= _) _ _ _
    refine wpAny_bind ?_
    unfold Builtin.List.listSubscript?
    refine wpAny_bind (wpAny_specialOf hTs slice_no_index ?_)
    simp only [Option.isNone_none, if_true]
    refine wpAny_pure ?_
    show wpAny _ _ (typeOf (.ref b) >>= _) _ _ _
    refine wpAny_bind (wpAny_typeOf hTs ?_)
    rw [if_neg (by decide), listSliceParts_eq]
    refine wpAny_bind (wpAny_bind (wpAny_field hb rfl (x := z) rfl (wpAny_bind (wpAny_listPart pz ?_))))
    rw [if_neg hstep]
    refine wpAny_bind (wpAny_field hb rfl (x := x) rfl (wpAny_bind (wpAny_listPart px ?_)))
    refine wpAny_bind (wpAny_field hb rfl (x := y) rfl (wpAny_bind (wpAny_listPart py (wpAny_pure ?_))))
    refine wpAny_bind (m := Builtin.List.listItems (.ref D)) ?_
    unfold Builtin.List.listItems
    refine wpAny_bind (wpAny_seqItems hD rfl (wpAny_pure ?_))
    refine wpAny_bind (wpAny_of_eq (sliceIndices_raw lo hi st es.size h0) ?_)
    refine wpAny_bind (wpAny_newObj_type (wpAny_pure ⟨_, rfl, ?_⟩) (Nat.le_trans (slicePick_size_le es lo hi st) hsz))
    obtain ⟨ln, M, q⟩ := M
    exact ⟨_, _, _, rfl, ⟨_, Mem.alloc M rfl, q.cons _⟩, _, rfl, rfl, rfl⟩
  · rintro r' news' tok' ⟨a, rfl, rfl, rfl⟩
    have := K a
    unfold Eff.news smPick at this
    dsimp only at this
    rw [setAll_nil] at this
    exact this
end

section
variable {h₀ : Heap} {chg : List (Addr × Obj)} {p : Setting} {Z : Calc h₀ chg p}
def catO (n : Nat) : Addr × Obj → Addr × Obj → Addr × Obj
  | (a, ⟨c, d, .seq x _, s⟩), (_, ⟨_, _, .seq y _, _⟩) => (a, ⟨c, d, .seq (x ++ y) n, s⟩)
  | q, _ => q
noncomputable def smExt (D B : Addr) (L1 L2 : List Value) : Sm := ⟨[(D, lstO L1), (B, lstO L2)], .call (.builtin "list.__iadd__") ⟨[.ref D, .ref B], []⟩, 1,
  fun old as' tok => ⟨.ok (.ret (.ref D)), [], match old with | [q1, q2] => [catO (as'.getD 0 0) q1 q2] | o => o, tok⟩, mC⟩
noncomputable def smAdd (D B : Addr) (L1 L2 : List Value) : Sm := ⟨[(D, lstO L1), (B, lstO L2)], .call (.builtin "list.__add__") ⟨[.ref D, .ref B], []⟩, 1,
  fun old as' tok => ⟨.ok (.ret (.ref (as'.getD 0 0))), match old with | [q1, q2] => [(as'.getD 0 0, (catO 0 q1 q2).2)] | o => o, [], tok⟩, mC⟩
theorem two_lists {old : List (Addr × Obj)} {a b : Addr} {L M : List Value} (h : old.map vP = [(a, lstO L), (b, lstO M)]) : ∃ es n fs m, old = [(a, listE es n), (b, listE fs m)] ∧ es.toList.map vv = L ∧ fs.toList.map vv = M := by
  obtain ⟨es, n, o', rfl, he, ho⟩ := old2A h
  obtain ⟨fs, m, rfl, hf⟩ := vO_seq ho
  exact ⟨es, n, fs, m, rfl, he, hf⟩
theorem sz_of {es : Array Value} {L : List Value} (h : es.toList.map vv = L) : es.size = L.length := by
  have := congrArg List.length h
  simpa using this
theorem su_iadd (N : Nice3 Z) {D B : Addr} {L1 L2 : List Value} (hz : L1.length + L2.length ≤ 16777216) : Su Z (smExt D B L1 L2) := by
  intro fs c c' k gd l news tok is old hi' ho hc' K
  obtain ⟨tks, rfl⟩ := mC_call hc'
  obtain ⟨es, n, es2, n2, rfl, he, he2⟩ := two_lists ho
  have h1 := sz_of he
  have h2 := sz_of he2
  have e : (2 : Nat) ^ 24 = 16777216 := by decide
  cases is with
  | nil => cases hi'
  | cons i is =>
  have hm := getAll_mem hi'
  have hi0 : news[i]? = some (D, listE es n) := by
    unfold getAll at hi'
    split at hi'
    · rename_i q hq
      split at hi'
      · injection hi' with hi'; rw [hq, (List.cons.inj hi').1]
      · cases hi'
    · cases hi'
  refine N.call (fun r' news' tok' => ∃ m, r' = .ok (.ret (.ref D)) ∧ news' = news.set i (D, listE (es ++ es2) m) ∧ tok' = tok) (fun prog w A g d os h hA M => ?_) ?_
  · have hD : h.get? D = some (listE es n) := M.at hi0
    obtain ⟨j, hj⟩ := hm _ (.tail _ (.head _))
    have hB := M.at hj
    refine call_meets F.slot_list_iadd ⟨_, hD, rfl⟩ F.entry_list_iadd (F.args_list_iadd_2 _ _) (AutoSeq1.list___iadd___list_list_0 D es n B es2 n2 ?_ ?_ ?_) ⟨hD, hB, ?_⟩
    · rw [Bool.not_eq_true, Bool.and_eq_false_iff]; right; unfold Builtin.List.listTooLong sizeLine; exact decide_eq_false (by omega)
    · unfold sizeLine; omega
    · unfold sizeLine; omega
    · obtain ⟨ln, M, q⟩ := M
      obtain ⟨j, hj⟩ := List.mem_iff_getElem?.mp (q.mem_iff.mpr (List.mem_of_getElem? hi0))
      exact ⟨_, _, _, rfl, ⟨_, Mem.update M hj rfl, perm_set q hj hi0⟩, _, rfl, rfl, rfl⟩
  · rintro r' news' tok' ⟨m, rfl, rfl, rfl⟩
    have := K [m] rfl
    unfold Eff.news smExt at this
    dsimp only at this
    have e2 : setAll news (i :: is) [catO m (D, listE es n) (B, listE es2 n2)] = news.set i (D, listE (es ++ es2) m) := setAll_nil _ is
    rw [List.getD_cons_zero, e2] at this
    exact this
theorem su_ladd (N : Nice3 Z) {D B : Addr} {L1 L2 : List Value} (hz : L1.length + L2.length ≤ 16777216) : Su Z (smAdd D B L1 L2) := by
  intro fs c c' k gd l news tok is old hi' ho hc' K
  obtain ⟨tks, rfl⟩ := mC_call hc'
  obtain ⟨es, n, es2, n2, rfl, he, he2⟩ := two_lists ho
  have h1 := sz_of he
  have h2 := sz_of he2
  have e : (2 : Nat) ^ 24 = 16777216 := by decide
  have hm := getAll_mem hi'
  refine N.call (fun r' news' tok' => ∃ a, r' = .ok (.ret (.ref a)) ∧ news' = (a, listE (es ++ es2) 0) :: news ∧ tok' = tok) (fun prog w A g d os h hA M => ?_) ?_
  · obtain ⟨i, hi⟩ := hm _ (.head _)
    obtain ⟨j, hj⟩ := hm _ (.tail _ (.head _))
    have hD := M.at hi
    have hB := M.at hj
    refine call_meets F.slot_list_add ⟨_, hD, rfl⟩ F.entry_list_add (F.args_list_add_2 _ _) (AutoSeq1.list___add___list_list_0 D es n B es2 n2 (by unfold sizeLine; omega)) ⟨hD, hB, ?_⟩
    obtain ⟨ln, M, q⟩ := M
    exact ⟨_, _, _, rfl, ⟨_, Mem.alloc M rfl, q.cons _⟩, _, rfl, rfl, rfl⟩
  · rintro r' news' tok' ⟨a, rfl, rfl, rfl⟩
    have := K [a] rfl
    unfold Eff.news smAdd at this
    dsimp only at this
    rw [setAll_nil] at this
    exact this
end

section
variable {h₀ : Heap} {chg : List (Addr × Obj)} {vs : Array Value} {p : Setting} {Z : Calc h₀ chg p} {Y : Calc h₀ [(125, tableObj vs)] p} {t : Nat}
noncomputable def zipO (f : Value) (I T : Addr) : Obj := ⟨.type "zip", none, .fields ⟨[f, .bool false, .bool false, .ref I, .ref T]⟩, #[]⟩
noncomputable def zfC (p : Setting) (F L : Addr) : Code := forC ((bodyOf (heapK p.params) 149)[2]?) (.ref F) (envOf (heapK p.params) 149 148 L)
def ocE : Option (Nat × Nat) → List DictEntry | none => [] | some (i, x) => [dE (Str.ofString "opened") (.int (Int.ofNat i) 0), dE (Str.ofString "closed") (.int (Int.ofNat x) 0)]
def ocV1 : Option (Nat × Nat) → Value | none => .none | some (i, _) => .int (Int.ofNat i) 0
def ocV2 : Option (Nat × Nat) → Value | none => .none | some (_, i) => .int (Int.ofNat i) 0
structure ZiS where
  i : Nat
  st : Nat
  ks : Array Value
  last : Option (Nat × Nat)
structure ZiA where
  (D L Zp T I I1 I2 A B Kp Cu : Addr)
  (es eA eB : Array Value)
noncomputable def ziV (a : ZiA) (q : ZiS) : VL := [(true, a.Zp, zipO .none a.I a.T), (true, a.T, tup2 (ocV1 q.last) (ocV2 q.last)), (true, a.I, tup2 (.ref a.I1) (.ref a.I2)), (true, a.I2, lItO (.ref a.B) (Int.ofNat q.i)), (true, a.I1, lItO (.ref a.A) (Int.ofNat q.i)), (false, a.B, listE a.eB 0), (false, a.A, listE a.eA 0),
  (false, a.Kp, listE q.ks 0), (true, a.L, frO (dE (Str.ofString "units") (.ref a.D) :: dE (Str.ofString "cuts") (.ref a.Cu) :: dE (Str.ofString "start") (.int (Int.ofNat q.st) 0) :: dE (Str.ofString "kept") (.ref a.Kp) :: ocE q.last)), (false, a.D, listE a.es 0)]
noncomputable def zeF (v a b c d : Value) : Obj := ⟨.type "zip", none, .fields ⟨[v, a, b, c, d]⟩, #[]⟩
noncomputable def nextZ (p : Setting) (c : Code) (F a : Addr) : Sem PySem.Fin := fsK (oFs (ex p [] [] [] [.s, .l 0, .cE] [] c (den c) [(F, zeF .none .none .none .none .none)] 0 [])) (.ok (.ret (.ref a)))
theorem own_zip {Z : Calc h₀ chg p} {fs c news tok} (F L a : Addr) (v1 v2 v3 v4 : Value) (i : Nat) (hi : news[i]? = some (F, zeF (.int (Int.ofNat a) 0) v1 v2 v3 v4))
   (x : Z.G fs c (ldK (nextZ p (zfC p F L) F a) (zeF .none v1 v2 v3 v4)) (news.set i (F, zeF .none v1 v2 v3 v4)) tok) : Z.G fs c (ldK (nextZ p (zfC p F L) F a) (zeF (.int (Int.ofNat a) 0) v1 v2 v3 v4)) news tok := by
  k_subL
  apply g_rule
  conv => arg 4; whnf
  apply g_load (fun h D => D.at hi)
  conv => arg 4; whnf
  apply g_update i hi (by exact rfl)
  refine g_eq (t' := ldK (nextZ p (zfC p F L) F a) (zeF .none v1 v2 v3 v4)) ?_ x
  show _ = _
  kernel_rfl!
def outS (us : List Str) : List (Nat × Nat) → Nat → List Str → Nat × List Str
  | [], s, k => (s, k)
  | (o, c) :: l, s, k => outS us l (c + 1) (k ++ (us.drop s).take (o - s))
def chainP (n : Nat) : List (Nat × Nat) → Nat → Prop
  | [], s => s ≤ n
  | (o, c) :: l, s => s ≤ o ∧ o ≤ c ∧ c < n ∧ chainP n l (c + 1)
theorem pick_strs {es : Array Value} {us : List Str} {s o : Nat} (he : es.toList.map vv = us.map strV) (h1 : s ≤ o) (h2 : o ≤ us.length) : (slicePick es (some (Int.ofNat s)) (some (Int.ofNat o)) none).toList.map vv = ((us.drop s).take (o - s)).map strV := by
  have h := slicePick_run es s o (by rw [sz_of he, List.length_map]; exact h2) h1
  rw [show slicePick es (some (Int.ofNat s)) (some (Int.ofNat o)) none = _ from h]
  show ((es.toList.drop s).take (o - s)).map vv = _
  rw [List.map_take, List.map_drop, he, ← List.map_drop, ← List.map_take]
theorem zip_drop {ea eb : List Nat} {i o c : Nat} (h1 : ea[i]? = some o) (h2 : eb[i]? = some c) : (ea.zip eb).drop i = (o, c) :: (ea.zip eb).drop (i + 1) := by
  have : (ea.zip eb)[i]? = some (o, c) := by rw [List.getElem?_zip_eq_some]; exact ⟨h1, h2⟩
  obtain ⟨h, e⟩ := List.getElem?_eq_some_iff.mp this
  rw [List.drop_eq_getElem_cons h, e]
theorem zip_end {ea eb : List Nat} {i : Nat} (h : ea[i]? = none ∨ eb[i]? = none) : (ea.zip eb).drop i = [] := by
  apply List.drop_eq_nil_of_le
  rw [List.length_zip]
  rcases h with h | h <;> (have := List.getElem?_eq_none_iff.mp h; omega)
noncomputable def ziW (a : ZiA) (st : Nat) (ks : Array Value) (last : Option (Nat × Nat)) : VL := [(false, a.B, listE a.eB 0), (false, a.A, listE a.eA 0),
  (false, a.Kp, listE ks 0), (true, a.L, frO (dE (Str.ofString "units") (.ref a.D) :: dE (Str.ofString "cuts") (.ref a.Cu) :: dE (Str.ofString "start") (.int (Int.ofNat st) 0) :: dE (Str.ofString "kept") (.ref a.Kp) :: ocE last)), (false, a.D, listE a.es 0)]
theorem ou_for {fs : List Fr} {cB : Code} {kB : Result → Sem PySem.Fin} (N : Nice Y) (N3 : Nice3 Y) (X : (heapK p.params).In h₀) (a : ZiA) (us : List Str) (ea eb : List Nat) (he : a.es.toList.map vv = us.map strV) (hA : a.eA.toList.map vv = ea.map intV) (hB : a.eB.toList.map vv = eb.map intV) (hz : us.length ≤ 1000) {rest : List (Addr × Obj)} (F : Nat × List Str)
  (hend : ∀ st ks k last J tok, ks.toList.map vv = k.map strV → k.length ≤ 1000 → st ≤ us.length → (st, k) = F → Y.G fs cB (kB (.ok .next)) (led J (ziW a st ks last) rest) tok)
  (q : ZiS) (hq : ∃ k, q.ks.toList.map vv = k.map strV ∧ k.length ≤ q.st ∧ chainP us.length ((ea.zip eb).drop q.i) q.st ∧ outS us ((ea.zip eb).drop q.i) q.st k = F) : ∀ J tok, Y.C (⟨cB, kB, false⟩ :: fs) (zfC p a.Zp a.L) (led J (ziV a q) rest) tok := by
  refine gc_loop (fun q => (ea.zip eb).length - q.i) (ziV a) (fun q => ∃ k, q.ks.toList.map vv = k.map strV ∧ k.length ≤ q.st ∧ chainP us.length ((ea.zip eb).drop q.i) q.st ∧ outS us ((ea.zip eb).drop q.i) q.st k = F) ?_ q hq
  obtain ⟨D, L, Zp, T, I, I1, I2, A, B, Kp, Cu, es, eA, eB⟩ := a
  dsimp only at he hA hB ⊢
  rintro ⟨i, st, ks, last⟩ ⟨k, hk, hkl, hch, hf⟩ ih J tok
  dsimp only at hk hkl hch hf ih
  apply g_code
  cases hea : ea[i]? with
  | none =>
    have hca : (eA.toList.map vv)[(Int.ofNat i).toNat]? = none := by rw [hA, List.getElem?_map]; simp [hea]
    have S1 := sus1 (su_lend (Z := Y) X (It := I1) (D := A) hca) sus0
    rw [zip_end (.inl hea)] at hch hf
    replace hch : st ≤ us.length := hch
    apply run2 X S1 [.s,.l 0,.c,.l 0,.g,.l 0,.l 0,.l 2,.l 0,.s,.l 0,.l 0,.l 0,.l 4,.u 2 [4,6] 0,.l 2,.l 2,.p,.l 0,.g,.p] rfl; intro b0 b1 _
    refine ok_drop 7 (t := kB (.ok .next)) (news := led (fun n => J (n + 5)) (ziW ⟨D, L, Zp, T, I, I1, I2, A, B, Kp, Cu, es, eA, eB⟩ st ks last) rest) ?_ (fun tok => hend st ks k last _ tok hk (by omega) hch hf)
    kernel_rfl!
  | some o =>
    have hca : (eA.toList.map vv)[(Int.ofNat i).toNat]? = some (intV o) := by rw [hA, List.getElem?_map]; simp [hea]
    cases heb : eb[i]? with
    | none =>
      have hcb : (eB.toList.map vv)[(Int.ofNat i).toNat]? = none := by rw [hB, List.getElem?_map]; simp [heb]
      have S1 := sus1 (su_lnext (Z := Y) X (It := I1) (D := A) hca) (sus1 (su_lend (Z := Y) X (It := I2) (D := B) hcb) sus0)
      rw [zip_end (.inr heb)] at hch hf
      replace hch : st ≤ us.length := hch
      apply run3 X S1 [.s,.l 0,.c,.l 0,.g,.l 0,.l 0,.l 2,.l 0,.s,.l 0,.l 0,.l 0,.l 4,.u 1 [4,6] 0,.l 1,.l 1,.l 1,.l 1,.s,.l 3,.u 2 [3,5] 1,.l 2,.l 2,.p,.l 0,.g,.p] rfl; intro b0 b1 b2 _
      refine ok_drop 7 (t := kB (.ok .next)) (news := led (fun n => J (n + 5)) (ziW ⟨D, L, Zp, T, I, I1, I2, A, B, Kp, Cu, es, eA, eB⟩ st ks last) rest) ?_ (fun tok => hend st ks k last _ tok hk (by omega) hch hf)
      kernel_rfl!
    | some c =>
      have hcb : (eB.toList.map vv)[(Int.ofNat i).toNat]? = some (intV c) := by rw [hB, List.getElem?_map]; simp [heb]
      have S1 := sus1 (su_lnext (Z := Y) X (It := I1) (D := A) hca) (sus1 (su_lnext (Z := Y) X (It := I2) (D := B) hcb) sus0)
      have hzd := zip_drop hea heb
      rw [hzd] at hch hf
      obtain ⟨hc1, hc2, hc3, hc4⟩ := hch
      replace hf : outS us ((ea.zip eb).drop (i + 1)) (c + 1) (k ++ (us.drop st).take (o - st)) = F := hf
      have hlt : (ea.zip eb).length - (i + 1) < (ea.zip eb).length - i := by
        have := congrArg List.length hzd
        rw [List.length_drop, List.length_cons] at this
        omega
      replace ih := ih ⟨i + 1, c + 1, ks ++ slicePick es (some (Int.ofNat st)) (some (Int.ofNat o)) none, some (o, c)⟩ hlt ⟨k ++ (us.drop st).take (o - st), by rw [Array.toList_append, List.map_append, hk, pick_strs he hc1 (by omega), List.map_append], by show (k ++ (us.drop st).take (o - st)).length ≤ c + 1; rw [List.length_append, List.length_take]; omega, hc4, hf⟩
      have hsz : (ks.toList.map vv).length + ((slicePick es (some (Int.ofNat st)) (some (Int.ofNat o)) none).toList.map vv).length ≤ 16777216 := by
        rw [pick_strs he hc1 (by omega), hk, List.length_map, List.length_map, List.length_take, List.length_drop]; omega
      rcases last with _ | ⟨i0, x0⟩
      · apply run3 X S1 [.s,.l 0,.c,.l 0,.g,.l 0,.l 0,.l 2,.l 0,.s,.l 0,.l 0,.l 0,.l 4,.u 1 [4,6] 0,.l 1,.l 1,.l 1,.l 1,.s,.l 3,.u 1 [3,5] 1,.l 1,.l 1,.l 1,.l 1,.s,.l 1,.a,.l 1,.l 1,.l 1,.l 1,.p,.l 1] rfl; intro b0 b1 b2 _
        refine ok_GV [1, 2, 1, 1, 1, 1, 2, 2, 2, 1, 2] (fs := ⟨cB, kB, false⟩ :: fs) (c := zfC p Zp L) (t := ldK (nextZ p (zfC p Zp L) Zp b2) (zeF (.int (Int.ofNat b2) 0) (.bool false) (.bool false) (.ref I) (.ref T))) (V := (true, b2, tup2 (intV o) (intV c)) :: (false, Zp, zeF (.int (Int.ofNat b2) 0) (.bool false) (.bool false) (.ref I) (.ref T)) :: (true, T, tup2 (intV o) (intV c)) :: (true, I, tup2 (.ref I1) (.ref I2)) :: (true, I2, lItO (.ref B) (Int.ofNat (i + 1))) :: (true, I1, lItO (.ref A) (Int.ofNat (i + 1))) :: (false, B, listE eB 0) :: (false, A, listE eA 0) :: (false, Kp, listE ks 0) :: (true, L, frO (dE (Str.ofString "units") (.ref D) :: dE (Str.ofString "cuts") (.ref Cu) :: dE (Str.ofString "start") (.int (Int.ofNat st) 0) :: dE (Str.ofString "kept") (.ref Kp) :: ocE none)) :: (false, D, listE es 0) :: []) (rest := rest) ?_ ?_
        kernel_rfl!
        intro J tok'
        refine own_zip Zp L b2 _ _ _ _ 1 rfl ?_
        clear S1
        apply run4 X sus0 [.s,.l 0,.l 0,.l 0,.m,.c,.l 0,.g,.a,.p,.l 0,.l 0,.c,.l 0,.g,.l 0,.l 0,.l 1,.l 0,.l 0,.p,.l 0,.c,.l 0,.g,.l 0,.l 0,.l 1,.l 0,.l 0,.p,.l 0,.c,.l 0,.g,.l 0,.l 0,.l 1,.s,.l 0,.l 0,.a,.a,.s,.p,.l 0,.s,.s,.s,.s,.l 12,.l 12,.s,.s,.s,.s,.s,.l 12,.l 12,.s,.s,.l 12,.s,.l 12,.s,.l 12,.s,.l 12,.a] rfl; intro d0 d1 d2 d3 _; apply ok_run; kernel_rfl!
        have S1 := sus1 (su_lslice N3 (D := D) (b := d3) (L := es.toList.map vv) (lo := some (Int.ofNat st)) (hi := some (Int.ofNat o)) (st := none) (by decide) (by rw [he, List.length_map]; omega)) sus0
        apply run1 X S1 [.s,.l 14,.l 14,.l 14,.u 1 [14,0] 0] rfl; intro e0 _; apply ok_run; kernel_rfl!
        clear S1
        have S1 := sus1 (su_iadd N3 (D := Kp) (B := e0) (L1 := ks.toList.map vv) (L2 := (slicePick es (some (Int.ofNat st)) (some (Int.ofNat o)) none).toList.map vv) hsz) sus0
        apply run1 X S1 [.s,.s,.l 13,.l 13,.l 0,.s,.u 1 [13,0] 0,.s,.s,.s,.s,.s,.l 14,.l 14,.s,.s,.s,.l 14,.s,.s,.c,.g,.s,.p,.s,.s,.s,.s,.l 14,.l 14,.s,.gE] rfl; intro f0 _
        refine ok_code [0, 0, 0, 0, 0, 0, 1, 1, 1, 1, 1, 2, 2, 2, 1, 2] ?_ ih
        kernel_rfl!
      · apply run3 X S1 [.s,.l 0,.c,.l 0,.g,.l 0,.l 0,.l 2,.l 0,.s,.l 0,.l 0,.l 0,.l 4,.u 1 [4,6] 0,.l 1,.l 1,.l 1,.l 1,.s,.l 3,.u 1 [3,5] 1,.l 1,.l 1,.l 1,.l 1,.s,.l 1,.a,.l 1,.l 1,.l 1,.l 1,.p,.l 1] rfl; intro b0 b1 b2 _
        refine ok_GV [1, 2, 1, 1, 1, 1, 2, 2, 2, 1, 2] (fs := ⟨cB, kB, false⟩ :: fs) (c := zfC p Zp L) (t := ldK (nextZ p (zfC p Zp L) Zp b2) (zeF (.int (Int.ofNat b2) 0) (.bool false) (.bool false) (.ref I) (.ref T))) (V := (true, b2, tup2 (intV o) (intV c)) :: (false, Zp, zeF (.int (Int.ofNat b2) 0) (.bool false) (.bool false) (.ref I) (.ref T)) :: (true, T, tup2 (intV o) (intV c)) :: (true, I, tup2 (.ref I1) (.ref I2)) :: (true, I2, lItO (.ref B) (Int.ofNat (i + 1))) :: (true, I1, lItO (.ref A) (Int.ofNat (i + 1))) :: (false, B, listE eB 0) :: (false, A, listE eA 0) :: (false, Kp, listE ks 0) :: (true, L, frO (dE (Str.ofString "units") (.ref D) :: dE (Str.ofString "cuts") (.ref Cu) :: dE (Str.ofString "start") (.int (Int.ofNat st) 0) :: dE (Str.ofString "kept") (.ref Kp) :: ocE (some (i0, x0)))) :: (false, D, listE es 0) :: []) (rest := rest) ?_ ?_
        kernel_rfl!
        intro J tok'
        refine own_zip Zp L b2 _ _ _ _ 1 rfl ?_
        clear S1
        apply run4 X sus0 [.s,.l 0,.l 0,.l 0,.m,.c,.l 0,.g,.a,.p,.l 0,.l 0,.c,.l 0,.g,.l 0,.l 0,.l 1,.l 0,.l 0,.p,.l 0,.c,.l 0,.g,.l 0,.l 0,.l 1,.l 0,.l 0,.p,.l 0,.c,.l 0,.g,.l 0,.l 0,.l 1,.s,.l 0,.l 0,.a,.a,.s,.p,.l 0,.s,.s,.s,.s,.l 12,.l 12,.s,.s,.s,.s,.s,.l 12,.l 12,.s,.s,.l 12,.s,.l 12,.s,.l 12,.s,.l 12,.a] rfl; intro d0 d1 d2 d3 _; apply ok_run; kernel_rfl!
        have S1 := sus1 (su_lslice N3 (D := D) (b := d3) (L := es.toList.map vv) (lo := some (Int.ofNat st)) (hi := some (Int.ofNat o)) (st := none) (by decide) (by rw [he, List.length_map]; omega)) sus0
        apply run1 X S1 [.s,.l 14,.l 14,.l 14,.u 1 [14,0] 0] rfl; intro e0 _; apply ok_run; kernel_rfl!
        clear S1
        have S1 := sus1 (su_iadd N3 (D := Kp) (B := e0) (L1 := ks.toList.map vv) (L2 := (slicePick es (some (Int.ofNat st)) (some (Int.ofNat o)) none).toList.map vv) hsz) sus0
        apply run1 X S1 [.s,.s,.l 13,.l 13,.l 0,.s,.u 1 [13,0] 0,.s,.s,.s,.s,.s,.l 14,.l 14,.s,.s,.s,.l 14,.s,.s,.c,.g,.s,.p,.s,.s,.s,.s,.l 14,.l 14,.s,.gE] rfl; intro f0 _
        refine ok_code [0, 0, 0, 0, 0, 0, 1, 1, 1, 1, 1, 2, 2, 2, 1, 2] ?_ ih
        kernel_rfl!
end

section
def evL {α : Type} : List α → List α | a :: _ :: l => a :: evL l | [a] => [a] | [] => []
theorem ev_range {α : Type} : ∀ l : List α, (List.range ((l.length + 1) / 2)).filterMap (fun k => l[2 * k]?) = evL l
  | [] => by simp [evL]
  | [a] => by simp [evL]
  | a :: b :: l => by
    have h := ev_range l
    have e : ((a :: b :: l).length + 1) / 2 = (l.length + 1) / 2 + 1 := by simp only [List.length_cons]; omega
    rw [e, List.range_succ_eq_map, List.filterMap_cons, show (a :: b :: l)[2 * 0]? = some a from rfl]
    dsimp only
    rw [List.filterMap_map, show evL (a :: b :: l) = a :: evL l from rfl, ← h]
    congr 1
theorem ev_map {α β : Type} (f : α → β) : ∀ l : List α, evL (l.map f) = (evL l).map f
  | [] => rfl
  | [a] => rfl
  | a :: b :: l => by show f a :: evL (l.map f) = f a :: (evL l).map f; rw [ev_map f l]
theorem pick2 (es : Array Value) (a : Nat) (ha : a ≤ 1) : (slicePick es (some (Int.ofNat a)) none (some 2)).toList = evL (es.toList.drop a) := by
  unfold slicePick sliceBounds sliceRange
  simp only [Option.getD_some, show (2 : Int) > 0 by decide, if_true]
  rw [← ev_range]
  have hn : (if (Int.ofNat a) < 0 then (Int.ofNat a) + (es.size : Int) else (Int.ofNat a)) = (a : Int) := if_neg (by simp)
  rw [hn]
  by_cases h : a ≤ es.size
  · have h1 : max 0 (min (a : Int) (es.size : Int)) = (a : Int) := by omega
    rw [h1]
    have h2 : (if (a : Int) < (es.size : Int) then ((es.size : Int) - (a : Int) + 2 - 1) / 2 else 0).toNat = ((es.toList.drop a).length + 1) / 2 := by
      rw [List.length_drop, Array.length_toList]
      split <;> omega
    rw [h2, List.filterMap_map]
    congr 1
    funext k
    show es[((a : Int) + 2 * (k : Int)).toNat]? = _
    rw [List.getElem?_drop, Array.getElem?_toList, show ((a : Int) + 2 * (k : Int)).toNat = a + 2 * k by omega]
  · have h0 : es.size = 0 := by omega
    have h1 : es.toList.drop a = [] := List.drop_eq_nil_of_le (by rw [Array.length_toList]; omega)
    rw [h1, h0]
    have h2 : ¬ (max 0 (min (a : Int) ((0 : Nat) : Int)) < ((0 : Nat) : Int)) := by omega
    rw [if_neg h2]
    simp [evL]
theorem pick2_map {es : Array Value} {L : List Value} (a : Nat) (ha : a ≤ 1) (he : es.toList.map vv = L) : (slicePick es (some (Int.ofNat a)) none (some 2)).toList.map vv = evL (L.drop a) := by
  rw [pick2 es a ha, ← ev_map, List.map_drop, he]
theorem pick_from {es : Array Value} {L : List Value} {s : Nat} (he : es.toList.map vv = L) (h : s ≤ L.length) : (slicePick es (some (Int.ofNat s)) none none).toList.map vv = L.drop s := by
  have h1 := slicePick_from es s (by rw [sz_of he]; exact h)
  rw [show slicePick es (some (Int.ofNat s)) none none = _ from h1]
  show (es.toList.drop s).map vv = _
  rw [List.map_drop, he]
theorem pick_upto {es : Array Value} {L : List Value} {s : Nat} (he : es.toList.map vv = L) (h : s ≤ L.length) : (slicePick es none (some (Int.ofNat s)) none).toList.map vv = L.take s := by
  have h1 := slicePick_upto es s (by rw [sz_of he]; exact h)
  rw [show slicePick es none (some (Int.ofNat s)) none = _ from h1]
  show (es.toList.take s).map vv = _
  rw [List.map_take, he]
theorem join_ok2 {x : Str} {ys : List Str} (hx : x.length = 0) (hn : ys.length ≤ 8000) (hy : ∀ y ∈ ys, y.length ≤ 1000) : JoinOk x ys = true := by
  apply PyProof.Rows.joinOk_of
  rw [hx, Nat.mul_zero, Nat.add_zero]
  have : ∀ l : List Str, (∀ y ∈ l, y.length ≤ 1000) → (l.map (·.length)).sum ≤ l.length * 1000 := by
    intro l
    induction l with
    | nil => intro _; exact Nat.zero_le _
    | cons y l ih =>
      intro h
      have h1 := h y (.head _)
      have h2 := ih fun z hz => h z (.tail _ hz)
      simp only [List.map_cons, List.sum_cons, List.length_cons]
      omega
  have := this ys hy
  omega
end

section
variable {h₀ : Heap} {chg : List (Addr × Obj)} {vs : Array Value} {p : Setting} {Z : Calc h₀ chg p} {Y : Calc h₀ [(125, tableObj vs)] p} {t : Nat}
noncomputable def ouS (p : Setting) (L En Ac N : Addr) : Code := compS (ouE p) En Ac (compEnv (heapK p.params) 149 148 L N (ouE p))
theorem ou_start {K : Frag} (X : K.In h₀) {F : List Fr} {D L It En Ac N : Addr} {es : Array Value} {J : Nat → JO} {rest : List (Addr × Obj)} (hl : ∀ tok, Y.C F (ouC p L En Ac N) (led J (ouV D L It En Ac N es ⟨0, #[], none⟩) rest) tok) (tok : Nat) : Y.C F (ouS p L En Ac N) (led J (ouV D L It En Ac N es ⟨0, #[], none⟩) rest) tok := by
  apply g_code
  cases hb : p.params.followText "comprehension-iter-twice"
  all_goals
    apply run0 X sus0 [.s] rfl; intro _; apply ok_run; kernel_rfl!
    k_subL
    first
      | (apply run0 X sus0 [.s,.s,.l 2,.l 2,.m,.c,.l 2,.g,.p,.l 2,.gE] rfl; intro _; refine ok_codeN ?_ hl; kernel_rfl!)
      | (apply run0 X sus0 [.gE] rfl; intro _; refine ok_codeN ?_ hl; kernel_rfl!)
theorem cutL_len : ∀ (us : List Str) (i : Nat), (cutL us i).length ≤ us.length
  | [], _ => Nat.le_refl _
  | u :: us, i => by
    have := cutL_len us (i + 1)
    rw [cutL]
    split
    · exact Nat.succ_le_succ this
    · exact Nat.le_succ_of_le this
theorem outS_mem (us : List Str) : ∀ (l : List (Nat × Nat)) (s : Nat) (k : List Str) (y : Str), y ∈ (outS us l s k).2 → y ∈ k ∨ y ∈ us
  | [], _, _, _, h => .inl h
  | (o, c) :: l, s, k, y, h => by
    rcases outS_mem us l (c + 1) (k ++ (us.drop s).take (o - s)) y h with h | h
    · rcases List.mem_append.mp h with h | h
      · exact .inl h
      · exact .inr (List.mem_of_mem_drop (List.mem_of_mem_take h))
    · exact .inr h
theorem outside_ok {fs : List Fr} (N : Nice Y) (N3 : Nice3 Y) (hR : Y.Rm fs 510) (X : (heapK p.params).In h₀) (hB : BI h₀) (D : Addr) (es : Array Value) (ep : Nat) (us : List Str) (he : es.toList.map vv = us.map strV) (hz : us.length ≤ 1000) (hne : 0 < us.length) {rest : List (Addr × Obj)} (F : Nat × List Str)
  (hch : chainP us.length ((evL (cutL us 0)).zip (evL ((cutL us 0).drop 1))) 0) (hF : outS us ((evL (cutL us 0)).zip (evL ((cutL us 0).drop 1))) 0 [] = F) (hlen : ∀ y ∈ us, y.length ≤ 2)
  (hK : ∀ tk J t', Y.B fs (rb tk (.ok (.ret (.str (Txt.join ⟨#[]⟩ (F.2 ++ us.drop F.1)) 0)))) (led J [(false, D, listE es 0)] rest) t')
  : Y.C fs (.call (.ref 149) ⟨[.ref D], []⟩) ((D, listE es ep) :: rest) t := by
  obtain ⟨_, e0, cl, dd, es0, ep0, sl, rfl, hL⟩ := hB
  have X0 := X
  replace X := in_cons e0 X
  apply g_code
  apply run1 X sus0 [.s,.s,.a,.s,.s,.l 0,.l 0] rfl; intro L0 _
  refine enter_at (code := .func (bodyOf (heapK p.params) 149) (envOf (heapK p.params) 149 148 L0)) (V := [(true, L0, frO [dE (Str.ofString "units") (.ref D)]), (false, D, listE es 0)]) (rest := rest) X0 [1, 2] hR ?_ ?_ rfl (fun J tok => ?_)
  kernel_rfl!
  kernel_rfl!
  apply g_code
  apply run0 X sus0 [.s,.s,.s,.s,.s] rfl; intro _; apply ok_run; kernel_rfl!
  obtain ⟨bh, bk, bq⟩ := hL (Str.ofString "enumerate") (.type "enumerate") (by kernel_rfl!) (by kernel_rfl!)
  k_subL
  apply run0 X sus0 [.s,.l 0,.s,.c,.g,.c,.g] rfl; intro _; apply ok_run; kernel_rfl!
  k_places
  apply run0 X sus0 [] rfl; intro _; apply ok_run; kernel_rfl!
  k_subL
  apply run4 X sus0 [.l 1,.l 1,.m,.c,.l 1,.g,.a,.p,.l 0,.a,.p,.l 0,.l 0,.c,.l 0,.g,.l 0,.p,.p,.s,.s,.l 0,.l 0,.m,.c,.l 0,.g,.p,.l 0,.s,.a,.a,.cE] rfl; intro e0 e1 e2 e3 _
  refine ok_loopg [1, 2, 1, 1, 1, 2] (ouS p L0 e1 e2 e3) true (fs := fs) (V := ouV D L0 e0 e1 e2 e3 es ⟨0, #[], none⟩) (rest := rest) ?_ (fun J tok => ou_start X (fun tok => ou_comp N N3 X0 D L0 e0 e1 e2 e3 es us he hz hne ?_ ⟨0, #[], none⟩ ⟨Nat.zero_le _, [], rfl, rfl, Nat.zero_le _, fun _ => rfl⟩ J tok) tok)
  kernel_rfl!
  intro ac i0 x0 J tok hc
  apply run5 X sus0 [.s,.s,.s,.s,.s,.l 2,.l 2,.s,.l 0,.s,.l 0,.l 0,.s,.l 0,.s,.l 0,.l 0,.s,.s,.s,.s,.a,.s,.a,.s,.l 0,.l 0,.l 0,.m,.c,.l 0,.g,.a,.p,.l 0,.l 0,.c,.l 0,.g,.l 0,.l 0,.l 1,.l 0,.l 0,.p,.l 0,.c,.l 0,.g,.l 0,.l 0,.l 1,.l 0,.l 0,.p,.l 0,.c,.l 0,.g,.l 0,.l 0,.l 1,.s,.l 0,.l 0,.a,.a,.s,.p,.l 0,.s,.s,.s,.l 7,.l 7,.s,.s,.s,.s,.l 7,.l 7,.s,.s,.s,.s,.s] rfl; intro f0 f1 f2 f3 f4 _; apply ok_run; kernel_rfl!
  obtain ⟨zh, zk, zq⟩ := hL (Str.ofString "zip") (.type "zip") (by kernel_rfl!) (by kernel_rfl!)
  k_subL
  have hcl := cutL_len us 0
  have hcz : (ac.toList.map vv).length ≤ 16777216 := by rw [hc, List.length_map]; omega
  apply run1 X sus0 [.s,.l 7,.s,.s,.a] rfl; intro g0 _; apply ok_run; kernel_rfl!
  have S1 := sus1 (su_lslice N3 (D := e2) (b := g0) (L := ac.toList.map vv) (lo := some 0) (hi := none) (st := some 2) (by decide) hcz) sus0
  apply run2 X S1 [.s,.l 7,.l 7,.l 7,.u 1 [7,0] 0,.s,.s,.l 9,.s,.s,.a] rfl; intro h0 h1 _; apply ok_run; kernel_rfl!
  clear S1
  have S1 := sus1 (su_lslice N3 (D := e2) (b := h1) (L := ac.toList.map vv) (lo := some 1) (hi := none) (st := some 2) (by decide) hcz) sus0
  apply run6 X S1 [.s,.l 9,.l 9,.l 9,.u 1 [9,0] 0,.s,.s,.c,.g,.c,.g,.l 2,.l 2,.m,.c,.l 2,.g,.a,.p,.l 0,.l 1,.l 1,.m,.c,.l 1,.g,.a,.p,.l 0,.a,.a,.a,.p,.l 0,.l 0,.c,.l 0,.g,.l 0,.p,.p,.s,.s,.l 0,.l 0,.m,.c,.l 0,.g,.p,.l 0,.cE] rfl; intro i0 i1 i2 i3 i4 i5 _
  have hA : (slicePick ac (some 0) none (some 2)).toList.map vv = (evL (cutL us 0)).map intV := (pick2_map 0 (by decide) hc).trans (by rw [List.drop_zero, ev_map])
  have hB : (slicePick ac (some 1) none (some 2)).toList.map vv = (evL ((cutL us 0).drop 1)).map intV := (pick2_map 1 (by decide) hc).trans (by rw [← List.map_drop, ev_map])
  refine ok_loopf [1, 1, 1, 1, 1, 2, 0, 2, 0, 0, 0, 0, 0, 2, 0, 0, 1, 2] (zfC p i5 L0) (fs := fs) (V := ziV ⟨D, L0, i5, i4, i3, i1, i2, h0, i0, f0, e2, es, slicePick ac (some 0) none (some 2), slicePick ac (some 1) none (some 2)⟩ ⟨0, 0, #[], none⟩) (rest := rest) ?_ (ou_for N N3 X0 ⟨D, L0, i5, i4, i3, i1, i2, h0, i0, f0, e2, es, slicePick ac (some 0) none (some 2), slicePick ac (some 1) none (some 2)⟩ us (evL (cutL us 0)) (evL ((cutL us 0).drop 1)) he hA hB hz F ?_ ⟨0, 0, #[], none⟩ ⟨[], rfl, Nat.zero_le _, hch, hF⟩)
  kernel_rfl!
  intro st ks k last J tok hk hkl hst hF'
  rw [← hF'] at hK
  apply run1 X S1 [.s,.s,.s,.s,.s,.l 3,.s,.l 3,.s,.l 3,.a] rfl; intro j0 _; apply ok_run; kernel_rfl!
  clear S1
  have S1 := sus1 (su_lslice N3 (D := D) (b := j0) (L := es.toList.map vv) (lo := some (Int.ofNat st)) (hi := none) (st := none) (by decide) (by rw [he, List.length_map]; omega)) sus0
  apply run1 X S1 [.s,.l 5,.l 5,.l 5,.u 1 [5,0] 0] rfl; intro k0 _; apply ok_run; kernel_rfl!
  clear S1
  have hk2 : (slicePick es (some (Int.ofNat st)) none none).toList.map vv = (us.drop st).map strV := (pick_from he (by rw [List.length_map]; exact hst)).trans (by rw [List.map_drop])
  have S1 := sus1 (su_ladd N3 (D := f0) (B := k0) (L1 := ks.toList.map vv) (L2 := (slicePick es (some (Int.ofNat st)) none none).toList.map vv) (by rw [hk, hk2, List.length_map, List.length_map, List.length_drop]; omega)) sus0
  apply run1 X S1 [.s,.s,.l 4,.l 0,.l 4,.s,.u 1 [4,0] 0] rfl; intro l0 _; apply ok_run; kernel_rfl!
  clear S1
  have hk3 : (ks ++ slicePick es (some (Int.ofNat st)) none none).toList.map vv = (k ++ us.drop st).map strV := by rw [Array.toList_append, List.map_append, hk, hk2, List.map_append]
  have S1 := sus1 (su_join N3 (x := ⟨#[]⟩) (D := l0) hk3 (join_ok2 rfl (by rw [List.length_append, List.length_drop]; omega) (by
    intro y hy
    refine Nat.le_trans (hlen y ?_) (by decide)
    rcases List.mem_append.mp hy with h | h
    · have := outS_mem us ((evL (cutL us 0)).zip (evL ((cutL us 0).drop 1))) 0 [] y (by rw [hF, ← hF']; exact h)
      simpa using this
    · exact List.mem_of_mem_drop h))) sus0
  apply run2 X S1 [.s,.s,.u 2 [0] 0,.s,.pE] rfl; intro m0 m1 _
  refine ok_ret [0, 0, 0, 0, 0, 0, 0, 2] (V := [(false, D, listE es 0)]) (rest := rest) ?_ hK
  kernel_rfl!
end

section
variable {h₀ : Heap} {chg : List (Addr × Obj)} {p : Setting} {Z : Calc h₀ chg p}
theorem bits_le {a : Int} (h : a.natAbs < 2 ^ 64) : Builtin.Int.intBits a ≤ 64 := by
  unfold Builtin.Int.intBits
  split
  · exact Nat.zero_le _
  · rename_i h0
    have : a.natAbs ≠ 0 := by intro e; exact h0 (by simpa using Int.natAbs_eq_zero.mp e)
    exact Nat.succ_le_of_lt ((Nat.log2_lt this).mpr h)
theorem su_intmul (N : Nice Z) {x y : Int} (h : x.natAbs < 2 ^ 64) : Su Z (smT "int.__mul__" [.int x 0, .int y 0] (.int (x * y) 0)) :=
  N.made F.slot_int_mul (fun s tk => typeIs_int _ _ _) F.entry_int_mul (fun tk => F.args_int_mul_2 _ _) (fun tk => gives_int_mul x y _ _ (IntMulOk.of_left (bits_le h))) fun tk s Q hq => hq s.toks 1
theorem su_intpow (N : Nice Z) {y : Int} {n : Nat} (h : y = n) (hn : n ≤ 60) : Su Z (smT "int.__pow__" [.int 2 0, .int y 0] (.int ((2 : Int) ^ n) 0)) := by
  subst h
  by_cases h0 : n = 0
  · subst h0
    exact N.made F.slot_int_pow (fun s tk => typeIs_int _ _ _) F.entry_int_pow (fun tk => F.args_int_pow_2 _ _) (fun tk => AutoIntG9.int___pow___int_int_0 2 _ _ _ (by decide) (by decide)) fun tk s Q hq => hq s.toks 1
  · refine N.made F.slot_int_pow (fun s tk => typeIs_int _ _ _) F.entry_int_pow (fun tk => F.args_int_pow_2 _ _) (fun tk => AutoIntG2.int___pow___int_int_4 2 _ (n : Int) _ (by omega) (by simpa using h0) (by decide) (by decide) ?_) fun tk s Q hq => hq s.toks 1
    unfold Builtin.Int.intTooBig bitsLine
    rw [decide_eq_true_eq]
    have : Builtin.Int.intBits 2 = 2 := by decide +kernel
    rw [this]
    omega
noncomputable def lcE (p : Setting) (It L : Addr) : Code := forC ((bodyOf (heapK p.params) 144)[3]?) (.ref It) (envOf (heapK p.params) 144 143 L)
end

section
variable {h₀ : Heap} {chg : List (Addr × Obj)} {vs : Array Value} {p : Setting} {Z : Calc h₀ chg p} {Y : Calc h₀ [(125, tableObj vs)] p} {t : Nat}
structure CnS where
  (i below : Nat)
  (more height hid : Int)
  last : Option Nat
structure CnA where
  (x : Str)
  (D L It : Addr)
  (es : Array Value)
  (sl ma : Int)
  (sh dn : Nat)
def kiE : Option Nat → List DictEntry | none => [] | some i => [dE (Str.ofString "kind") (.int (Int.ofNat i) 0)]
noncomputable def cnD (a : CnA) (q : CnS) : Obj := frO (dE (Str.ofString "text") (.str a.x 0) :: dE (Str.ofString "kinds") (.ref a.D) :: dE (Str.ofString "hidden") (.int q.hid 0) :: dE (Str.ofString "slashes") (.int a.sl 0) :: dE (Str.ofString "marks") (.int a.ma 0) :: dE (Str.ofString "shielded") (.int (Int.ofNat a.sh) 0) :: dE (Str.ofString "doubled") (.int (Int.ofNat a.dn) 0) :: dE (Str.ofString "more") (.int q.more 0) :: dE (Str.ofString "height") (.int q.height 0) :: dE (Str.ofString "below") (.int (Int.ofNat q.below) 0) :: kiE q.last)
noncomputable def cnV (a : CnA) (q : CnS) : VL := [(true, a.It, lItO (.ref a.D) (Int.ofNat q.i)), (true, a.L, cnD a q), (false, a.D, listE a.es 0)]
noncomputable def cnW (a : CnA) (q : CnS) : VL := [(true, a.L, cnD a q), (false, a.D, listE a.es 0)]
def cnStep (a : CnA) (q : CnS) (k : Nat) : CnS := if k = 0 then ⟨q.i + 1, q.below + 1, q.more, q.height + 1, q.hid, some k⟩ else ⟨q.i + 1, q.below, q.more + 2 ^ ((a.sh : Int) - 1 + q.height).toNat, q.height - 1, a.ma * 2 ^ q.below, some k⟩
def cnOK (a : CnA) : List Nat → CnS → Prop
  | [], _ => True
  | k :: l, q => (k = 0 ∨ (k = 1 ∧ 0 ≤ (a.sh : Int) - 1 + q.height ∧ (a.sh : Int) - 1 + q.height ≤ 60 ∧ q.below ≤ 60)) ∧ cnOK a l (cnStep a q k)
theorem cn_loop {fs : List Fr} {cB : Code} {kB : Result → Sem PySem.Fin} (N : Nice Y) (X : (heapK p.params).In h₀) (a : CnA) (ks : List Nat) (he : a.es.toList.map vv = ks.map intV) (hm : a.ma.natAbs < 2 ^ 64) {rest : List (Addr × Obj)} (F : CnS)
  (hend : ∀ J tok, Y.G fs cB (kB (.ok .next)) (led J (cnW a F) rest) tok)
  (q : CnS) (hq : q.i ≤ ks.length ∧ cnOK a (ks.drop q.i) q ∧ (ks.drop q.i).foldl (cnStep a) q = F) : ∀ J tok, Y.C (⟨cB, kB, false⟩ :: fs) (lcE p a.It a.L) (led J (cnV a q) rest) tok := by
  refine gc_loop (fun q => ks.length - q.i) (cnV a) (fun q => q.i ≤ ks.length ∧ cnOK a (ks.drop q.i) q ∧ (ks.drop q.i).foldl (cnStep a) q = F) ?_ q hq
  rintro q ⟨hi, hok, hf⟩ ih J tok
  have hcc : ∀ i : Nat, ks[i]? = none → (a.es.toList.map vv)[(Int.ofNat i).toNat]? = none := fun i h => by rw [he, List.getElem?_map]; simpa using h
  have hcs : ∀ (i k : Nat), ks[i]? = some k → (a.es.toList.map vv)[(Int.ofNat i).toNat]? = some (intV k) := fun i k h => by rw [he, List.getElem?_map]; simp [h]
  clear he
  obtain ⟨x, D, L, It, es, sl, mk, sh, dn⟩ := a
  obtain ⟨i, below, more, height, hid, last⟩ := q
  dsimp only at hi hok hf ih hm hcc hcs
  apply g_code
  cases hk : ks[i]? with
  | none =>
    have hd : ks.drop i = [] := List.drop_eq_nil_of_le (List.getElem?_eq_none_iff.mp hk)
    rw [hd] at hf
    have S1 := sus1 (su_lend (Z := Y) X (It := It) (D := D) (hcc i hk)) sus0
    subst hf
    apply run2 X S1 [.s,.l 0,.u 2 [0,2] 0,.l 0,.g,.p] rfl; intro b0 b1 _
    refine ok_drop 3 (t := kB (.ok .next)) ?_ (fun tok => hend (fun n => J (n + 1)) tok)
    kernel_rfl!
  | some k =>
    obtain ⟨hlt, hkk⟩ := List.getElem?_eq_some_iff.mp hk
    have hd : ks.drop i = k :: ks.drop (i + 1) := by rw [List.drop_eq_getElem_cons hlt, hkk]
    have S1 := sus1 (su_lnext (Z := Y) X (It := It) (D := D) (hcs i k hk)) sus0
    rw [hd] at hok hf
    replace ih := fun q (hq : q.i = i + 1 ∧ cnOK ⟨x, D, L, It, es, sl, mk, sh, dn⟩ (ks.drop (i + 1)) q ∧ (ks.drop (i + 1)).foldl (cnStep ⟨x, D, L, It, es, sl, mk, sh, dn⟩) q = F) => ih q (show ks.length - q.i < ks.length - i by rw [hq.1]; omega) ⟨by rw [hq.1]; omega, by rw [hq.1]; exact hq.2.1, by rw [hq.1]; exact hq.2.2⟩
    obtain ⟨hk1, hok⟩ := hok
    rw [List.foldl_cons] at hf
    rcases hk1 with rfl | ⟨rfl, h1, h2, h3⟩
    · replace ih := ih (cnStep ⟨x, D, L, It, es, sl, mk, sh, dn⟩ ⟨i, below, more, height, hid, last⟩ 0) ⟨rfl, hok, hf⟩
      rcases last with _ | l0
      all_goals
        apply run1 X S1 [.s,.l 0,.u 1 [0,2] 0,.s,.s,.s,.s,.l 1,.l 1,.s,.s,.s,.l 1,.s,.c,.g,.p,.s,.l 1,.s,.s,.c,.g,.s,.p,.s,.s,.s,.s,.l 1,.l 1,.s,.s,.l 1,.s,.s,.c,.g,.s,.p,.s,.s,.s,.s,.l 1,.l 1,.s,.gE] rfl; intro b0 _
        refine ok_code [1, 1, 2] ?_ ih
        kernel_rfl!
    · replace ih := ih (cnStep ⟨x, D, L, It, es, sl, mk, sh, dn⟩ ⟨i, below, more, height, hid, last⟩ 1) ⟨rfl, hok, hf⟩
      dsimp only at h1 h2 h3
      have S2 := sus1 (su_intpow N (y := Int.ofNat sh - 1 + height) (n := ((sh : Int) - 1 + height).toNat) (by show (sh : Int) - 1 + height = _; omega) (by omega)) (sus1 (su_intpow N (y := Int.ofNat below) (n := below) rfl h3) (sus1 (su_intmul N (x := mk) (y := (2 : Int) ^ below) hm) S1))
      clear S1
      rcases last with _ | l0
      all_goals
        apply run7 X S2 [.s,.l 0,.u 1 [0,2] 3,.s,.s,.s,.s,.l 1,.l 1,.s,.s,.s,.l 1,.s,.c,.g,.p,.s,.l 1,.s,.s,.l 1,.s,.s,.c,.g,.s,.p,.s,.l 1,.s,.c,.g,.s,.p,.s,.u 2 [] 0,.s,.c,.g,.s,.p,.s,.s,.s,.s,.l 1,.l 1,.s,.s,.l 1,.s,.s,.c,.g,.s,.p,.s,.s,.s,.s,.l 1,.l 1,.s,.s,.s,.l 1,.s,.s,.l 1,.s,.u 2 [] 1,.s,.u 2 [] 2,.s,.s,.s,.s,.l 1,.l 1,.s,.gE] rfl; intro b0 b1 b2 b3 b4 b5 b6 _
        refine ok_code [1, 1, 2] ?_ ih
        kernel_rfl!
end

section
variable {h₀ : Heap} {chg : List (Addr × Obj)} {vs : Array Value} {p : Setting} {Z : Calc h₀ chg p} {Y : Calc h₀ [(125, tableObj vs)] p} {t : Nat}
def cntO (x y : Str) : Int := (Builtin.Str.occurrences x y 0 x.length (x.length + 1)).length
def isI (k : Int) : Value → Bool | .int a _ => a == k | _ => false
theorem su_countI (N : Nice3 Z) {D : Addr} {es : Array Value} {ks : List Nat} (he : es.toList.map vv = ks.map intV) (k : Nat) : Su Z (smR "list.count" [.ref D, .int (Int.ofNat k) 0] [(D, lstO (es.toList.map vv))] (.int (ks.count k : Nat) 0)) := by
  have h := su_lcount N (D := D) (es := es) (x := .int (Int.ofNat k) 0) (isI k) fun y u hy => by
    rw [he] at hy
    obtain ⟨n, _, hn⟩ := List.mem_map.mp hy
    have : y = .int (Int.ofNat n) (tkOf y) := by rw [← bv_vv y, ← hn]; rfl
    rw [this]
    exact MeetsSeq.EqGives.int _ _ _ _
  have e : (es.toList.map vv).countP (isI k) = ks.count k := by
    rw [he, List.countP_map]
    unfold List.count
    congr 1
    funext n
    show ((n : Int) == (k : Int)) = (n == k)
    by_cases h : n = k
    · subst h; rw [beq_self_eq_true, beq_self_eq_true]
    · rw [beq_eq_false_iff_ne.mpr h]; exact beq_eq_false_iff_ne.mpr (fun e => h (Int.ofNat.inj e))
  rw [e] at h
  exact h
noncomputable def tup3 (a b c : Value) : Obj := ⟨.type SZ.s2766695959194262286x5, none, .seq ⟨[a, b, c]⟩ 0, #[]⟩
theorem counts_ok {fs : List Fr} (N : Nice Y) (N3 : Nice3 Y) (hR : Y.Rm fs 510) (X : (heapK p.params).In h₀) (hB : BI h₀) (x : Str) (tk : Tok) (hx : ∀ c ∈ x.cps.toList, Sg c) (D : Addr) (es : Array Value) (ks : List Nat) (he : es.toList.map vv = ks.map intV) (hz : ks.length ≤ 5) {rest : List (Addr × Obj)} (F : CnS)
  (hm : (cntO x (Str.ofString "\"")).natAbs < 2 ^ 64) (hs : (cntO x (Str.ofString "\\")).natAbs < 2 ^ 64)
  (hok : ∀ L It, cnOK ⟨x, D, L, It, es, cntO x (Str.ofString "\\"), cntO x (Str.ofString "\""), ks.count 1, ks.count 0⟩ ks ⟨0, 0, 0, 0, hidF x.cps.toList 0 0, none⟩)
  (hF : ∀ L It, ks.foldl (cnStep ⟨x, D, L, It, es, cntO x (Str.ofString "\\"), cntO x (Str.ofString "\""), ks.count 1, ks.count 0⟩) ⟨0, 0, 0, 0, hidF x.cps.toList 0 0, none⟩ = F)
  (hK : ∀ T J t', Y.B fs (.ok (.ret (.ref T))) (led J [(true, T, tup3 (.int (cntO x (Str.ofString "\"") * 2 ^ ks.count 0) 0) (.int (cntO x (Str.ofString "\\") * 2 ^ ks.count 1 + cntO x (Str.ofString "\"") * F.more) 0) (.int (cntO x (Str.ofString "\"") * 2 ^ ks.count 0 - F.hid) 0)), (false, D, listE es 0)] rest) t')
  : ∀ J, Y.C fs (.call (.ref 144) ⟨[.str x tk, .ref D], []⟩) (led J [(false, D, listE es 0)] rest) t := by
  intro J
  obtain ⟨_, e0, cl, dd, es0, ep0, sl, rfl, hL⟩ := hB
  have X0 := X
  replace X := in_cons e0 X
  apply g_code
  apply run1 X sus0 [.s,.s,.a,.s,.s,.l 0,.l 0,.s,.s,.l 0,.l 0] rfl; intro L0 _
  refine enter_at (code := .func (bodyOf (heapK p.params) 144) (envOf (heapK p.params) 144 143 L0)) (V := [(true, L0, frO [dE (Str.ofString "text") (.str x 0), dE (Str.ofString "kinds") (.ref D)]), (false, D, listE es 0)]) (rest := rest) X0 [1, 2] hR ?_ ?_ rfl (fun J tok => ?_)
  kernel_rfl!
  kernel_rfl!
  apply g_code
  have S1 := sus1 (su_strcount N (x := x) (y := Str.ofString "\"")) (sus1 (su_strcount N (x := x) (y := Str.ofString "\\")) sus0)
  apply run4 X S1 [.s,.s,.s,.s,.l 0,.s,.s,.s,.s,.u 2 [] 0,.s,.s,.l 0,.s,.s,.s,.s,.u 2 [] 1,.s,.s,.s,.s,.l 0,.s,.s,.cE] rfl; intro b0 b1 b2 b3 _
  refine ok_call1 [1, 2] (f := .ref 137) (args := [.str x 0]) (fs := fs) (V := [(true, L0, frO [dE (Str.ofString "text") (.str x 0), dE (Str.ofString "kinds") (.ref D)]), (false, D, listE es 0)]) (rest := rest) ?_ (fun tks J tok => ?_) (by intro h; cases h)
  kernel_rfl!
  refine law_hidden4 N (rm_of 1 hR rfl ?_) X0 x _ hx ?_
  kernel_rfl!
  intro tk' J' t'
  refine gb_cons ?_
  clear S1
  have S1 := sus1 (su_countI N3 (D := D) he 0) (sus1 (su_countI N3 (D := D) he 1) sus0)
  apply runF X S1 [.s,.a,.s,.l 0,.l 0,.l 0,.m,.c,.l 0,.g,.a,.p,.l 0,.l 0,.c,.l 0,.g,.l 0,.l 0,.l 1,.l 0,.l 0,.p,.l 0,.c,.l 0,.g,.l 0,.l 0,.l 1,.l 0,.l 0,.p,.l 0,.c,.l 0,.g,.l 0,.l 0,.l 1,.l 0,.l 0,.p,.l 0,.c,.l 0,.g,.l 0,.l 0,.l 1,.s,.l 0,.l 0,.a,.a,.s,.p,.l 0,.s,.s,.s,.l 4,.l 4,.s,.s,.s,.s,.l 4,.l 4,.s,.s,.s,.s,.l 4,.l 4,.s,.s,.s,.s,.l 4,.s,.l 5,.l 5,.l 5,.l 5,.s,.s,.s,.u 2 [5] 0,.s,.s,.l 4,.s,.l 5,.l 5,.l 5,.l 5,.s,.s,.s,.u 2 [5] 1,.s,.a,.s,.l 0,.l 0,.l 0,.m,.c,.l 0,.g,.a,.p,.l 0,.l 0,.c,.l 0,.g,.l 0,.l 0,.l 1,.l 0,.l 0,.p,.l 0,.c,.l 0,.g,.l 0,.l 0,.l 1,.l 0,.l 0,.p,.l 0,.c,.l 0,.g,.l 0,.l 0,.l 1,.s,.l 0,.l 0,.a,.a,.s,.p,.l 0,.s,.s,.s,.l 8,.l 8,.s,.s,.s,.s,.l 8,.l 8,.s,.s,.s,.s,.s,.s,.a,.s,.l 0,.l 0,.l 0,.m,.c,.l 0,.g,.a,.p,.l 0,.l 0,.c,.l 0,.g,.l 0,.l 0,.l 1,.l 0,.l 0,.p,.l 0,.c,.l 0,.g,.l 0,.l 0,.l 1,.l 0,.l 0,.p,.l 0,.c,.l 0,.g,.l 0,.l 0,.l 1,.l 0,.l 0,.p,.l 0,.c,.l 0,.g,.l 0,.l 0,.l 1,.s,.l 0,.l 0,.a,.a,.s,.p,.l 0,.s,.s,.s,.s,.l 12,.l 12,.s,.s,.s,.s,.s,.l 12,.l 12,.s,.s,.s,.s,.s,.l 12,.l 12,.s,.s,.s,.l 12,.s,.l 13,.l 13,.m,.c,.l 13,.g,.a,.p,.l 0,.cE]; intro cF _
  refine ok_loopf [1, 0, 0, 0, 0, 0, 0, 0, 0, 0, 0, 0, 0, 1, 2] (lcE p (cF 16) L0) (fs := fs) (V := cnV ⟨x, D, L0, cF 16, es, cntO x (Str.ofString "\\"), cntO x (Str.ofString "\""), ks.count 1, ks.count 0⟩ ⟨0, 0, 0, 0, hidF x.cps.toList 0 0, none⟩) (rest := rest) ?_ (cn_loop N X0 _ ks he hm F ?_ _ ⟨Nat.zero_le _, hok L0 (cF 16), hF L0 (cF 16)⟩)
  kernel_rfl!
  intro J tok
  clear S1
  have S1 := sus1 (su_intpow N (y := Int.ofNat (ks.count 0)) (n := ks.count 0) rfl (Nat.le_trans (List.count_le_length) (by omega))) (sus1 (su_intpow N (y := Int.ofNat (ks.count 1)) (n := ks.count 1) rfl (Nat.le_trans (List.count_le_length) (by omega))) (sus1 (su_intmul N (x := cntO x (Str.ofString "\"")) (y := (2 : Int) ^ ks.count 0) hm) (sus1 (su_intmul N (x := cntO x (Str.ofString "\\")) (y := (2 : Int) ^ ks.count 1) hs) (sus1 (su_intmul N (x := cntO x (Str.ofString "\"")) (y := F.more) hm) sus0))))
  apply runF X S1 [.s,.s,.s,.l 0,.s,.s,.l 0,.s,.u 2 [] 0,.s,.u 2 [] 2,.s,.l 0,.s,.s,.l 0,.s,.u 2 [] 1,.s,.u 2 [] 3,.s,.l 0,.s,.l 0,.s,.u 2 [] 4,.s,.c,.g,.s,.p,.s,.l 0,.s,.s,.l 0,.s,.u 2 [] 0,.s,.u 2 [] 2,.s,.l 0,.s,.c,.g,.s,.p,.a,.pE]; intro dF _
  refine ok_ret [1, 0, 2] (r := .ok (.ret (.ref (dF 14)))) (V := [(true, dF 14, tup3 (.int (cntO x (Str.ofString "\"") * 2 ^ ks.count 0) 0) (.int (cntO x (Str.ofString "\\") * 2 ^ ks.count 1 + cntO x (Str.ofString "\"") * F.more) 0) (.int (cntO x (Str.ofString "\"") * 2 ^ ks.count 0 - F.hid) 0)), (false, D, listE es 0)]) (rest := rest) ?_ (fun tk J t' => hK (dF 14) J t')
  kernel_rfl!
end

section
variable {h₀ : Heap} {chg : List (Addr × Obj)} {p : Setting} {Z : Calc h₀ chg p}
def isC : Sem PySem.Fin → Option (Value × List Value) | .call (.call f ⟨l, []⟩) none _ _ _ => some (f, l.map vv) | _ => none
def clK : Sem PySem.Fin → Result → Sem PySem.Fin | .call _ _ _ _ k => k | t => fun _ => t
theorem call_ok (N : Nice3 Z) {fs c t news tok f args} (e : isC t = some (f, args)) (E : Result → List (Addr × Obj) → Nat → Prop)
   (H : ∀ (tks : Nat → Tok) (prog : Program) (w : World) (A : Around) (g : Array GenState) (d : Drawn) (os : OsState) (h : Heap), A.handled = none → Mm h₀ h chg news →
      wpAny (model prog w) A (PySem.call f (bVs tks args)) (fun v s' => ∃ h' news' tok', s' = ⟨h', g, d, tok', os⟩ ∧ Mm h₀ h' chg news' ∧ E (.ok (.ret v)) news' tok')
        (fun e s' => ∃ h' news' tok', s' = ⟨h', g, d, tok', os⟩ ∧ Mm h₀ h' chg news' ∧ E (.error e) news' tok') ⟨h, g, d, tok, os⟩)
   (K : ∀ r news' tok', E r news' tok' → Z.G fs c (clK t r) news' tok') : Z.G fs c t news tok := by
  cases t with
  | call c' hd gd l k =>
    cases c' with
    | call f' a =>
      obtain ⟨pos, kw⟩ := a
      cases kw with
      | cons => cases e
      | nil =>
        cases hd with
        | some => cases e
        | none =>
          have e := Option.some.inj (show some (f', pos.map vv) = some (f, args) from e)
          obtain ⟨tks, ht⟩ := bVs_ex pos
          obtain ⟨e1, e2⟩ := Prod.mk.inj e
          rw [e2] at ht
          subst e1
          rw [← ht]
          exact N.call E (fun prog w A g d os h => H tks prog w A g d os h) K
    | _ => cases e
  | _ => cases e
theorem mem_ext2 {h h' : Heap} {news : List (Addr × Obj)} {o : Obj} (D : Mem h₀ h chg news) (hk : ∀ b o, h.get? b = some o → h'.get? b = some o) (ho : h'.get? h.objs.size = some o) : Mem h₀ h' chg ((h.objs.size, o) :: news) := by
  refine ⟨fun b o' e q => hk _ _ (D.keep b o' e q), fun p hp => ⟨hk _ _ (D.ch p hp).1, (D.ch p hp).2⟩, D.cd, fun p hp => ?_, ?_⟩
  · rcases List.mem_cons.mp hp with rfl | hp
    · refine ⟨ho, ?_⟩
      cases q : h₀.get? h.objs.size with
      | none => rfl
      | some o' =>
        obtain ⟨o₂, e₂⟩ := D.there q
        exact absurd (Heap.lt_size e₂) (Nat.lt_irrefl _)
    · exact ⟨hk _ _ (D.nw p hp).1, (D.nw p hp).2⟩
  · refine List.Pairwise.cons (fun b hb => ?_) D.ord
    obtain ⟨⟨b', ob⟩, hp, rfl⟩ := List.mem_map.mp hb
    exact Heap.lt_size (D.nw _ hp).1
def chrs (x : Str) : List Str := x.cps.toList.map fun c => ⟨#[c]⟩
theorem list_str (N : Nice3 Z) {fs c t news tok} {x : Str} (hz : x.cps.size ≤ 16777216) (e : isC t = some (.type "list", [.str x 0]))
   (K : ∀ D es n tok', es.toList.map vv = (chrs x).map strV → Z.G fs c (clK t (.ok (.ret (.ref D)))) ((D, listE es n) :: news) tok') : Z.G fs c t news tok := by
  refine call_ok N e (fun r news' tok' => ∃ D es n, r = .ok (.ret (.ref D)) ∧ news' = (D, listE es n) :: news ∧ es.toList.map vv = (chrs x).map strV) (fun tks prog w A g d os h hA M => ?_) ?_
  · refine call_list_str hA x (tks 0) (hn := by unfold sizeLine; omega) fun h' tk acc c' hk hS hacc => ?_
    obtain ⟨ln, M, q⟩ := M
    refine ⟨h', (h.objs.size, listE acc c') :: news, tk, rfl, ⟨_, mem_ext2 M hk hS, q.cons _⟩, _, acc, c', rfl, rfl, ?_⟩
    apply List.ext_getElem?
    intro i
    rw [List.getElem?_map, List.getElem?_map, chrs, List.getElem?_map, Array.getElem?_toList, Array.getElem?_toList]
    cases hv : acc[i]? with
    | none =>
      have : acc.size ≤ i := by simpa using hv
      rw [hacc.1] at this
      rw [Array.getElem?_eq_none this]
      rfl
    | some v =>
      obtain ⟨ch, u, h1, rfl⟩ := hacc.2 i v hv
      rw [h1]
      rfl
  · rintro r news' tok' ⟨D, es, n, rfl, rfl, he⟩
    exact K D es n tok' he
end

section
variable {h₀ : Heap} {chg : List (Addr × Obj)} {vs : Array Value} {p : Setting} {Z : Calc h₀ chg p} {Y : Calc h₀ [(125, tableObj vs)] p} {t : Nat}
def optV : Option Addr → Value | none => .none | some a => .ref a
noncomputable def lexO (ln : Int) (v : Value) (P : Addr) : Obj := frC [dE (Str.ofString "lineno") (.int ln 0), dE (Str.ofString "instream") v, dE (Str.ofString "whitespace") (.str (Str.ofString "\n\t\r ") 0), dE (Str.ofString "pushback") (.ref P)]
noncomputable def insO (Dc : Addr) : Obj := ⟨.ref 105, some Dc, .plain, #[]⟩
theorem newlex_ok {fs : List Fr} (hR : Y.Rm fs 510) (X : (heapK p.params).In h₀) (hB : BI h₀) (o : Option Addr) {rest : List (Addr × Obj)}
  (hK : ∀ I Dc P J t', Y.B fs (.ok (.ret (.ref I))) (led J [(true, P, lstO []), (true, I, insO Dc), (true, Dc, lexO 1 (optV o) P)] rest) t')
  : Y.C fs (.call (.ref 105) ⟨[optV o], []⟩) rest t := by
  obtain ⟨_, e0, cl, dd, es0, ep0, sl, rfl, hL⟩ := hB
  have X0 := X
  replace X := in_cons e0 X
  cases o
  all_goals
    apply g_code
    apply run3 X sus0 [.s,.s,.g,.s,.g,.s,.s,.s,.c,.s,.s,.s,.s,.s,.s,.s,.g,.s,.s,.s,.s,.s,.s,.s,.s,.s,.s,.s,.s,.a,.a,.s,.p,.l 0,.s,.l 0,.s,.s,.s,.s,.c,.s,.s,.a,.s,.s,.l 0,.l 0,.s,.s,.l 0,.l 0] rfl; intro b0 b1 b2 _; apply ok_run; kernel_rfl!
    k_places
    apply run0 X sus0 [.s] rfl; intro _; apply ok_run; kernel_rfl!
    k_subL
    first
      | (apply run1 X sus0 [.g,.s,.s,.s,.s,.l 0,.s,.s,.l 1,.s,.s,.s,.c,.l 1,.s,.g,.l 1,.s,.l 1,.s,.s,.s,.l 1,.s,.s,.s,.l 2,.l 2,.l 2,.p,.s,.s,.l 0,.s,.l 0,.s,.s,.l 1,.s,.s,.s,.c,.l 1,.s,.g,.l 1,.s,.l 1,.s,.s,.s,.l 1,.s,.s,.s,.l 2,.l 2,.l 2,.p,.s,.s,.s,.l 0,.s,.s,.l 1,.s,.s,.s,.c,.l 1,.s,.g,.l 1,.s,.l 1,.s,.s,.s,.l 1,.s,.s,.s,.l 2,.l 2,.l 2,.p,.s,.s,.a,.s,.l 1,.s,.s,.l 2,.s,.s,.s,.c,.l 2,.s,.g,.l 2,.s,.l 2,.s,.s,.s,.l 2,.s,.s,.s,.l 3,.l 3,.l 3,.p,.s,.p,.pE] rfl; intro d0 _; refine ok_ret [1, 0, 1, 1] (r := .ok (.ret (.ref b1))) (V := [(true, d0, lstO []), (true, b1, insO b0), (true, b0, lexO 1 (optV _) d0)]) (rest := rest) ?_ (fun tk J t' => hK b1 b0 d0 J t'); kernel_rfl!)
      | (apply run1 X sus0 [.g,.s,.s,.s,.s,.l 0,.s,.s,.l 1,.s,.s,.s,.c,.l 1,.s,.g,.l 1,.s,.l 1,.s,.s,.s,.l 1,.s,.s,.s,.l 2,.l 2,.l 2,.p,.s,.s,.l 0,.s,.l 0,.s,.s,.l 1,.s,.s,.s,.c,.l 1,.s,.g,.l 1,.s,.l 1,.s,.s,.s,.l 1,.s,.s,.s,.l 2,.l 2,.l 2,.p,.s,.s,.s,.s,.l 0,.s,.s,.l 1,.s,.s,.s,.c,.l 1,.s,.g,.l 1,.s,.l 1,.s,.s,.s,.l 1,.s,.s,.s,.l 2,.l 2,.l 2,.p,.s,.s,.a,.s,.l 1,.s,.s,.l 2,.s,.s,.s,.c,.l 2,.s,.g,.l 2,.s,.l 2,.s,.s,.s,.l 2,.s,.s,.s,.l 3,.l 3,.l 3,.p,.s,.p,.pE] rfl; intro d0 _; refine ok_ret [1, 0, 1, 1] (r := .ok (.ret (.ref b1))) (V := [(true, d0, lstO []), (true, b1, insO b0), (true, b0, lexO 1 (optV _) d0)]) (rest := rest) ?_ (fun tk J t' => hK b1 b0 d0 J t'); kernel_rfl!)
end

section
variable {prog : Program} {w : World} {A : Around} {R : Result → Shared → Prop} {h₀ : Heap} {d : Drawn} {os : OsState} {vs : Array Value} {hh : A.handled = none} {t : Nat} {p : Setting} {chg : List (Addr × Obj)}
noncomputable def cellO (v : Value) : Obj := ⟨.type SZ.s15660640913423913556x4, none, .cell (some v), #[]⟩
def tb1 (cc : Addr) : Array Value := #[.int 113 0, .int 4 0, .ref cc]
def isLd : Sem PySem.Fin → Option Addr | .load a _ _ => some a | _ => none
theorem load_chg {Z : Calc h₀ [(125, tableObj vs)] p} {fs c t news tok} (e : isLd t = some 125) (x : Z.G fs c (ldK t (tableObj vs)) news tok) : Z.G fs c t news tok := by
  cases t with
  | load a q k => cases (Option.some.inj e); exact Z.load (fun h D => D.atC (i := 0) rfl) x
  | _ => cases e
def isUp : Sem PySem.Fin → Option Addr | .update a _ _ _ => some a | _ => none
def upF : Sem PySem.Fin → Obj → Obj | .update _ _ f _ => f | _ => id
def upK : Sem PySem.Fin → Sem PySem.Fin | .update _ _ _ k => k () | t => t
theorem grow_chg {vs' more : Array Value} {g : Array GenState} {fs c t news tok} (hv : vs' = vs ++ more) (e : (isUp t, upF t (tableObj vs)) = (some 125, tableObj vs')) (x : (wpC prog w A R h₀ d os hh [(125, tableObj vs')] g).G fs c (upK t) news tok) : (wpC prog w A R h₀ d os hh [(125, tableObj vs)] g).G fs c t news tok := by
  subst hv
  obtain ⟨e1, e2⟩ := Prod.mk.inj e
  cases t with
  | update a q f k =>
    cases (Option.some.inj e1)
    intro h D
    obtain ⟨l, D, r⟩ := D
    exact y_regrow _ prog w _ _ _ _ h₀ _ l h g d _ os _ _ _ _ vs more D 0 rfl e2 fun h' D' => x h' ⟨_, D', r⟩
  | _ => cases e1
def qLp : Str := Str.ofString "_law_word.<locals>._law_piece"
noncomputable def codO (a : Value) (tq : Tok) (l : List Value) : Obj := ⟨.type "code", none, .fields ⟨a :: .str qLp tq :: l⟩, #[]⟩
def TB (vs : Array Value) (own : List (Addr × Obj)) : Prop := (vs = #[] ∧ own = []) ∨ ∃ cc a tq l, vs = tb1 cc ∧ own = [(cc, codO a tq l)]
theorem tb_case {g : Array GenState} {fs c t tok} {J : Nat → JO} {V : VL} {own rest : List (Addr × Obj)} (hTB : TB vs own) (e : isLd t = some 125)
   (ha : (∀ cc a tq l tok, (wpC prog w A R h₀ d os hh [(125, tableObj (tb1 cc))] g).G fs c (ldK t (tableObj (tb1 cc))) (led J V ((cc, codO a tq l) :: rest)) tok) → (wpC prog w A R h₀ d os hh [(125, tableObj #[])] g).G fs c (ldK t (tableObj #[])) (led J V rest) tok)
   (key : ∀ cc a tq l tok, (wpC prog w A R h₀ d os hh [(125, tableObj (tb1 cc))] g).G fs c (ldK t (tableObj (tb1 cc))) (led J V ((cc, codO a tq l) :: rest)) tok) : (wpC prog w A R h₀ d os hh [(125, tableObj vs)] g).G fs c t (led J V (own ++ rest)) tok := by
  rcases hTB with ⟨rfl, rfl⟩ | ⟨cc, a, tq, l, rfl, rfl⟩
  · exact load_chg (p := ⟨prog, w.params⟩) e (ha key)
  · exact load_chg (p := ⟨prog, w.params⟩) e (key cc a tq l tok)
def hdN (x : Option (Out × Obl)) : Obj := match oN x with | q :: _ => q.2 | [] => default
def fdL : Obj → List Value | ⟨_, _, .fields es, _⟩ => es.toList | _ => []
def v0 (o : Obj) : Value := match fdL o with | v :: _ => v | [] => .none
def v1t (o : Obj) : Tok := match fdL o with | _ :: v :: _ => tkOf v | _ => 0
def v2l (o : Obj) : List Value := match fdL o with | _ :: _ :: l => l | _ => []
theorem ok_hd {Z : Calc h₀ chg p} {x : Option (Out × Obl)} (j : Nat) {fs c t cc J V rest} (e : (fA x, fB x, fC x, oKind x, oFs x, oC x, oT x, (oN x).take 1, (oN x).drop (j + 1)) = (gA x, gB x, true, 1, fs, c, t, [(cc, codO (v0 (hdN x)) (v1t (hdN x)) (v2l (hdN x)))], led J V rest)) (k : ∀ a tq l tok, Z.G fs c t (led J V ((cc, codO a tq l) :: rest)) tok) : OK Z x := by
  obtain ⟨e1, e⟩ := Prod.mk.inj e; obtain ⟨e2, e⟩ := Prod.mk.inj e; obtain ⟨e3, e⟩ := Prod.mk.inj e; obtain ⟨e4, e⟩ := Prod.mk.inj e; obtain ⟨e5, e⟩ := Prod.mk.inj e; obtain ⟨e6, e⟩ := Prod.mk.inj e; obtain ⟨e7, e⟩ := Prod.mk.inj e; obtain ⟨e8, e9⟩ := Prod.mk.inj e
  refine ⟨e1, e2, e3, e_run e4 ?_⟩
  rw [e5, e6, e7]
  have h : ((cc, codO (v0 (hdN x)) (v1t (hdN x)) (v2l (hdN x))) :: led J V rest).Sublist (oN x) := by
    rw [← e9]
    generalize oN x = n at e8 ⊢
    cases n with
    | nil => cases e8
    | cons q n =>
      rw [← (List.cons.inj e8).1]
      exact (List.drop_sublist j n).cons_cons q
  exact g_sub h (g_perm (news' := led J V ((cc, codO (v0 (hdN x)) (v1t (hdN x)) (v2l (hdN x))) :: rest)) List.perm_middle.symm (k _ _ _ _))
noncomputable def tup1 (a : Value) : Obj := ⟨.type SZ.s2766695959194262286x5, none, .seq ⟨[a]⟩ 0, #[]⟩
def nsOf (K : Frag) (a : Addr) (key : List Nat) : Value := match K.lookup a with
  | some ⟨_, _, .dict es _, _⟩ => ((es.toList.find? (fun e => match e.key with | .str s _ => s.cps.toList == key | _ => false)).map (·.val)).getD .none
  | _ => .none
noncomputable def lpO (p : Setting) (L1 h0 cc : Addr) : Obj := match (bodyOf (heapK p.params) 130)[2]? with
  | some (PySem.Stmt.FunctionDef n a b _ _ _ sc _ _ _) => ⟨.type "function", none, .func { name := n, qualname := Str.ofString "_law_word.<locals>._law_piece", params := a, body := .stmts b, scope := sc, globals := 3, closure := [(Str.ofString "signs", L1)], defaults := .none, kwdefaults := .none, doc := .none, pyModule := nsOf (heapK p.params) 3 (Str.ofString "__name__").cps.toList, annotations := none, code := .ref cc, closureTuple := .ref h0, builtins := 0 }, #[]⟩
  | _ => default
noncomputable def strmO (P r : Addr) : Obj := frC [dE (Str.ofString "lineno") (.int 1 0), dE (Str.ofString "instream") .none, dE (Str.ofString "whitespace") (.str (Str.ofString "\n\t\r ") 0), dE (Str.ofString "pushback") (.ref P), dE (Str.ofString "read") (.ref r)]
structure LxA where
  (I2 D2 P2 I1 D1 P1 F h0 cc Sg Ce : Addr)
  ca : Value
  ct : Tok
  cl : List Value
noncomputable def lxV (p : Setting) (a : LxA) (ln : Int) (sg : Array Value) : VL := [(true, a.P2, lstO []), (true, a.I2, insO a.D2), (true, a.D2, lexO ln (.ref a.I1) a.P2), (true, a.I1, insO a.D1), (true, a.D1, strmO a.P1 a.F), (false, a.F, lpO p a.Ce a.h0 a.cc), (false, a.Sg, listE sg 0), (true, a.Ce, cellO (.ref a.Sg)), (false, a.cc, codO a.ca a.ct a.cl)]
end

section
variable {h₀ : Heap} {chg : List (Addr × Obj)} {vs : Array Value} {p : Setting} {Z : Calc h₀ chg p} {Y : Calc h₀ [(125, tableObj vs)] p} {t : Nat}
theorem perm1 {news : List (Addr × Obj)} {i : Nat} {x : Addr × Obj} (hi : news[i]? = some x) : ∃ rest, news.Perm (x :: rest) := by
  obtain ⟨s, t, e⟩ := List.append_of_mem (List.mem_of_getElem? hi)
  exact ⟨s ++ t, by rw [e]; exact List.perm_middle⟩
noncomputable def smLen (D : Addr) (L : List Value) (m : Nat) : Sm := ⟨[(D, lstO L)], .builtin "len" ⟨[.ref D], []⟩, 2, fun old as' tok => ⟨.ok (.ret (.int (Int.ofNat m) (as'.getD 0 0))), [], [], as'.getD 1 0⟩, mC⟩
theorem su_llen {K : Frag} (X : K.In h₀) {D : Addr} {L : List Value} {m : Nat} (hm : L.length = m) (hz : m ≤ 16777216) : Su Z (smLen D L m) := by
  intro fs c c' k gd l news tok is old hi ho hc' K'
  obtain ⟨es, n, rfl, he⟩ := old_list ho
  obtain ⟨i, rfl, hj⟩ := getAll1 hi
  have hsz : es.size = m := by rw [sz_of he]; exact hm
  obtain rfl : es.size = m := hsz
  obtain rfl : c' = .builtin "len" ⟨[.ref D], []⟩ := by
    cases c' <;> first | exact hc' | (unfold smLen mC at hc'; cases hc')
  clear hi hc' ho
  obtain ⟨rest, q⟩ := perm1 hj
  refine g_perm q ?_
  apply g_call
  apply g_code
  apply run0 X sus0 [.l 0,.c,.l 0,.g,.l 0,.s,.p,.s] rfl; intro _; apply ok_run; kernel_rfl!
  k_subL
  apply run0 X sus0 [.s,.p] rfl; intro _
  refine ok_G ?_ (g_perm q.symm (K' [tok + 1, tok + 2] rfl))
  kernel_rfl!
noncomputable def smLenC (D : Addr) (L : List Value) (m : Nat) : Sm := ⟨[(D, lstO L)], .call (.builtin "len") ⟨[.ref D], []⟩, 2, fun old as' tok => ⟨.ok (.ret (.int (Int.ofNat m) (as'.getD 0 0))), [], [], as'.getD 1 0⟩, mC⟩
theorem su_llenC {K : Frag} (X : K.In h₀) {D : Addr} {L : List Value} {m : Nat} (hm : L.length = m) (hz : m ≤ 16777216) : Su Z (smLenC D L m) := by
  intro fs c c' k gd l news tok is old hi ho hc' K'
  obtain ⟨es, n, rfl, he⟩ := old_list ho
  obtain ⟨i, rfl, hj⟩ := getAll1 hi
  have hsz : es.size = m := by rw [sz_of he]; exact hm
  obtain rfl : es.size = m := hsz
  obtain ⟨tks, rfl⟩ := mC_call hc'
  clear hi hc' ho
  obtain ⟨rest, q⟩ := perm1 hj
  refine g_perm q ?_
  apply g_call
  apply g_code
  apply run0 X sus0 [.g,.l 0,.c,.l 0,.g,.l 0,.s,.p,.s] rfl; intro _; apply ok_run; kernel_rfl!
  k_subL
  apply run0 X sus0 [.s,.p] rfl; intro _
  refine ok_G ?_ (g_perm q.symm (K' [tok + 1, tok + 2] rfl))
  kernel_rfl!
def popO (e : Nat) : Addr × Obj → Addr × Obj
  | (a, ⟨c, d, .seq es _, s⟩) => (a, ⟨c, d, .seq es.pop e, s⟩)
  | q => q
noncomputable def smPop (D : Addr) (L : List Value) (v : Value) : Sm := ⟨[(D, lstO L)], .call (.builtin "list.pop") ⟨[.ref D], []⟩, 2, fun old as' tok => ⟨.ok (.ret (bv (as'.getD 0 0) v)), [], old.map (popO (as'.getD 1 0)), tok⟩, mC⟩
theorem su_pop (N : Nice3 Z) {D : Addr} {L L0 : List Value} {v : Value} (hL : L = L0 ++ [v]) (hz : L.length ≤ 16777216) : Su Z (smPop D L v) := by
  intro fs c c' k gd l news tok is old hi' ho hc' K
  obtain ⟨tks, rfl⟩ := mC_call hc'
  obtain ⟨es, n, rfl, he⟩ := old_list ho
  obtain ⟨i, rfl, hi⟩ := getAll1 hi'
  have hs := sz_of he
  have hsz : es.size ≤ sizeLine := by unfold sizeLine; omega
  have hp : ∃ p y, es = (p ++ [y]).toArray ∧ vv y = v := by
    rw [hL] at he
    have h1 : es.toList ≠ [] := by intro h; rw [h] at he; simp at he
    refine ⟨es.toList.dropLast, es.toList.getLast h1, ?_, ?_⟩
    · rw [List.dropLast_concat_getLast, Array.toArray_toList]
    · have := congrArg List.getLast? he
      rw [List.getLast?_map, List.getLast?_eq_some_getLast h1] at this
      simpa using this
  obtain ⟨p, y, rfl, hy⟩ := hp
  replace K := fun e => K [tkOf y, e] rfl
  have hk : (p ++ [y]).toArray.size - 1 = p.length := by simp
  have hyy : (p ++ [y]).toArray[(p ++ [y]).toArray.size - 1]? = some y := by rw [hk]; simp
  refine N.call (fun r' news' tok' => ∃ e, r' = .ok (.ret y) ∧ news' = news.set i (D, listE p.toArray e) ∧ tok' = tok) (fun prog w A g d os h hA M => ?_) ?_
  · have hD := M.at hi
    refine call_meets F.slot_list_pop ⟨_, hD, rfl⟩ F.entry_list_pop (F.args_list_pop_1 _) (MeetsSeq.list_pop_last D _ n y hyy hsz) ⟨hD, ?_⟩
    obtain ⟨ln, M, q⟩ := M
    obtain ⟨j, hj⟩ := List.mem_iff_getElem?.mp (q.mem_iff.mpr (List.mem_of_getElem? hi))
    refine ⟨_, _, _, rfl, ⟨_, Mem.update M hj rfl, perm_set q hj hi⟩, ?_⟩
    have e : (p ++ [y]).toArray.eraseIdxIfInBounds ((p ++ [y]).toArray.size - 1) = p.toArray := by rw [hk, W.kl_erase, List.append_nil]
    refine ⟨if p.toArray.size == (p ++ [y]).toArray.size then n else n + 1, rfl, ?_, rfl⟩
    show news.set i (D, Obj.mapSeq (·.eraseIdxIfInBounds ((p ++ [y]).toArray.size - 1)) (listE (p ++ [y]).toArray n)) = _
    unfold listE Obj.mapSeq
    dsimp only
    rw [e]
  · rintro r' news' tok' ⟨e, rfl, rfl, rfl⟩
    have := K e
    have h2 : (p ++ [y]).toArray.pop = p.toArray := by simp
    unfold Eff.news smPop listE popO at this
    dsimp only [List.map] at this
    rw [h2, ← hy] at this
    have h3 : bv ([tkOf y, e].getD 0 0) (vv y) = y := bv_vv y
    rw [h3] at this
    exact this
end

section
variable {h₀ : Heap} {chg : List (Addr × Obj)} {vs : Array Value} {p : Setting} {Z : Calc h₀ chg p} {Y : Calc h₀ [(125, tableObj vs)] p} {t : Nat}
noncomputable def pcV (p : Setting) (a : LxA) (sg : Array Value) : VL := [(false, a.F, lpO p a.Ce a.h0 a.cc), (false, a.Sg, listE sg 0), (true, a.Ce, cellO (.ref a.Sg)), (false, a.cc, codO a.ca a.ct a.cl)]
def sgOf (l : List Nat) : List Value := (l.map fun c => Value.str ⟨#[c]⟩ 0).reverse
theorem piece_ok {fs : List Fr} (N3 : Nice3 Y) (hR : Y.Rm fs 560) (X : (heapK p.params).In h₀) (hB : BI h₀) (a : LxA) (sg : Array Value) (l : List Nat) (hl : sg.toList.map vv = sgOf l) (hsz : l.length ≤ 1000) (k : Int) (tk : Tok) {rest : List (Addr × Obj)} (J : Nat → JO)
  (hK0 : l = [] → ∀ tk J t', Y.B fs (rb tk (.ok (.ret (.str ⟨#[]⟩ 0)))) (led J (pcV p a sg) rest) t')
  (hK1 : ∀ c l', l = c :: l' → ∀ tk J t', Y.B fs (rb tk (.ok (.ret (.str ⟨#[c]⟩ 0)))) (led J (pcV p a sg.pop) rest) t')
  : Y.C fs (.call (.ref a.F) ⟨[.int k tk], []⟩) (led J (pcV p a sg) rest) t := by
  obtain ⟨_, e0, cl, dd, es0, ep0, sl, rfl, hL⟩ := hB
  have X0 := X
  replace X := in_cons e0 X
  obtain ⟨I2, D2, P2, I1, D1, P1, F, h0, cc, Sg, Ce, ca, ct, cl⟩ := a
  apply g_code
  apply run1 X sus0 [.l 0,.l 3,.a,.s,.s,.l 0,.l 0] rfl; intro b0 _; apply ok_run; kernel_rfl!
  k_places
  apply run0 X sus0 [.s] rfl; intro _; apply ok_run; kernel_rfl!
  k_subL
  cases l with
  | nil =>
    have S1 := sus1 (su_llen (Z := Y) X (D := Sg) (L := sg.toList.map vv) (m := 0) (by rw [hl]; rfl) (by decide)) sus0
    apply run2 X S1 [.g,.s,.s,.s,.l 3,.s,.l 2,.l 2,.u 2 [2] 0,.s,.pE] rfl; intro e0 e1 _
    refine ok_ret [0, 2, 2, 1, 2] ?_ (hK0 rfl)

    kernel_rfl!
  | cons c l =>
    have hlen : (sg.toList.map vv).length = l.length + 1 := by rw [hl, sgOf, List.length_reverse, List.length_map]; rfl
    have hzz : (sg.toList.map vv).length ≤ 16777216 := by rw [hlen]; simp only [List.length_cons] at hsz; omega
    have S1 := sus1 (su_llen (Z := Y) X (D := Sg) (L := sg.toList.map vv) (m := l.length + 1) hlen (by rw [← hlen]; exact hzz)) (sus1 (su_pop N3 (D := Sg) (L := sg.toList.map vv) (L0 := sgOf l) (v := .str ⟨#[c]⟩ 0) (by rw [hl]; unfold sgOf; rw [List.map_cons, List.reverse_cons]) hzz) sus0)
    apply run4 X S1 [.g,.s,.s,.s,.l 3,.s,.l 2,.l 2,.u 2 [2] 0,.s,.l 3,.s,.l 2,.l 2,.l 2,.l 2,.s,.s,.u 2 [2] 1,.s,.pE] rfl; intro e0 e1 e2 e3 _
    refine ok_ret [0, 2, 2, 1, 2] ?_ (hK1 c l rfl)

    kernel_rfl!
theorem build_app : ∀ (J : Nat → JO) (V1 V2 : VL), build J (V1 ++ V2) = build J V1 ++ build (fun i => J (i + V1.length)) V2
  | J, [], V2 => rfl
  | J, (b, a, o) :: V1, V2 => by
    show (a, bO (J 0) b o) :: build (fun n => J (n + 1)) (V1 ++ V2) = (a, bO (J 0) b o) :: (build (fun n => J (n + 1)) V1 ++ _)
    rw [build_app]
    rfl
theorem build_join (J2 : Nat → JO) (V2 : VL) : ∀ (J1 : Nat → JO) (V1 : VL), ∃ J, build J (V1 ++ V2) = build J1 V1 ++ build J2 V2
  | J1, [] => ⟨J2, rfl⟩
  | J1, (b, a, o) :: V1 => by
    obtain ⟨J, e⟩ := build_join J2 V2 (fun n => J1 (n + 1)) V1
    exact ⟨sh (J1 0) J, by show (a, bO (J1 0) b o) :: build J (V1 ++ V2) = _; rw [e]; rfl⟩
theorem c_swap {Z : Calc h₀ chg p} {fs c tok J rest} (V1 V2 : VL) (x : Z.C fs c (led (fun i => J (i + V1.length)) V2 (build J V1 ++ rest)) tok) : Z.C fs c (led J (V1 ++ V2) rest) tok := by
  unfold led
  rw [build_app, List.append_assoc]
  exact gc_perm (List.perm_append_comm_assoc _ _ _) x
theorem b_swap {Z : Calc h₀ chg p} {fs r tok J1 J2 rest} (V1 V2 : VL) (x : ∀ J, Z.B fs r (led J (V1 ++ V2) rest) tok) : Z.B fs r (led J2 V2 (build J1 V1 ++ rest)) tok := by
  obtain ⟨J, e⟩ := build_join J2 V2 J1 V1
  have := x J
  unfold led at this
  rw [e, List.append_assoc] at this
  exact Z.weakB (fun _ D => mm_perm (List.perm_append_comm_assoc _ _ _) D) this
end

section
variable {h₀ : Heap} {chg : List (Addr × Obj)} {vs : Array Value} {p : Setting} {Z : Calc h₀ chg p} {Y : Calc h₀ [(125, tableObj vs)] p} {t : Nat}
def nl (c : Nat) (ln : Int) : Int := if c = 10 then ln + 1 else ln
theorem read_ok {fs : List Fr} (N : Nice Y) (N3 : Nice3 Y) (hR : Y.Rm fs 510) (X : (heapK p.params).In h₀) (hB : BI h₀) (a : LxA) (ln : Int) (sg : Array Value) (l : List Nat) (hl : sg.toList.map vv = sgOf l) (hsz : l.length ≤ 1000) {rest : List (Addr × Obj)} (J : Nat → JO)
  (hK0 : l = [] → ∀ tk J t', Y.B fs (rb tk (.ok (.ret (.str ⟨#[]⟩ 0)))) (led J (lxV p a ln sg) rest) t')
  (hK1 : ∀ c l', l = c :: l' → ∀ tk J t', Y.B fs (rb tk (.ok (.ret (.str ⟨#[c]⟩ 0)))) (led J (lxV p a (nl c ln) sg.pop) rest) t')
  : Y.C fs (.call (.ref 88) ⟨[.ref a.I2], []⟩) (led J (lxV p a ln sg) rest) t := by
  have hB0 := hB
  obtain ⟨_, e0, cl, dd, es0, ep0, sl, rfl, hL⟩ := hB
  have X0 := X
  replace X := in_cons e0 X
  apply g_code
  apply run1 X sus0 [.s,.s,.a,.s,.s,.l 0,.l 0] rfl; intro b0 _
  refine enter_at (code := .func (bodyOf (heapK p.params) 88) (envOf (heapK p.params) 88 87 b0)) (V := (true, b0, frO [dE (Str.ofString "self") (.ref a.I2)]) :: lxV p a ln sg) (rest := rest) X0 [1, 1, 1, 1, 1, 1, 2, 2, 1, 2] hR ?_ ?_ rfl (fun J tok => ?_)
  kernel_rfl!
  kernel_rfl!
  apply g_code
  apply run0 X sus0 [.s,.s,.s,.l 0,.s,.s,.l 2,.s,.s,.s,.c,.l 2,.s,.s,.s,.l 2,.l 2,.s,.l 3,.s,.p,.s,.l 4,.s,.s,.s,.l 4,.s,.s,.s,.l 4,.s,.s,.s,.s,.l 4,.s,.s,.s,.c,.l 4,.s,.s,.s,.l 4,.l 4,.s,.l 5,.s,.p,.s,.s,.l 6,.cE] rfl; intro _
  refine ok_call1 [1, 1, 1, 1, 1, 1, 2, 2, 1, 2] (f := .ref a.F) (args := [.int 1 0]) (fs := fs) (V := [(true, b0, frO [dE (Str.ofString "self") (.ref a.I2)]), (true, a.P2, lstO []), (true, a.I2, insO a.D2), (true, a.D2, lexO ln (.ref a.I1) a.P2), (true, a.I1, insO a.D1), (true, a.D1, strmO a.P1 a.F)] ++ pcV p a sg) (rest := rest) ?_ (fun tks J tok => c_swap _ _ (piece_ok N3 (rm_of 1 hR rfl ?_) X0 hB0 a sg l hl hsz 1 _ _ (fun h tk J' t' => ?_) (fun c l' h tk J' t' => ?_))) (by intro h; cases h)

  kernel_rfl!
  kernel_rfl!
  · replace hK0 := hK0 h
    refine b_swap _ _ fun J => gb_cons ?_
    apply run0 X sus0 [.s,.s,.s,.s,.s,.l 0,.l 0,.s,.s,.s,.l 0,.s,.s,.m,.c,.g,.p,.s,.s,.l 0,.pE] rfl; intro _
    refine ok_ret [0, 1, 1, 1, 1, 1, 2, 2, 1, 2] ?_ hK0

    kernel_rfl!
  · replace hK1 := hK1 c l' h
    refine b_swap _ _ fun J => gb_cons ?_
    by_cases h10 : c = 10
    · subst h10
      apply run0 X sus0 [.s,.s,.s,.s,.s,.l 0,.l 0,.s,.s,.s,.l 0,.s,.s,.m,.c,.g,.p,.s,.s,.l 0,.s,.s,.l 2,.s,.s,.s,.c,.l 2,.s,.s,.s,.l 2,.l 2,.s,.l 3,.s,.p,.s,.s,.c,.g,.s,.p,.s,.s,.l 2,.s,.s,.s,.c,.l 2,.s,.g,.l 2,.s,.l 2,.s,.s,.s,.l 2,.s,.s,.s,.l 3,.l 3,.l 3,.p,.s,.s,.l 0,.pE] rfl; intro _
      refine ok_ret [0, 1, 1, 1, 1, 1, 2, 2, 1, 2] ?_ hK1

      kernel_rfl!
    · rw [show nl c ln = ln from if_neg h10] at hK1
      have S1 := sus1 (su_streq N (x := ⟨#[c]⟩) (y := Str.ofString "\n") (b := false) (by show (([c] : List Nat) == [10]) = false; simp [h10])) sus0
      apply run2 X S1 [.s,.s,.s,.s,.s,.l 0,.l 0,.s,.s,.s,.l 0,.s,.s,.m,.u 2 [] 0,.s,.s,.l 0,.pE] rfl; intro d0 d1 _
      refine ok_ret [0, 1, 1, 1, 1, 1, 2, 2, 1, 2] ?_ hK1

      kernel_rfl!
end

section
variable {h₀ : Heap} {chg : List (Addr × Obj)} {vs : Array Value} {p : Setting} {Z : Calc h₀ chg p} {Y : Calc h₀ [(125, tableObj vs)] p} {t : Nat}
theorem ok_callt {x : Option (Out × Obl)} (m : List Nat) {f args V rest b} (e : (fA x, fB x, fC x, oKind x, oFs x, callee (oC x), ckw (oC x), (cpos (oC x)).map vv, view m (oN x)) = (gA x, gB x, true, 2, ⟨fsC (oFs x), fsK (oFs x), b⟩ :: (oFs x).drop 1, f, true, args, (V, rest))) (k : ∀ tks J tok, Z.C (⟨fsC (oFs x), fsK (oFs x), b⟩ :: (oFs x).drop 1) (.call f ⟨bVs tks args, []⟩) (led J V rest) tok) (hf : f ≠ .none) : OK Z x := by
  obtain ⟨e1, e⟩ := Prod.mk.inj e; obtain ⟨e2, e⟩ := Prod.mk.inj e; obtain ⟨e3, e⟩ := Prod.mk.inj e; obtain ⟨e4, e⟩ := Prod.mk.inj e; obtain ⟨e5, e⟩ := Prod.mk.inj e; obtain ⟨e6, e⟩ := Prod.mk.inj e; obtain ⟨e7, e⟩ := Prod.mk.inj e; obtain ⟨e8, e9⟩ := Prod.mk.inj e
  refine ok_call m (show (fA x, fB x, fC x, oKind x, callee (oC x), ckw (oC x), (cpos (oC x)).map vv, view m (oN x)) = (gA x, gB x, true, 2, f, true, args, (V, rest)) by rw [e1, e2, e3, e4, e6, e7, e8, e9]) (fun tks J tok => ?_) hf
  have := k tks J tok
  rw [← e5] at this
  exact this
def inFor (K : Frag) : Option PySem.Stmt := match (bodyOf K 95)[3]? with
  | some (PySem.Stmt.For _ _ b _ _) => (match b[1]? with
    | some (PySem.Stmt.If _ th _ _) => th[0]?
    | _ => none)
  | _ => none
noncomputable def inC (p : Setting) (Ci L : Addr) : Code := forC (inFor (heapK p.params)) (.ref Ci) (envOf (heapK p.params) 95 94 L)
noncomputable def ciO (Me : Addr) : Obj := ⟨.type SZ.s12148877158373987119x17, none, .fields ⟨[.ref Me, .str ⟨#[]⟩ 0, .bool false]⟩, #[]⟩
noncomputable def meO (I : Addr) : Obj := ⟨.type SZ.s6181755712446570794x6, none, .fields ⟨[.ref 88, .ref I]⟩, #[]⟩
def lexT : List Nat → Option (List Nat × List Nat)
  | [] => none
  | [c] => if c = 34 then some ([], []) else none
  | c :: c2 :: l => if c = 34 then some ([], c2 :: l) else if c = 92 then (lexT l).map (fun r => (c2 :: r.1, r.2)) else (lexT (c2 :: l)).map (fun r => (c :: r.1, r.2))
structure GtS where
  D : Str
  C : Str
  ln : Int
  sg : Array Value
  l : List Nat
noncomputable def gtL (a : LxA) (Ci L : Addr) (D : Str) (C : Str) : Bool × Addr × Obj := (true, L, frO [dE (Str.ofString "self") (.ref a.I2), dE (Str.ofString "token") (.str D 0), dE (Str.ofString "fiter") (.ref Ci), dE (Str.ofString "ch") (.str C 0)])
noncomputable def gtV (p : Setting) (a : LxA) (Ci Me L : Addr) (q : GtS) : VL := [(true, Ci, ciO Me), (true, Me, meO a.I2), gtL a Ci L q.D q.C] ++ lxV p a q.ln q.sg
theorem app_len1 (x : Str) (c : Nat) : (x ++ (⟨#[c]⟩ : Str)).length = x.length + 1 := by show (x.cps ++ #[c]).size = x.cps.size + 1; simp
theorem veq_ne (i : DecidableEq Value) (c : Nat) (t u : Tok) : (@BEq.beq Value (@instBEqOfDecidableEq Value i) (.str ⟨#[]⟩ t) (.str ⟨#[c]⟩ u)) = false := decide_eq_false (by
  intro h
  injection h with h1 h2
  injection h1 with h1
  exact absurd (congrArg Array.size h1) (by simp))
local macro_rules | `(tactic| k_mem) => `(tactic| (exact same_ifF (veq_ne _ _ _ _)))
theorem pop_sg {sg : Array Value} {c : Nat} {l : List Nat} (h : sg.toList.map vv = sgOf (c :: l)) : sg.pop.toList.map vv = sgOf l := by
  rw [Array.toList_pop, List.map_dropLast, h, sgOf, List.map_cons, List.reverse_cons, List.dropLast_concat]
  rfl
theorem app_cps (x y : Str) : (x ++ y).cps.toList = x.cps.toList ++ y.cps.toList := Array.toList_append
theorem gt_loop {fs : List Fr} {cB : Code} {kB : Result → Sem PySem.Fin} (N : Nice Y) (N3 : Nice3 Y) (hR : Y.Rm (⟨cB, kB, false⟩ :: fs) 450) (X : (heapK p.params).In h₀) (hB : BI h₀) (a : LxA) (Ci Me L : Addr) {rest : List (Addr × Obj)} (W R : List Nat) (K : Int)
  (hend : ∀ D C sg tk J tok, sg.toList.map vv = sgOf R → D.cps.toList = W → Y.G fs cB (kB (rb tk (.ok (.ret (.str D 0))))) (led J (gtV p a Ci Me L ⟨D, C, K - R.count 10, sg, R⟩) rest) tok)
  (q : GtS) (hq : q.sg.toList.map vv = sgOf q.l ∧ q.D.length + q.l.length ≤ 999 ∧ q.ln + q.l.count 10 = K ∧ ∃ w, lexT q.l = some (w, R) ∧ q.D.cps.toList ++ w = W) : ∀ J tok, Y.C (⟨cB, kB, false⟩ :: fs) (inC p Ci L) (led J (gtV p a Ci Me L q) rest) tok := by
  have X0 := X
  have hB0 := hB
  obtain ⟨_, e0, cl, dd, es0, ep0, sl, rfl, hL⟩ := hB
  replace X := in_cons e0 X
  refine gc_loop (fun q => q.l.length) (gtV p a Ci Me L) (fun q => q.sg.toList.map vv = sgOf q.l ∧ q.D.length + q.l.length ≤ 999 ∧ q.ln + q.l.count 10 = K ∧ ∃ w, lexT q.l = some (w, R) ∧ q.D.cps.toList ++ w = W) ?_ q hq
  rintro ⟨D, C, ln, sg, l⟩ ⟨hl, hz, hk, w, hw, hD⟩ ih J tok
  dsimp only at hl hz hk hw hD ih
  apply g_code
  apply run0 X sus0 [.s,.l 0,.c,.l 0,.g,.l 0,.l 0,.l 1,.s,.c,.l 1,.gE] rfl; intro _
  refine ok_callt [1, 1, 1, 1, 1, 1, 1, 1, 2, 2, 1, 2] (f := .ref 88) (args := [.ref a.I2]) (b := true) (V := [(true, Ci, ciO Me), (true, Me, meO a.I2), gtL a Ci L D C] ++ lxV p a ln sg) (rest := rest) ?_ (fun tks J tok => c_swap _ _ (read_ok N N3 (rm_of 2 hR rfl ?_) X0 hB0 a ln sg l hl (by omega) _ (fun h => ?_) (fun c l' h tk J' t' => ?_))) (by intro h; cases h)
  kernel_rfl!
  kernel_rfl!
  · subst h; cases hw
  subst h
  have hl1 := pop_sg hl
  have hk1 : nl c ln + l'.count 10 = K := by rw [← hk, nl, List.count_cons]; split <;> rename_i h10 <;> simp [h10] <;> omega
  rw [List.length_cons] at hz
  refine b_swap _ _ fun J => gb_cons ?_
  by_cases h34 : c = 34
  · subst h34
    have hR' : l' = R ∧ w = [] := by cases l' <;> (simp [lexT] at hw; exact ⟨by simp_all, by simp_all⟩)
    obtain ⟨rfl, rfl⟩ := hR'
    rw [show K - (l'.count 10 : Int) = nl 34 ln by omega] at hend
    replace hend := hend D ⟨#[34]⟩ sg.pop ((J 2).v 1) 
    apply run0 X sus0 [.l 0,.l 0,.m,.c,.g,.p,.p,.s,.s,.s,.s,.l 2,.l 2,.s,.s,.s,.l 2,.s,.s,.m,.c,.g,.p,.s,.s,.l 2,.p] rfl; intro _
    refine ok_GV [1, 1, 1, 1, 1, 1, 1, 1, 2, 2, 1, 2] (t := kB (rb ((J 2).v 1) (.ok (.ret (.str D 0))))) ?_ (fun J tok => hend J tok hl1 (by rw [← hD, List.append_nil]))
    kernel_rfl!
  by_cases h92 : c = 92
  · subst h92
    cases l' with
    | nil => simp [lexT] at hw
    | cons c2 l2 =>
    have hw2 : ∃ w2, lexT l2 = some (w2, R) ∧ w = c2 :: w2 := by
      rw [lexT, if_neg (by decide), if_pos rfl] at hw
      cases e : lexT l2 with
      | none => rw [e] at hw; cases hw
      | some r => rw [e] at hw; obtain ⟨r1, r2⟩ := r; injection hw with hw; have hw := Prod.mk.inj hw; exact ⟨r1, by rw [← hw.2], hw.1.symm⟩
    obtain ⟨w2, hw2, rfl⟩ := hw2
    have hl2 := pop_sg hl1
    apply run0 X sus0 [.l 0,.l 0,.m,.c,.g,.p,.p,.s,.s,.s,.s,.l 2,.l 2,.s,.s,.s,.l 2,.s,.s,.m,.c,.g,.p,.s,.s,.l 2,.s,.s,.m,.c,.g,.p,.s,.s,.l 2,.s,.l 4,.s,.s,.s,.l 4,.s,.s,.s,.l 4,.s,.s,.s,.s,.l 4,.l 5,.s,.s,.s,.cE] rfl; intro _
    refine ok_callt [1, 1, 1, 1, 1, 1, 1, 1, 2, 2, 1, 2] (f := .ref 88) (args := [.ref a.I2]) (b := false) (V := [(true, Ci, ciO Me), (true, Me, meO a.I2), gtL a Ci L D ⟨#[92]⟩] ++ lxV p a (nl 92 ln) sg.pop) (rest := rest) ?_ (fun tks J tok => c_swap _ _ (read_ok N N3 (rm_of 1 hR rfl ?_) X0 hB0 a (nl 92 ln) sg.pop (c2 :: l2) hl1 (by omega) _ (fun h => nomatch h) (fun c l' h tk J' t' => ?_))) (by intro h; cases h)

    kernel_rfl!
    kernel_rfl!
    obtain ⟨rfl, rfl⟩ := List.cons.inj h
    have hk2 : nl c2 (nl 92 ln) + l2.count 10 = K := by rw [← hk1, nl, List.count_cons]; split <;> rename_i h10 <;> simp [h10] <;> omega
    rw [List.length_cons] at hz
    refine b_swap _ _ fun J => gb_cons ?_
    have S1 := sus1 (su_stradd N (x := D) (y := ⟨#[c2]⟩) (by rw [app_len1]; unfold sizeLine; omega)) sus0
    apply run2 X S1 [.s,.s,.s,.s,.s,.l 2,.l 2,.s,.s,.l 2,.s,.l 2,.s,.s,.u 2 [] 0,.s,.s,.s,.s,.l 2,.l 2,.s,.gE] rfl; intro e0 e1 _
    refine ok_code [1, 1, 1, 1, 1, 1, 1, 1, 2, 2, 1, 2] ?_ (ih ⟨D ++ ⟨#[c2]⟩, ⟨#[c2]⟩, nl c2 (nl 92 ln), sg.pop.pop, l2⟩ (by show l2.length < l2.length + 1 + 1; omega) ⟨hl2, by show (D ++ ⟨#[c2]⟩ : Str).length + l2.length ≤ 999; rw [app_len1]; omega, hk2, w2, hw2, by rw [app_cps, ← hD]; simp⟩)

    kernel_rfl!
  · have hw2 : ∃ w2, lexT l' = some (w2, R) ∧ w = c :: w2 := by
      cases l' with
      | nil => simp [lexT, h34] at hw
      | cons c2 l2 =>
      rw [lexT, if_neg h34, if_neg h92] at hw
      cases e : lexT (c2 :: l2) with
      | none => rw [e] at hw; cases hw
      | some r => rw [e] at hw; obtain ⟨r1, r2⟩ := r; injection hw with hw; have hw := Prod.mk.inj hw; exact ⟨r1, by rw [← hw.2], hw.1.symm⟩
    obtain ⟨w2, hw2, rfl⟩ := hw2
    have S1 := sus1 (su_streq N (x := ⟨#[c]⟩) (y := Str.ofString "\"") (b := false) (by show (([c] : List Nat) == [34]) = false; simp [h34])) (sus1 (su_streq N (x := ⟨#[c]⟩) (y := Str.ofString "\\") (b := false) (by show (([c] : List Nat) == [92]) = false; simp [h92])) (sus1 (su_stradd N (x := D) (y := ⟨#[c]⟩) (by rw [app_len1]; unfold sizeLine; show D.length + 1 ≤ _; omega)) sus0))
    apply run0 X S1 [.l 0,.l 0] rfl; intro _; apply ok_run; kernel_rfl!
    k_subL
    apply run6 X S1 [.m,.c,.g,.p,.p,.s,.s,.s,.s,.l 2,.l 2,.s,.s,.s,.l 2,.s,.s,.m,.u 2 [] 0,.s,.s,.l 2,.s,.s,.m,.u 2 [] 1,.s,.l 2,.s,.l 2,.s,.s,.u 2 [] 2,.s,.s,.s,.s,.l 2,.l 2,.s,.gE] rfl; intro e0 e1 e2 e3 e4 e5 _
    refine ok_code [1, 1, 1, 1, 1, 1, 1, 1, 2, 2, 1, 2] ?_ (ih ⟨D ++ ⟨#[c]⟩, ⟨#[c]⟩, nl c ln, sg.pop, l'⟩ (Nat.lt_succ_self _) ⟨hl1, by show (D ++ ⟨#[c]⟩ : Str).length + l'.length ≤ 999; rw [app_len1]; show D.length + 1 + _ ≤ _; omega, hk1, w2, hw2, by rw [app_cps, ← hD]; simp⟩)

    kernel_rfl!
end

section
variable {h₀ : Heap} {chg : List (Addr × Obj)} {vs : Array Value} {p : Setting} {Z : Calc h₀ chg p} {Y : Calc h₀ [(125, tableObj vs)] p} {t : Nat}
theorem ok_loopt {x : Option (Out × Obl)} (m : List Nat) (c : Code) (b : Bool) {V rest} (e : (fA x, fB x, fC x, oKind x, oFs x, oC x, view m (oN x)) = (gA x, gB x, true, 2, ⟨fsC (oFs x), fsK (oFs x), b⟩ :: (oFs x).drop 1, c, (V, rest))) (k : ∀ J tok, Z.C (⟨fsC (oFs x), fsK (oFs x), b⟩ :: (oFs x).drop 1) c (led J V rest) tok) : OK Z x := ok_code m e k
noncomputable def ouC2 (p : Setting) (Ci L : Addr) : Code := forC ((bodyOf (heapK p.params) 95)[3]?) (.ref Ci) (envOf (heapK p.params) 95 94 L)
noncomputable def gtL0 (a : LxA) (Ci L : Addr) : Bool × Addr × Obj := (true, L, frO [dE (Str.ofString "self") (.ref a.I2), dE (Str.ofString "token") (.str ⟨#[]⟩ 0), dE (Str.ofString "fiter") (.ref Ci)])
theorem get_ok {fs : List Fr} (N : Nice Y) (N3 : Nice3 Y) (hR : Y.Rm fs 410) (X : (heapK p.params).In h₀) (hB : BI h₀) (a : LxA) (ln : Int) (sg : Array Value) (l W R : List Nat) (hl : sg.toList.map vv = sgOf (34 :: l)) (hsz : l.length ≤ 990) (hw : lexT l = some (W, R)) {rest : List (Addr × Obj)} (J : Nat → JO)
  (hK : ∀ D sg tk J t', sg.toList.map vv = sgOf R → D.cps.toList = W → Y.B fs (rb tk (.ok (.ret (.str D 0)))) (led J (lxV p a (ln + l.count 10 - R.count 10) sg) rest) t')
  : Y.C fs (.call (.ref 95) ⟨[.ref a.I2], []⟩) (led J (lxV p a ln sg) rest) t := by
  have hB0 := hB
  obtain ⟨_, e0, cl, dd, es0, ep0, sl, rfl, hL⟩ := hB
  have X0 := X
  replace X := in_cons e0 X
  apply g_code
  apply run1 X sus0 [.s,.s,.a,.s,.s,.l 0,.l 0] rfl; intro b0 _
  refine enter_at (code := .func (bodyOf (heapK p.params) 95) (envOf (heapK p.params) 95 94 b0)) (V := (true, b0, frO [dE (Str.ofString "self") (.ref a.I2)]) :: lxV p a ln sg) (rest := rest) X0 [1, 1, 1, 1, 1, 1, 2, 2, 1, 2] hR ?_ ?_ rfl (fun J tok => ?_)
  kernel_rfl!
  kernel_rfl!
  apply g_code
  apply run0 X sus0 [.s,.s,.s,.l 0,.s,.s,.l 2,.s,.s,.s,.c,.l 2,.s,.s,.s,.l 2,.l 2,.s,.l 3,.s,.p,.s,.l 1,.l 1,.c,.l 1,.c,.l 1,.g,.l 1,.s,.p,.s,.s,.p,.s,.s,.s,.s,.s,.s,.l 0,.l 0,.s,.s,.s,.s,.s] rfl; intro _; apply ok_run; kernel_rfl!
  obtain ⟨bh, bk, bq⟩ := hL (Str.ofString "iter") (.builtin "iter") (by kernel_rfl!) (by kernel_rfl!)
  k_subL
  apply run2 X sus0 [.s,.l 0,.s,.s,.l 2,.s,.s,.s,.c,.l 2,.s,.s,.s,.s,.s,.s,.l 2,.l 2,.s,.l 3,.s,.s,.s,.s,.c,.s,.g,.a,.p,.p,.s,.s,.c,.g,.l 0,.s,.a,.p,.s,.s,.s,.s,.s,.l 2,.l 2,.s,.s,.s,.l 2,.s,.l 0,.l 0,.m,.c,.l 0,.g,.p,.l 0,.cE] rfl; intro d0 d1 _
  refine ok_loopf [1, 1, 1, 1, 1, 1, 1, 1, 2, 2, 1, 2] (ouC2 p d1 b0) (fs := fs) (V := [(true, d1, ciO d0), (true, d0, meO a.I2), gtL0 a d1 b0] ++ lxV p a ln sg) (rest := rest) ?_ (fun J tok => ?_)
  kernel_rfl!
  apply g_code
  apply run0 X sus0 [.s,.l 0,.c,.l 0,.g,.l 0,.l 0,.l 1,.s,.c,.l 1,.gE] rfl; intro _
  refine ok_callt [1, 1, 1, 1, 1, 1, 1, 1, 2, 2, 1, 2] (f := .ref 88) (args := [.ref a.I2]) (b := true) (V := [(true, d1, ciO d0), (true, d0, meO a.I2), gtL0 a d1 b0] ++ lxV p a ln sg) (rest := rest) ?_ (fun tks J tok => c_swap _ _ (read_ok N N3 (rm_of 3 hR rfl ?_) X0 hB0 a ln sg (34 :: l) hl (by simp only [List.length_cons]; omega) _ (fun h => nomatch h) (fun c l' h tk J' t' => ?_))) (by intro h; cases h)
  kernel_rfl!
  kernel_rfl!
  obtain ⟨rfl, rfl⟩ := List.cons.inj h
  have hl1 := pop_sg hl
  refine b_swap _ _ fun J => gb_cons ?_
  apply run0 X sus0 [.l 0,.l 0,.m,.c,.g,.p,.p,.s,.s,.s,.s,.l 2,.l 2,.s,.s,.s,.l 2,.s,.l 2,.s,.s,.l 4,.s,.s,.s,.c,.l 4,.s,.s,.s,.l 4,.l 4,.s,.l 5,.s,.p,.s,.c,.g,.p,.s,.s,.l 2,.s,.s,.m,.c,.g,.p,.s,.s,.l 2,.s,.l 0,.l 0,.m,.c,.l 0,.g,.p,.l 0,.cE] rfl; intro _

  refine ok_loopt [1, 1, 1, 1, 1, 1, 1, 1, 2, 2, 1, 2] (inC p d1 b0) false (V := gtV p a d1 d0 b0 ⟨⟨#[]⟩, ⟨#[34]⟩, nl 34 ln, sg.pop, l⟩) (rest := rest) ?_ (gt_loop N N3 (rm_of 2 hR ?_ ?_) X0 hB0 a d1 d0 b0 W R (ln + l.count 10) ?_ _ ⟨hl1, by show 0 + l.length ≤ 999; omega, rfl, W, hw, rfl⟩)

  kernel_rfl!
  kernel_rfl!
  kernel_rfl!
  intro D C sg' tk J tok hsg hD
  replace hK := hK D sg'
  apply run0 X sus0 [.p,.pE] rfl; intro _
  refine ok_ret [0, 0, 0, 1, 1, 1, 1, 1, 2, 2, 1, 2] ?_ (fun tk J t' => hK tk J t' hsg hD)

  kernel_rfl!
end

section
variable {prog : Program} {w : World} {A : Around} {R : Result → Shared → Prop} {h₀ : Heap} {d : Drawn} {os : OsState} {vs : Array Value} {hh : A.handled = none} {t : Nat} {p : Setting} {chg : List (Addr × Obj)}
theorem build_perm {V V' : VL} (h : V.Perm V') : ∀ J : Nat → JO, ∃ J' : Nat → JO, (build J V).Perm (build J' V') := by
  induction h with
  | nil => exact fun J => ⟨J, .nil⟩
  | cons x _ ih =>
    intro J
    obtain ⟨J', h⟩ := ih (fun n => J (n + 1))
    obtain ⟨b, a, o⟩ := x
    exact ⟨sh (J 0) J', h.cons _⟩
  | swap x y l =>
    intro J
    obtain ⟨b, a, o⟩ := x
    obtain ⟨b', a', o'⟩ := y
    exact ⟨sh (J 1) (sh (J 0) (fun n => J (n + 1 + 1))), List.Perm.swap _ _ _⟩
  | trans _ _ h1 h2 =>
    intro J
    obtain ⟨J1, h1⟩ := h1 J
    obtain ⟨J2, h2⟩ := h2 J1
    exact ⟨J2, h1.trans h2⟩
theorem c_permV {Z : Calc h₀ chg p} {fs c tok J rest} {V V' : VL} (h : V.Perm V') (x : ∀ J, Z.C fs c (led J V' rest) tok) : Z.C fs c (led J V rest) tok := by
  obtain ⟨J', h⟩ := build_perm h J
  exact gc_perm (h.append_right rest) (x J')
theorem lexT_len : ∀ (l : List Nat) {W U : List Nat}, lexT l = some (W, U) → U.length ≤ l.length
  | [], _, _, h => by cases h
  | [c], W, U, h => by
    rw [lexT] at h
    split at h
    · injection h with h; rw [← (Prod.mk.inj h).2]; exact Nat.zero_le _
    · cases h
  | c :: c2 :: l, W, U, h => by
    rw [lexT] at h
    split at h
    · injection h with h; rw [← (Prod.mk.inj h).2]; exact Nat.le_succ _
    · split at h
      · cases e : lexT l with
        | none => rw [e] at h; cases h
        | some r =>
          obtain ⟨r1, r2⟩ := r
          rw [e] at h
          injection h with h
          have := lexT_len l e
          rw [← (Prod.mk.inj h).2]
          simp only [List.length_cons]
          omega
      · cases e : lexT (c2 :: l) with
        | none => rw [e] at h; cases h
        | some r =>
          obtain ⟨r1, r2⟩ := r
          rw [e] at h
          injection h with h
          have := lexT_len (c2 :: l) e
          rw [← (Prod.mk.inj h).2]
          simp only [List.length_cons] at this ⊢
          omega
theorem range_get {α : Type} : ∀ r : List α, (List.range r.length).filterMap (fun k => r[k]?) = r
  | [] => rfl
  | a :: r => by
    have h := range_get r
    rw [List.length_cons, List.range_succ_eq_map, List.filterMap_cons, show (a :: r)[0]? = some a from rfl]
    dsimp only
    rw [List.filterMap_map]
    congr 1
theorem fm_congr {α β : Type} {f g : α → Option β} : ∀ {l : List α}, (∀ x ∈ l, f x = g x) → l.filterMap f = l.filterMap g
  | [], _ => rfl
  | a :: l, h => by rw [List.filterMap_cons, List.filterMap_cons, h a (.head _), fm_congr fun x hx => h x (.tail _ hx)]
theorem pick_rev (es : Array Value) : (slicePick es none none (some (-1))).toList = es.toList.reverse := by
  unfold slicePick sliceBounds sliceRange
  simp only [Option.getD_some, show ¬ ((-1 : Int) > 0) by decide, if_false]
  have hc : (if (es.size : Int) - 1 > -1 then ((es.size : Int) - 1 - -1 - -1 - 1) / (- -1) else 0).toNat = es.toList.reverse.length := by
    rw [List.length_reverse, Array.length_toList]
    split
    · rw [show (- -1 : Int) = 1 by decide, Int.ediv_one]; omega
    · omega
  rw [hc, List.filterMap_map]
  conv => rhs; rw [← range_get es.toList.reverse]
  apply fm_congr
  intro k hk
  rw [List.mem_range, List.length_reverse, Array.length_toList] at hk
  show es[((es.size : Int) - 1 + -1 * (k : Int)).toNat]? = _
  rw [List.getElem?_reverse (by rw [Array.length_toList]; exact hk), Array.getElem?_toList, Array.length_toList]
  congr 1
  omega
noncomputable def envW (p : Setting) (L C : Addr) : Env := { envOf (heapK p.params) 130 129 L with cells := [(Str.ofString "signs", C)] }
noncomputable def wdC (p : Setting) (n : Nat) (L C : Addr) : Code := .func ((bodyOf (heapK p.params) 130).drop n) (envW p L C)
noncomputable def wdT (p : Setting) (n : Nat) (L C : Addr) : Sem PySem.Fin := oT (ex p [] [] [] [.s] [] (wdC p n L C) (den (wdC p n L C)) [] 0 [])
noncomputable def cellN0 : Obj := ⟨.type SZ.s15660640913423913556x4, none, .cell none, #[]⟩
theorem word_ok {g : Array GenState} {fs : List Fr} (hR : (wpC prog w A R h₀ d os hh [(125, tableObj vs)] g).Rm fs 370) (X : (heapK w.params).In h₀) (hB : BI h₀) {own : List (Addr × Obj)} (hTB : TB vs own) (hM : ∃ sl, h₀.get? 4 = some ⟨.type "module", some 0, .plain, sl⟩) (x : Str) (tk : Tok) (hx : ∀ c ∈ x.cps.toList, Sg c) (hz : x.cps.size ≤ 16777216) (l W U : List Nat) (hxl : x.cps.toList = 34 :: l) (hzl : l.length ≤ 990) (hw : lexT l = some (W, U)) {rest : List (Addr × Obj)}
  (hK : ∀ cc ca ct cl T Dw J t', Dw.cps.toList = W → (wpC prog w A R h₀ d os hh [(125, tableObj (tb1 cc))] g).B fs (.ok (.ret (.ref T))) (led J [(true, T, tup3 (.str Dw 0) (.int (1 + l.count 10 - U.count 10) 0) (.int (Int.ofNat U.length) 0))] ((cc, codO ca ct cl) :: rest)) t')
  : (wpC prog w A R h₀ d os hh [(125, tableObj vs)] g).C fs (.call (.ref 130) ⟨[.str x tk], []⟩) (own ++ rest) t := by
  have N := nice_wp prog w A R h₀ d os hh [(125, tableObj vs)] g
  obtain ⟨sl4, e4⟩ := hM
  have hB0 := hB
  obtain ⟨_, e0, cl, dd, es0, ep0, sl, rfl, hL⟩ := hB
  have X0 := X
  replace X := in_cons e0 X
  apply g_code
  apply run2 X sus0 [.s,.s,.a,.a,.s,.s,.l 1,.l 1] rfl; intro L0 L1 _
  refine enter_at (code := wdC ⟨prog, w.params⟩ 0 L0 L1) (V := [(true, L1, cellN0), (true, L0, frO [dE (Str.ofString "text") (.str x 0)])]) (rest := own ++ rest) X0 [1, 1] hR ?_ ?_ rfl (fun J tok => ?_)
  kernel_rfl!
  kernel_rfl!
  apply g_code
  apply run0 X sus0 [.s,.s,.s,.s,.s] rfl; intro _; apply ok_run; kernel_rfl!
  obtain ⟨bh, bk, bq⟩ := hL (Str.ofString "list") (.type "list") (by kernel_rfl!) (by kernel_rfl!)
  k_subL
  apply run0 X sus0 [.s,.l 1,.s] rfl; intro _; apply ok_run; kernel_rfl!
  have N3 := nice3_wp prog w A R h₀ d os hh [(125, tableObj vs)] g
  refine list_str N3 (x := x) hz ?_ ?_
  kernel_rfl!
  intro D es n tok he
  apply run1 X sus0 [.s,.s,.s,.c,.g,.s,.p,.a] rfl; intro e0 _; apply ok_run; kernel_rfl!
  have S1 := sus1 (su_lslice N3 (D := D) (b := e0) (L := es.toList.map vv) (lo := none) (hi := none) (st := some (-1)) (by decide) (by rw [he]; simpa [chrs] using hz)) sus0
  apply run1 X S1 [.s,.l 1,.l 1,.l 1,.u 1 [1,0] 0,.s,.c,.p,.s,.s,.l 3,.l 3,.s,.s,.s,.s,.s,.s,.s,.cE] rfl; intro f0 _
  refine ok_call1 [2, 0, 0, 1, 1] (f := .ref 105) (args := [optV none]) (fs := fs) (V := [(false, f0, listE (slicePick es none none (some (-1))) 0), (true, L1, cellO (.ref f0)), (true, L0, frO [dE (Str.ofString "text") (.str x 0)])]) (rest := own ++ rest) ?_ (fun tks J tok => ?_) (by intro h; cases h)
  kernel_rfl!
  clear S1
  have hsg : (slicePick es none none (some (-1))).toList.map vv = sgOf (34 :: l) := by rw [pick_rev, List.map_reverse, he, sgOf, ← hxl, chrs, List.map_map]; rfl
  generalize slicePick es none none (some (-1)) = sg at hsg
  clear he
  refine newlex_ok (rm_of 1 hR rfl ?_) X0 hB0 none ?_
  kernel_rfl!
  intro I1 D1 P1 J1 t1
  refine gb_cons ?_
  apply run1 X sus0 [.s,.s,.s,.s,.s,.l 5,.l 5,.s,.s,.a,.s] rfl; intro h0 _
  refine ok_view [1, 1, 1, 1, 2, 1, 1] (V := [(true, h0, tup1 (.ref L1)), (true, P1, lstO []), (true, I1, insO D1), (true, D1, lexO 1 .none P1), (false, f0, listE sg 0), (true, L1, cellO (.ref f0)), (true, L0, frO [dE (Str.ofString "text") (.str x 0), dE (Str.ofString "stream") (.ref I1)])]) (rest := own ++ rest) ?_ (fun J tok => ?_)
  kernel_rfl!
  refine tb_case hTB ?_ (fun key => ?_) ?_
  kernel_rfl!
  · clear N N3 hTB
    apply run6 X sus0 [.s,.s,.s,.s,.a,.a,.s,.a,.a,.a,.s,.s,.a,.lc 0] rfl; intro i0 i1 i2 i3 i4 i5 _
    refine ok_run ?_ ?_
    kernel_rfl!
    refine grow_chg (vs' := tb1 i5) (more := tb1 i5) rfl ?_ ?_
    kernel_rfl!
    apply run0 X sus0 [.lc 0] rfl; intro _
    refine ok_hd 5 (cc := i5) ?_ (fun a tq l tok => key i5 a tq l tok)
    kernel_rfl!
  clear hTB
  intro cc ca ct cl tok
  replace X := in_cons e4 X
  apply run1 X sus0 [.s,.s,.s,.a,.s,.s,.s,.s,.l 7,.l 7,.s,.s,.s,.l 7,.s,.l 7,.s,.s,.l 3,.s,.s,.s,.c,.l 3,.s,.g,.l 3,.s,.l 3,.s,.s,.s,.l 3,.s,.s,.s,.l 4,.l 4,.l 4,.p,.s,.s,.s,.s,.s,.l 7,.s,.s,.s,.cE] rfl; intro i0 _
  refine ok_call1 [2, 0, 1, 1, 1, 2, 1, 1] (f := .ref 105) (args := [optV (some I1)]) (fs := fs) (V := [(false, i0, lpO ⟨prog, w.params⟩ L1 h0 cc), (true, P1, lstO []), (true, I1, insO D1), (true, D1, strmO P1 i0), (false, f0, listE sg 0), (true, L1, cellO (.ref f0)), (true, L0, frO [dE (Str.ofString "text") (.str x 0), dE (Str.ofString "stream") (.ref I1), dE (Str.ofString "_law_piece") (.ref i0)])]) (rest := (cc, codO ca ct cl) :: rest) ?_ (fun tks J tok => ?_) (by intro h; cases h)
  kernel_rfl!
  have N := nice_wp prog w A R h₀ d os hh [(125, tableObj (tb1 cc))] g
  have N3 := nice3_wp prog w A R h₀ d os hh [(125, tableObj (tb1 cc))] g
  refine newlex_ok (Y := wpC prog w A R h₀ d os hh [(125, tableObj (tb1 cc))] g) (rm_of 1 hR rfl ?_) X0 hB0 (some I1) ?_
  kernel_rfl!
  intro I2 D2 P2 J2 t2
  refine gb_cons ?_
  apply run0 X sus0 [.s,.s,.s,.s,.s,.l 9,.l 9,.s,.s,.s,.l 9,.s,.l 1,.s,.s,.s,.l 1,.s,.s,.s,.l 1,.s,.s,.s,.s,.l 1,.l 2,.s,.s,.s,.cE] rfl; intro _
  refine ok_call1 [1, 1, 1, 2, 0, 1, 1, 2, 1, 1, 2] (f := .ref 95) (args := [.ref I2]) (fs := fs) (V := [(true, P2, lstO []), (true, I2, insO D2), (true, D2, lexO 1 (.ref I1) P2), (false, i0, lpO ⟨prog, w.params⟩ L1 h0 cc), (true, I1, insO D1), (true, D1, strmO P1 i0), (false, f0, listE sg 0), (true, L1, cellO (.ref f0)), (true, L0, frO [dE (Str.ofString "text") (.str x 0), dE (Str.ofString "stream") (.ref I1), dE (Str.ofString "_law_piece") (.ref i0), dE (Str.ofString "lexer") (.ref I2)]), (false, cc, codO ca ct cl)]) (rest := rest) ?_ (fun tks J tok => ?_) (by intro h; cases h)
  kernel_rfl!
  refine c_permV (V' := [(true, L0, frO [dE (Str.ofString "text") (.str x 0), dE (Str.ofString "stream") (.ref I1), dE (Str.ofString "_law_piece") (.ref i0), dE (Str.ofString "lexer") (.ref I2)])] ++ lxV ⟨prog, w.params⟩ ⟨I2, D2, P2, I1, D1, P1, i0, h0, cc, f0, L1, ca, ct, cl⟩ 1 sg) ((List.perm_middle (l₁ := [_, _, _, _, _, _, _, _])).trans (List.Perm.cons _ (List.Perm.cons _ (List.Perm.cons _ (List.Perm.cons _ (List.perm_middle (l₁ := [_, _])).symm))))) (fun J => c_swap _ _ (get_ok N N3 (rm_of 1 hR rfl ?_) X0 hB0 ⟨I2, D2, P2, I1, D1, P1, i0, h0, cc, f0, L1, ca, ct, cl⟩ 1 sg l W U hsg hzl hw _ (fun Dw sg' tk J' t' hsg' hD => ?_)))
  kernel_rfl!
  refine b_swap _ _ fun J => gb_cons ?_
  apply run0 X sus0 [.s,.s,.s,.s,.s,.l 0,.l 0,.s] rfl; intro _
  refine ok_GV [1, 0, 1, 1, 0, 0, 0, 2, 1, 2] (fs := fs) (c := wdC ⟨prog, w.params⟩ 0 L0 L1) (t := wdT ⟨prog, w.params⟩ 6 L0 L1) (V := [(true, L0, frO [dE (Str.ofString "text") (.str x 0), dE (Str.ofString "stream") (.ref I1), dE (Str.ofString "_law_piece") (.ref i0), dE (Str.ofString "lexer") (.ref I2), dE (Str.ofString "word") (.str Dw 0)]), (true, I2, insO D2), (true, D2, lexO (1 + l.count 10 - U.count 10) (.ref I1) P2), (false, f0, listE sg' 0), (true, L1, cellO (.ref f0)), (false, cc, codO ca ct cl)]) (rest := rest) ?_ ?_
  kernel_rfl!
  intro J tok
  clear N N3
  have S2 := sus1 (su_llenC (Z := wpC prog w A R h₀ d os hh [(125, tableObj (tb1 cc))] g) X (D := f0) (L := sg'.toList.map vv) (m := U.length) (by rw [hsg', sgOf, List.length_reverse, List.length_map]) (by have := lexT_len l hw; omega)) sus0
  apply run0 X S2 [.s,.s,.s,.l 0,.s,.l 0,.s,.s,.l 1,.s,.s,.s,.c,.l 1,.s,.s,.s,.l 1,.l 1,.s,.l 2,.s,.p,.s,.s,.s] rfl; intro _; apply ok_run; kernel_rfl!
  obtain ⟨lh, lk, lq⟩ := hL (Str.ofString "len") (.builtin "len") (by kernel_rfl!) (by kernel_rfl!)
  k_subL
  apply run3 X S2 [.s,.l 4,.s,.u 2 [3] 0,.s,.a,.pE] rfl; intro m0 m1 m2 _
  refine ok_ret [1, 0, 0, 0, 0, 0] (r := .ok (.ret (.ref m2))) (V := [(true, m2, tup3 (.str Dw 0) (.int (1 + l.count 10 - U.count 10) 0) (.int (Int.ofNat U.length) 0))]) (rest := (cc, codO ca ct cl) :: rest) ?_ (fun tk J t' => hK cc ca ct cl m2 Dw J t' hD)
  kernel_rfl!
end

section
variable {prog : Program} {w : World} {A : Around} {R : Result → Shared → Prop} {h₀ : Heap} {d : Drawn} {os : OsState} {vs : Array Value} {hh : A.handled = none} {t : Nat} {p : Setting} {chg : List (Addr × Obj)}
noncomputable def cntT (m s b : Nat) : Obj := tup3 (.int (Int.ofNat m) 0) (.int (Int.ofNat s) 0) (.int (Int.ofNat b) 0)
noncomputable def tkE0 (p : Setting) : PySem.Expr := vlOf ((bodyOf (heapK p.params) 154)[0]?)
noncomputable def tkC0 (p : Setting) (L En Ac N : Addr) : Code := compL (tkE0 p) En Ac (compEnv (heapK p.params) 154 153 L N (tkE0 p))
noncomputable def tkS0 (p : Setting) (L En Ac N : Addr) : Code := compS (tkE0 p) En Ac (compEnv (heapK p.params) 154 153 L N (tkE0 p))
structure TkS where
  l : List (Nat × Str)
  es : Array Value
  last : Option (Nat × Str)
structure TkA where
  x : Str
  (a Ac NN L C : Addr)
  (n m s b : Nat)
noncomputable def tkW (q : TkA) (p : TkS) : VL := [(true, q.NN, frC (plE p.last)), (false, q.Ac, listE p.es 0), (true, q.L, frO [dE (Str.ofString "left") (.str q.x 0), dE (Str.ofString "counts") (.ref q.C)]), (true, q.C, cntT q.m q.s q.b)]
noncomputable def tkV (q : TkA) (p : TkS) : VL := (true, q.a, genO q.n) :: tkW q p
theorem tk_loop {fs : List Fr} {cB : Code} {kB : Result → Sem PySem.Fin} (hR : ∀ g, (wpC prog w A R h₀ d os hh [(125, tableObj vs)] g).Rm (⟨cB, kB, true⟩ :: fs) 460) (X : (heapK w.params).In h₀) (hB : BI h₀) {rest : List (Addr × Obj)} (q : TkA) (us : List Str) (hz : us.length ≤ 1000) (hne : 0 < us.length)
   (hend : ∀ g' es i0 x0 own' J tok, Bare g' → es.toList.map vv = us.map strV → (wpC prog w A R h₀ d os hh [(125, tableObj vs)] g').G fs cB (kB (.ok .next)) (led J (tkW q ⟨[], es, some (i0, x0)⟩) (own' ++ rest)) tok)
   (p : TkS) (hq : ∃ r, p.es.toList.map vv = r.map strV ∧ r ++ p.l.map (·.2) = us ∧ (p.last = none → r = [])) : ∀ g st own, Bare g → g[q.n]? = some st → GenOK prog w h₀ d os [(125, tableObj vs)] p.l st own → ∀ J tok, (wpC prog w A R h₀ d os hh [(125, tableObj vs)] g).C (⟨cB, kB, true⟩ :: fs) (tkC0 ⟨prog, w.params⟩ q.L q.a q.Ac q.NN) (led J (tkV q p) (own ++ rest)) tok := by
  have X0 := X
  obtain ⟨_, e0, cl, dd, es, ep, sl, rfl, hL⟩ := hB
  replace X := in_cons e0 X
  refine gw_loop (tkV q) (fun p => p.l) (fun p => ∃ r, p.es.toList.map vv = r.map strV ∧ r ++ p.l.map (·.2) = us ∧ (p.last = none → r = [])) q.n ?_ p hq
  obtain ⟨x, a, Ac, NN, L, C, n, m, s, b⟩ := q
  rintro ⟨l, es, last⟩ ⟨r, he, hf, hnl⟩ g st own hb hg hG ih J tok
  dsimp only at he hf hG hnl
  have N := nice_wp prog w A R h₀ d os hh [(125, tableObj vs)] g
  apply g_code
  apply run0 X sus0 [.s,.l 0,.cE] rfl; intro _
  refine ok_codeN (fs := ⟨tkC0 ⟨prog, w.params⟩ L a Ac NN, nextK ⟨prog, w.params⟩ (tkC0 ⟨prog, w.params⟩ L a Ac NN) a (genO 0), true⟩ :: ⟨cB, kB, true⟩ :: fs) (c := .call (.builtin "generator.__next__") ⟨[.ref a], []⟩) (news := led J (tkV ⟨x, a, Ac, NN, L, C, n, m, s, b⟩ ⟨l, es, last⟩) (own ++ rest)) ?_ (fun tok => gc_swap (gen_next X0 (rm_of 1 (hR g) rfl ?_) a n J hg hG ?_ ?_))
  kernel_rfl!
  kernel_rfl!
  · intro hl g' J' own' e e' tok' hb'
    subst hl
    rcases last with _ | ⟨i0, x0⟩
    · exact absurd hne (by rw [← hf, hnl rfl]; exact Nat.lt_irrefl 0)
    refine gb_cons (gen_swap2 ?_)
    apply run0 X sus0 [.l 0,.p] rfl; intro _
    refine ok_drop 2 (t := kB (.ok .next)) (c := cB) (fs := fs) (news := led (fun i => J (i + 1)) (tkW ⟨x, a, Ac, NN, L, C, n, m, s, b⟩ ⟨[], es, some (i0, x0)⟩) (own' ++ rest)) ?_ (fun tok => hend g' es i0 x0 own' _ tok (hb' hb) (by rw [he, ← hf, List.map_nil, List.append_nil]))
    kernel_rfl!
  · intro i xs l' hl g' st' own' a' J' tok' hg' hb' hG'
    subst hl
    replace ih := fun es hq J tok => ih ⟨l', es, some (i, xs)⟩ (Nat.lt_succ_self _) hq g' st' own' (hb' hb) hg' hG' J tok
    clear hend hG hG' hg hg' hb hb' N
    have hn : es.toList.length < us.length := by
      have := congrArg List.length he
      rw [List.length_map, List.length_map] at this
      rw [this, ← hf]
      simp
    have N := nice_wp prog w A R h₀ d os hh [(125, tableObj vs)] g'
    refine gb_cons (gen_swap2 ?_)
    have S1 := sus1 (su_append (nice3_wp prog w A R h₀ d os hh [(125, tableObj vs)] g') (D := Ac) (L := es.toList.map vv) (v := strV xs) (by rw [List.length_map]; omega)) sus0
    rcases last with _ | ⟨i0, x0⟩
    all_goals
      apply run4 X S1 [.l 1,.s,.l 0,.l 0,.l 0,.m,.c,.l 0,.g,.a,.p,.l 0,.l 0,.c,.l 0,.g,.l 0,.l 0,.l 1,.l 0,.l 0,.p,.l 0,.c,.l 0,.g,.l 0,.l 0,.l 1,.l 0,.l 0,.p,.l 0,.c,.l 0,.g,.l 0,.l 0,.l 1,.s,.l 0,.l 0,.a,.a,.s,.p,.l 0,.s,.s,.s,.s,.l 5,.l 5,.s,.s,.s,.s,.s,.l 5,.l 5,.s,.s,.l 5,.u 1 [6] 0,.gE] rfl; intro d0 d1 d2 d3 _
      refine ok_code [0, 0, 0, 0, 1, 1, 2, 1, 1] ?_ (ih (es.push (.str xs d3)) ⟨r ++ [xs], by rw [Array.toList_push, List.map_append, he, List.map_append]; rfl, by rw [← hf, List.append_assoc]; rfl, fun h => nomatch h⟩)
      kernel_rfl!
end

section
variable {prog : Program} {w : World} {A : Around} {R : Result → Shared → Prop} {h₀ : Heap} {d : Drawn} {os : OsState} {vs : Array Value} {hh : A.handled = none} {t : Nat} {p : Setting} {chg : List (Addr × Obj)} {Y : Calc h₀ [(125, tableObj vs)] p}
theorem tk_start {K : Frag} (X : K.In h₀) {F : List Fr} (q : TkA) {J : Nat → JO} {rest : List (Addr × Obj)} (hl : ∀ tok, Y.C F (tkC0 p q.L q.a q.Ac q.NN) (led J (tkV q ⟨[], #[], none⟩) rest) tok) (tok : Nat) : Y.C F (tkS0 p q.L q.a q.Ac q.NN) (led J (tkV q ⟨[], #[], none⟩) rest) tok := by
  obtain ⟨x, a, Ac, NN, L, C, n, m, s, b⟩ := q
  apply g_code
  cases hb : p.params.followText "comprehension-iter-twice"
  all_goals
    apply run0 X sus0 [.s] rfl; intro _; apply ok_run; kernel_rfl!
    k_subL
    first
      | (apply run0 X sus0 [.s,.s,.l 0,.l 0,.m,.c,.l 0,.g,.p,.l 0,.gE] rfl; intro _; refine ok_codeN ?_ hl; kernel_rfl!)
      | (apply run0 X sus0 [.gE] rfl; intro _; refine ok_codeN ?_ hl; kernel_rfl!)
noncomputable def tkF (p : Setting) (n : Nat) (L : Addr) : Code := .func ((bodyOf (heapK p.params) 154).drop n) (envOf (heapK p.params) 154 153 L)
noncomputable def tkT (p : Setting) (n : Nat) (L : Addr) : Sem PySem.Fin := oT (ex p [] [] [] [.s] [] (tkF p n L) (den (tkF p n L)) [] 0 [])
theorem tk_units {g : Array GenState} {fs : List Fr} (hR : (wpC prog w A R h₀ d os hh [(125, tableObj vs)] g).Rm fs 370) (X : (heapK w.params).In h₀) (hB : BI h₀) (x : Str) (hx : ∀ c ∈ x.cps.toList, Sg c) (hg0 : Bare g) (us : List Str) (hz : us.length ≤ 1000) (hne : 0 < us.length) (hus : (esc x.cps.toList 0 false).map (·.2) = us) (tk : Tok) (C : Addr) (m s b : Nat) {rest : List (Addr × Obj)} {jC}
  (hK : ∀ g' L D es J tok, Bare g' → es.toList.map vv = us.map strV → (wpC prog w A R h₀ d os hh [(125, tableObj vs)] g').G fs (tkF ⟨prog, w.params⟩ 0 L) (tkT ⟨prog, w.params⟩ 1 L) (led J [(false, D, listE es 0), (true, L, frO [dE (Str.ofString "left") (.str x 0), dE (Str.ofString "counts") (.ref C), dE (Str.ofString "units") (.ref D)]), (true, C, cntT m s b)] rest) tok)
  : (wpC prog w A R h₀ d os hh [(125, tableObj vs)] g).C fs (.call (.ref 154) ⟨[.str x tk, .ref C], []⟩) ((C, bO jC true (cntT m s b)) :: rest) t := by
  have N := nice_wp prog w A R h₀ d os hh [(125, tableObj vs)] g
  have hB0 := hB
  obtain ⟨_, e0, cl, dd, es0, ep0, sl, rfl, hL⟩ := hB
  have X0 := X
  replace X := in_cons e0 X
  apply g_code
  apply run1 X sus0 [.s,.s,.a,.s,.s,.l 0,.l 0,.s,.s,.l 0,.l 0] rfl; intro L0 _
  refine enter_at (code := .func (bodyOf (heapK w.params) 154) (envOf (heapK w.params) 154 153 L0)) (V := [(true, L0, frO [dE (Str.ofString "left") (.str x 0), dE (Str.ofString "counts") (.ref C)]), (true, C, cntT m s b)]) (rest := rest) X0 [1, 1] hR ?_ ?_ rfl (fun J tok => ?_)
  kernel_rfl!
  kernel_rfl!
  apply g_code
  apply run0 X sus0 [.s,.s,.s,.s,.s,.l 0,.s,.s,.cE] rfl; intro _
  refine ok_call1 [1, 1] (f := .ref 28) (args := [.str x 0]) (fs := fs) (V := [(true, L0, frO [dE (Str.ofString "left") (.str x 0), dE (Str.ofString "counts") (.ref C)]), (true, C, cntT m s b)]) (rest := rest) ?_ (fun tks J tok => ?_) (by intro h; cases h)
  kernel_rfl!
  refine gen_make (rm_of 1 hR rfl ?_) X0 hB0 x _ hx ?_
  kernel_rfl!
  intro a c₀ own' J' t' hG
  refine gb_cons (gen_swap ?_)
  clear N
  apply run2 X sus0 [.s,.s,.l 0,.l 0,.m,.c,.l 0,.g,.p,.l 0,.s,.a,.a,.cE] rfl; intro c0 c1 _
  refine ok_loopg [1, 2, 1, 1, 1] (tkS0 ⟨prog, w.params⟩ L0 a c0 c1) true (fs := fs) (V := [(true, c1, frC []), (false, c0, listE #[] 0), (true, a, genO g.size), (true, L0, frO [dE (Str.ofString "left") (.str x 0), dE (Str.ofString "counts") (.ref C)]), (true, C, cntT m s b)]) (rest := own' ++ rest) ?_ (fun J tok => ?_)
  kernel_rfl!
  refine c_permV (V' := tkV ⟨x, a, c0, c1, L0, C, g.size, m, s, b⟩ ⟨[], #[], none⟩) (List.perm_middle (l₁ := [_, _])) (fun J => tk_start X ⟨x, a, c0, c1, L0, C, g.size, m, s, b⟩ (fun tok => tk_loop (fun g => rm_of 1 hR rfl ?_) X0 hB0 ⟨x, a, c0, c1, L0, C, g.size, m, s, b⟩ us hz hne ?_ ⟨esc x.cps.toList 0 false, #[], none⟩ ⟨[], rfl, hus, fun _ => rfl⟩ _ (.fresh c₀) own' (bare_push hg0) (by simp) hG J tok) tok)
  kernel_rfl!
  intro g' es i0 x0 own'' J tok hb he
  apply run0 X sus0 [.s,.s,.s,.s,.s,.l 2,.l 2,.s,.l 0,.s,.l 0,.l 0,.s,.l 0,.s,.l 0,.l 0,.s] rfl; intro _
  refine ok_GV [0, 2, 1, 1] (fs := fs) (c := tkF ⟨prog, w.params⟩ 0 L0) (t := tkT ⟨prog, w.params⟩ 1 L0) (V := [(false, c0, listE es 0), (true, L0, frO [dE (Str.ofString "left") (.str x 0), dE (Str.ofString "counts") (.ref C), dE (Str.ofString "units") (.ref c0)]), (true, C, cntT m s b)]) (rest := own'' ++ rest) ?_ (fun J tok => ?_)
  kernel_rfl!
  exact g_sub ((List.sublist_append_right own'' rest).append_left _) (hK g' L0 c0 es J tok hb he)
end

section
variable {prog : Program} {w : World} {A : Around} {R : Result → Shared → Prop} {h₀ : Heap} {d : Drawn} {os : OsState} {vs : Array Value} {hh : A.handled = none} {t : Nat} {p : Setting} {chg : List (Addr × Obj)} {Y : Calc h₀ [(125, tableObj vs)] p} {Z : Calc h₀ chg p}
def isS (c : Nat) : Value → Bool | .str a _ => a.cps.toList == [c] | _ => false
theorem eq_sign {es : Array Value} {us : List Str} (he : es.toList.map vv = us.map strV) (c : Nat) : ∀ y u, vv y ∈ es.toList.map vv → MeetsSeq.EqGives y (bv u (.str ⟨#[c]⟩ 0)) (isS c (vv y)) := by
  intro y u hy
  rw [he] at hy
  obtain ⟨n, _, hn⟩ := List.mem_map.mp hy
  have : y = .str n (tkOf y) := by rw [← bv_vv y, ← hn]; rfl
  rw [this]
  have h := SeqRoads2.EqGives.str n ⟨#[c]⟩ (tkOf y) u
  exact h
theorem su_countS (N : Nice3 Z) {D : Addr} {es : Array Value} {us : List Str} (he : es.toList.map vv = us.map strV) (c b : Nat) (hb : (us.map fun y => y.cps.toList).count [c] = b) : Su Z (smR "list.count" [.ref D, .str ⟨#[c]⟩ 0] [(D, lstO (es.toList.map vv))] (.int (Int.ofNat b) 0)) := by
  have h := su_lcount N (D := D) (es := es) (x := .str ⟨#[c]⟩ 0) (isS c) (eq_sign he c)
  have e : (es.toList.map vv).countP (isS c) = b := by
    rw [he, ← hb, List.count, List.countP_map, List.countP_map]
    rfl
  rw [e] at h
  exact h
theorem su_cntO (N : Nice Z) {x : Str} {c m : Nat} (hm : cntO x ⟨#[c]⟩ = (m : Nat)) : Su Z (smT "str.count" [.str x 0, .str ⟨#[c]⟩ 0] (.int (Int.ofNat m) 0)) := by
  have h := su_strcount N (x := x) (y := ⟨#[c]⟩)
  unfold cntO at hm
  rw [hm] at h
  exact h
structure TkP (x : Str) (us : List Str) (m s b : Nat) : Prop where
  hx : ∀ c ∈ x.cps.toList, Sg c
  hus : (esc x.cps.toList 0 false).map (·.2) = us
  hj : Txt.join ⟨#[]⟩ us = x
  hz : us.length ≤ 1000
  hxz : x.length ≤ 1000
  hel : (esc x.cps.toList 0 false).length ≤ 1001
  hne : 0 < us.length
  hl : ∀ y ∈ us, y.length ≤ 2
  hm : cntO x ⟨#[34]⟩ = (m : Nat)
  hs : cntO x ⟨#[92]⟩ = (s : Nat)
  hb : (us.map fun y => y.cps.toList).count [34] = b
noncomputable def tkG (C : Addr) (x : Str) (D : Addr) (es : List DictEntry) : Obj := frO (dE (Str.ofString "left") (.str x 0) :: dE (Str.ofString "counts") (.ref C) :: dE (Str.ofString "units") (.ref D) :: es)
noncomputable def tupV (l : List Value) : Obj := ⟨.type "tuple", none, .seq ⟨l⟩ 0, #[]⟩
theorem vO_tup {o : Obj} {l : List Value} (h : vO o = tupV l) : ∃ es n, o = ⟨.type "tuple", none, .seq es n, #[]⟩ ∧ es.toList.map vv = l := by
  obtain ⟨c, d, x, s⟩ := o
  cases x with
  | seq es n =>
    unfold tupV at h
    replace h : (⟨c, d, .seq ⟨es.toList.map vv⟩ 0, s⟩ : Obj) = _ := h
    injection h with h1 h2 h3 h4
    injection h3 with h5
    injection h5 with h6
    subst h1 h2 h4
    exact ⟨es, n, rfl, h6⟩
  | cell v => cases v <;> (unfold vO tupV at h; injection h with h1 h2 h3 h4; cases h3)
  | _ => unfold vO tupV at h; injection h with h1 h2 h3 h4; cases h3
def isIS : Value → Bool | .int _ _ => true | .str _ _ => true | _ => false
theorem eqAt_same {A : Around} {s : Shared} {y x v : Value} (hv : isIS v = true) (hy : vv y = v) (hx : vv x = v) : SeqAt.EqAt A s y x true := by
  cases v with
  | int a t =>
    have e1 : y = .int a (tkOf y) := by rw [← bv_vv y, hy]; rfl
    have e2 : x = .int a (tkOf x) := by rw [← bv_vv x, hx]; rfl
    rw [e1, e2]
    have := SeqAt.EqAt.int_int (A := A) (s := s) a (tkOf y) a (tkOf x)
    rwa [beq_self_eq_true] at this
  | str a t =>
    have e1 : y = .str a (tkOf y) := by rw [← bv_vv y, hy]; rfl
    have e2 : x = .str a (tkOf x) := by rw [← bv_vv x, hx]; rfl
    rw [e1, e2]
    have := SeqAt.EqAt.str_str (A := A) (s := s) a (tkOf y) a (tkOf x)
    rwa [beq_self_eq_true] at this
  | _ => cases hv
theorem su_tupne (N : Nice3 Z) {a b : Addr} {V : List Value} (hV : ∀ v ∈ V, isIS v = true) : Su Z (smR "tuple.__ne__" [.ref a, .ref b] [(a, tupV V), (b, tupV V)] (.bool false)) := by
  refine su_read N ?_
  intro prog w A E Q h g d os tok tks old ho hm hQ
  cases old with
  | nil => cases ho
  | cons q old =>
    obtain ⟨a', o1⟩ := q
    cases old with
    | nil => exact absurd (congrArg List.length ho) (by simp)
    | cons q2 old =>
      obtain ⟨b', o2⟩ := q2
      have h1 := (List.cons.inj ho).1
      have h2 := (List.cons.inj (List.cons.inj ho).2).1
      have e1 : a' = a := congrArg Prod.fst h1
      have e2 : b' = b := congrArg Prod.fst h2
      subst e1 e2
      obtain ⟨es, n, rfl, he⟩ := vO_tup (congrArg Prod.snd h1 : vO o1 = tupV V)
      obtain ⟨es2, n2, rfl, he2⟩ := vO_tup (congrArg Prod.snd h2 : vO o2 = tupV V)
      have g1 := hm _ (.head _)
      have g2 := hm _ (.tail _ (.head _))
      have hsz : es.size = es2.size := by
        have := congrArg List.length (he.trans he2.symm)
        simpa using this
      refine call_meets F.slot_tuple_ne ⟨_, g1, rfl⟩ F.entry_tuple_ne (F.args_tuple_ne_2 _ _) (SeqAt.tuple_neAt a' b' es es2 n n2 none none #[] #[] (fun _ => true)) ⟨g1, g2, fun j h1 h2 => ?_, ?_⟩
      · have hj : (es.toList.map vv)[j]? = (es2.toList.map vv)[j]? := by rw [he, he2]
        simp [h1, h2] at hj
        refine eqAt_same (v := vv es[j]) (hV _ ?_) rfl hj.symm
        rw [← he]
        exact List.mem_map_of_mem (by simp)
      · have := hQ tok tok
        have e : (!((List.range (min es.size es2.size)).all (fun _ => true) && es.size == es2.size)) = false := by simp [hsz]
        rw [e]
        exact this
theorem tk_mid {g : Array GenState} {fs : List Fr} (hR : (wpC prog w A R h₀ d os hh [(125, tableObj vs)] g).Rm fs 370) (X : (heapK w.params).In h₀) (hB : BI h₀) (hg0 : Bare g) (x : Str) (us : List Str) (L D C : Addr) (m s b : Nat) {rest : List (Addr × Obj)} {es : Array Value} (H : TkP x us m s b) (he : es.toList.map vv = us.map strV) 
  (hK : ∀ g' J tok, Bare g' → (wpC prog w A R h₀ d os hh [(125, tableObj vs)] g').G fs (tkF ⟨prog, w.params⟩ 0 L) (tkT ⟨prog, w.params⟩ 4 L) (led J [(false, D, listE es 0), (true, L, tkG C x D [dE (Str.ofString "told") (.str x 0), dE (Str.ofString "struck") (.str (stripF x) 0)]), (true, C, cntT m s b)] rest) tok)
  : ∀ J tok, (wpC prog w A R h₀ d os hh [(125, tableObj vs)] g).G fs (tkF ⟨prog, w.params⟩ 0 L) (tkT ⟨prog, w.params⟩ 1 L) (led J [(false, D, listE es 0), (true, L, tkG C x D []), (true, C, cntT m s b)] rest) tok := by
  have N := nice_wp prog w A R h₀ d os hh [(125, tableObj vs)] g
  have N3 := nice3_wp prog w A R h₀ d os hh [(125, tableObj vs)] g
  intro J tok
  have S1 := sus1 (su_join N3 (x := ⟨#[]⟩) (D := D) he (join_ok2 rfl (by have := H.hz; omega) (fun y hy => Nat.le_trans (H.hl y hy) (by decide)))) sus0
  rw [H.hj] at S1
  have S2 := sus1 (su_cntO N H.hm) (sus1 (su_cntO N H.hs) (sus1 (su_countS N3 (D := D) he 34 b H.hb) S1))
  clear S1
  apply runF X S2 [.s,.s,.s,.s,.s,.l 1,.s,.u 2 [0] 3,.s,.s,.s,.s,.s,.l 1,.l 1,.s,.s,.s,.s,.l 1,.s,.s,.s,.s,.u 2 [] 0,.s,.s,.l 1,.s,.s,.s,.s,.u 2 [] 1,.s,.s,.l 1,.s,.l 0,.l 0,.l 0,.l 0,.s,.s,.s,.u 2 [0] 2,.s,.a,.s,.l 2,.s]; intro bF _; apply ok_run; kernel_rfl!
  k_places
  apply run0 X S2 [] rfl; intro _; apply ok_run; kernel_rfl!
  k_subL
  have S3 := sus1 (su_tupne N3 (a := bF 8) (b := C) (V := [.int (Int.ofNat m) 0, .int (Int.ofNat s) 0, .int (Int.ofNat b) 0]) (by intro v hv; simp at hv; rcases hv with rfl | rfl | rfl <;> rfl)) sus0
  apply run2 X S3 [.l 0,.l 3,.l 0,.m,.u 2 [0,3] 0,.s,.s,.s,.s,.s,.l 2,.s,.s,.cE] rfl; intro d0 d1 _
  refine ok_call1 [0, 2, 1, 1] (f := .ref 35) (args := [.str x 0]) (fs := fs) (V := [(false, D, listE es 0), (true, L, tkG C x D [dE (Str.ofString "told") (.str x 0)]), (true, C, cntT m s b)]) (rest := rest) ?_ (fun tks J tok => ?_) (by intro h; cases h)
  kernel_rfl!
  refine strip_ok (fun g => rm_of 1 hR rfl ?_) X hB x _ H.hx H.hxz hg0 H.hel ?_
  kernel_rfl!
  intro g' tk J' t' hb
  clear N N3 S2 S3
  refine gb_cons ?_
  apply run0 X sus0 [.s,.s,.s,.s,.s,.l 1,.l 1,.s] rfl; intro _
  refine ok_GV [2, 1, 1] (fs := fs) (c := tkF ⟨prog, w.params⟩ 0 L) (t := tkT ⟨prog, w.params⟩ 4 L) (V := [(false, D, listE es 0), (true, L, tkG C x D [dE (Str.ofString "told") (.str x 0), dE (Str.ofString "struck") (.str (stripF x) 0)]), (true, C, cntT m s b)]) (rest := rest) ?_ (fun J tok => hK g' J tok hb)
  kernel_rfl!
end

section
variable {prog : Program} {w : World} {A : Around} {R : Result → Shared → Prop} {h₀ : Heap} {d : Drawn} {os : OsState} {vs : Array Value} {hh : A.handled = none} {t : Nat} {p : Setting} {chg : List (Addr × Obj)} {Y : Calc h₀ [(125, tableObj vs)] p} {Z : Calc h₀ chg p}
structure TkO (x : Str) (us : List Str) (F : Nat × List Str) : Prop where
  hch : chainP us.length ((evL (cutL us 0)).zip (evL ((cutL us 0).drop 1))) 0
  hF : outS us ((evL (cutL us 0)).zip (evL ((cutL us 0).drop 1))) 0 [] = F
  hst : stripF x = Txt.join ⟨#[]⟩ (F.2 ++ us.drop F.1)
theorem tk_mid2 {fs : List Fr} (N : Nice Y) (N3 : Nice3 Y) (hR : Y.Rm fs 370) (X : (heapK p.params).In h₀) (hB : BI h₀) (x : Str) (us : List Str) (L D C : Addr) (m s b : Nat) {rest : List (Addr × Obj)} {es : Array Value} (H : TkP x us m s b) (he : es.toList.map vv = us.map strV) {F : Nat × List Str} (O : TkO x us F)
  (hK : ∀ J tok, Y.G fs (tkF p 0 L) (tkT p 5 L) (led J [(false, D, listE es 0), (true, L, tkG C x D [dE (Str.ofString "told") (.str x 0), dE (Str.ofString "struck") (.str (stripF x) 0)]), (true, C, cntT m s b)] rest) tok)
  : ∀ J tok, Y.G fs (tkF p 0 L) (tkT p 4 L) (led J [(false, D, listE es 0), (true, L, tkG C x D [dE (Str.ofString "told") (.str x 0), dE (Str.ofString "struck") (.str (stripF x) 0)]), (true, C, cntT m s b)] rest) tok := by
  intro J tok
  apply run0 X sus0 [.s,.s,.l 1,.s,.s,.s,.l 1,.s,.s,.cE] rfl; intro _
  refine ok_call1 [2, 1, 1] (f := .ref 149) (args := [.ref D]) (fs := fs) (V := [(false, D, listE es 0), (true, L, tkG C x D [dE (Str.ofString "told") (.str x 0), dE (Str.ofString "struck") (.str (stripF x) 0)]), (true, C, cntT m s b)]) (rest := rest) ?_ (fun tks J tok => ?_) (by intro h; cases h)
  kernel_rfl!
  refine outside_ok N N3 (rm_of 1 hR rfl ?_) X hB D es (J 0).e us he H.hz H.hne F O.hch O.hF H.hl ?_
  kernel_rfl!
  intro tk J' t'
  refine gb_cons ?_
  rw [← O.hst]
  have S1 := sus1 (su_strne N (x := stripF x) (y := stripF x) (b := false) (by rw [bne_self_eq_false])) sus0
  apply run2 X S1 [.s,.s,.m,.u 2 [] 0] rfl; intro e0 e1 _
  refine ok_GV [2, 1, 1] (fs := fs) (c := tkF p 0 L) (t := tkT p 5 L) (V := [(false, D, listE es 0), (true, L, tkG C x D [dE (Str.ofString "told") (.str x 0), dE (Str.ofString "struck") (.str (stripF x) 0)]), (true, C, cntT m s b)]) (rest := rest) ?_ hK
  kernel_rfl!
end

section
variable {prog : Program} {w : World} {A : Around} {R : Result → Shared → Prop} {h₀ : Heap} {d : Drawn} {os : OsState} {vs : Array Value} {hh : A.handled = none} {t : Nat} {p : Setting} {chg : List (Addr × Obj)} {Y : Calc h₀ [(125, tableObj vs)] p} {Z : Calc h₀ chg p}
noncomputable def tkA (x : Str) (L D C Da : Addr) (m s b : Nat) (ea : Array Value) : VL := [(false, Da, listE ea 0), (true, L, tkG C x D [dE (Str.ofString "told") (.str x 0), dE (Str.ofString "struck") (.str (stripF x) 0), dE (Str.ofString "ahead") (.ref Da)]), (true, C, cntT m s b)]
theorem tk_ahead0 {fs : List Fr} (X : (heapK p.params).In h₀) (x : Str) (L D C : Addr) (m s : Nat) {rest : List (Addr × Obj)} {es : Array Value}
  (hK : ∀ J tok, Y.G fs (tkF p 0 L) (tkT p 6 L) (led J (tkA x L D C D m s 0 es) rest) tok)
  : ∀ J tok, Y.G fs (tkF p 0 L) (tkT p 5 L) (led J [(false, D, listE es 0), (true, L, tkG C x D [dE (Str.ofString "told") (.str x 0), dE (Str.ofString "struck") (.str (stripF x) 0)]), (true, C, cntT m s 0)] rest) tok := by
  intro J tok
  apply run0 X sus0 [.s,.s,.l 1,.s,.s,.l 2,.l 2,.l 2,.c,.l 2,.g,.l 2,.p,.s,.c,.g,.p,.s,.l 1,.s,.s,.s,.s,.l 1,.l 1,.s] rfl; intro _
  refine ok_GV [2, 1, 1] (fs := fs) (c := tkF p 0 L) (t := tkT p 6 L) (V := tkA x L D C D m s 0 es) (rest := rest) ?_ hK
  kernel_rfl!
theorem tk_ahead1 {fs : List Fr} (N3 : Nice3 Y) (X : (heapK p.params).In h₀) (x : Str) (L D C : Addr) (m s b : Nat) {rest : List (Addr × Obj)} {es : Array Value} (us : List Str) (he : es.toList.map vv = us.map strV) (hz : us.length ≤ 1000) (j : Nat) (hj : ((us.map fun y => y.cps.toList)[j]?) = some [34]) (hno : ∀ i, i < j → ((us.map fun y => y.cps.toList)[i]?) ≠ some [34])
  (hK : ∀ J tok Da ea, ea.toList.map vv = (us.take j).map strV → Y.G fs (tkF p 0 L) (tkT p 6 L) (led J (tkA x L D C Da m s (b + 1) ea) rest) tok)
  : ∀ J tok, Y.G fs (tkF p 0 L) (tkT p 5 L) (led J [(false, D, listE es 0), (true, L, tkG C x D [dE (Str.ofString "told") (.str x 0), dE (Str.ofString "struck") (.str (stripF x) 0)]), (true, C, cntT m s (b + 1))] rest) tok := by
  intro J tok
  have hlt : j < us.length := by
    apply Nat.lt_of_not_le
    intro h
    rw [List.getElem?_eq_none (by simpa using h)] at hj
    cases hj
  have hsz : es.size ≤ 16777216 := by
    have := congrArg List.length he
    simp at this; omega
  have S1 := sus1 (su_lindex N3 (D := D) (es := es) (x := .str ⟨#[34]⟩ 0) (isS 34) (eq_sign he 34) j hsz ?_ ?_) sus0
  apply run3 X S1 [.s,.s,.l 1,.s,.s,.l 2,.l 2,.l 2,.c,.l 2,.g,.l 2,.p,.s,.c,.g,.p,.s,.l 1,.s,.l 1,.s,.l 0,.l 0,.l 0,.l 0,.s,.s,.s,.u 2 [0] 0,.s,.a] rfl; intro d0 d1 d2 _; apply ok_run; kernel_rfl!
  have S2 := sus1 (su_lslice N3 (D := D) (b := d2) (L := es.toList.map vv) (lo := none) (hi := some (Int.ofNat j)) (st := none) (by decide) (by simpa using hsz)) sus0
  clear S1
  apply run1 X S2 [.s,.l 1,.l 1,.l 1,.u 1 [1,0] 0,.s,.s,.s,.s,.s,.l 3,.l 3,.s] rfl; intro e0 _
  refine ok_GV [2, 0, 0, 1, 1] (fs := fs) (c := tkF p 0 L) (t := tkT p 6 L) (V := tkA x L D C e0 m s (b + 1) (slicePick es none (some (Int.ofNat j)) none)) (rest := rest) ?_ (fun J tok => hK J tok e0 _ ((pick_upto he (by rw [List.length_map]; exact Nat.le_of_lt hlt)).trans (by rw [List.map_take])))
  kernel_rfl!
  · rw [he, List.getElem?_map, Option.map_map]
    rw [List.getElem?_map] at hj
    cases e : us[j]? with
    | none => rw [e] at hj; cases hj
    | some y =>
      rw [e] at hj
      show some (y.cps.toList == [34]) = some true
      have : y.cps.toList = [34] := Option.some.inj hj
      rw [this]; rfl
  · intro i hi
    have h := hno i hi
    have hl : i < us.length := Nat.lt_trans hi hlt
    rw [List.getElem?_map, List.getElem?_eq_getElem hl] at h
    rw [he, List.getElem?_map, Option.map_map, List.getElem?_eq_getElem hl]
    show some (us[i].cps.toList == [34]) = some false
    congr 1
    exact beq_eq_false_iff_ne.mpr (fun e => h (congrArg some e))
end

section
variable {prog : Program} {w : World} {A : Around} {R : Result → Shared → Prop} {h₀ : Heap} {d : Drawn} {os : OsState} {vs : Array Value} {hh : A.handled = none} {t : Nat} {p : Setting} {chg : List (Addr × Obj)} {Y : Calc h₀ [(125, tableObj vs)] p} {Z : Calc h₀ chg p}
noncomputable def dvE (p : Setting) : PySem.Expr := argOf (vlOf ((bodyOf (heapK p.params) 154)[6]?))
noncomputable def dvC (p : Setting) (L It Ac N : Addr) : Code := compL (dvE p) It Ac (compEnv (heapK p.params) 154 153 L N (dvE p))
noncomputable def dvS (p : Setting) (L It Ac N : Addr) : Code := compS (dvE p) It Ac (compEnv (heapK p.params) 154 153 L N (dvE p))
structure DvS where
  i : Nat
  ac : Array Value
  last : Option Str
structure DvA where
  x : Str
  (L D C Da It Ac N : Addr)
  (m s b : Nat)
  ea : Array Value
noncomputable def dvW (q : DvA) (p : DvS) : VL := [(false, q.Ac, listE p.ac 0), (false, q.Da, listE q.ea 0), (true, q.L, tkG q.C q.x q.D [dE (Str.ofString "told") (.str q.x 0), dE (Str.ofString "struck") (.str (stripF q.x) 0), dE (Str.ofString "ahead") (.ref q.Da)]), (true, q.C, cntT q.m q.s q.b)]
noncomputable def dvN : Option Str → Obj | none => frC [] | some u => frC [dE (Str.ofString "unit") (.str u 0)]
noncomputable def dvV (q : DvA) (p : DvS) : VL := (true, q.N, dvN p.last) :: (true, q.It, lItO (.ref q.Da) (Int.ofNat p.i)) :: dvW q p
def lastS (u : Str) : Str := Txt.slice u (some (-1)) none
theorem dv_loop {fs : List Fr} {cB : Code} {kB : Result → Sem PySem.Fin} (N : Nice Y) (N3 : Nice3 Y) (X : (heapK p.params).In h₀) (q : DvA) (us : List Str) (he : q.ea.toList.map vv = us.map strV) (hz : us.length ≤ 1000) (hl : ∀ y ∈ us, y.length ≤ 2) {rest : List (Addr × Obj)}
  (hend : ∀ ac last J tok, ac.toList.map vv = (us.map lastS).map strV → Y.G fs cB (kB (.ok .next)) (led J ((true, q.N, dvN last) :: dvW q ⟨0, ac, none⟩) rest) tok)
  (a : DvS) (ha : a.i ≤ us.length ∧ a.ac.toList.map vv = ((us.take a.i).map lastS).map strV) : ∀ J tok, Y.C (⟨cB, kB, true⟩ :: fs) (dvC p q.L q.It q.Ac q.N) (led J (dvV q a) rest) tok := by
  refine gc_loop (fun a => us.length - a.i) (dvV q) (fun a => a.i ≤ us.length ∧ a.ac.toList.map vv = ((us.take a.i).map lastS).map strV) ?_ a ha
  obtain ⟨x, L, D, C, Da, It, Ac, NN, m, s, b, ea⟩ := q
  rintro ⟨i, ac, last⟩ ⟨hi, hr⟩ ih J tok
  dsimp only at hi hr ih he
  apply g_code
  by_cases hlt : i < us.length
  · have hc : (ea.toList.map vv)[(Int.ofNat i).toNat]? = some (strV us[i]) := by rw [he, List.getElem?_map]; simp [hlt]
    have hm : us[i].length ≤ 2 := hl _ (List.getElem_mem hlt)
    have hn : us.take (i + 1) = us.take i ++ [us[i]] := List.take_succ_eq_append_getElem hlt
    generalize us[i] = u at hc hm hn
    have S1 := sus1 (su_lnext (Z := Y) X (It := It) (D := Da) hc) sus0
    replace ih := fun ac hq => ih ⟨i + 1, ac, some u⟩ (by show us.length - (i + 1) < us.length - i; omega) ⟨hlt, hq⟩
    rcases last with _ | u0
    all_goals
      apply run2 X S1 [.s,.l 1,.u 1 [1,3] 0,.s,.s,.s,.s,.l 0,.l 0,.s,.s,.l 0,.s,.s,.c,.g,.s,.p,.a] rfl; intro b0 b1 _; apply ok_run; kernel_rfl!
      have S2 := sus1 (su_sl (Z := Y) (x := u) b1 (some (-1)) none rfl (Nat.le_trans (Txt.slice_le u _ _) (Nat.le_trans hm (by decide)))) (sus1 (su_append N3 (D := Ac) (L := ac.toList.map vv) (v := strV (lastS u)) (by rw [hr, List.length_map, List.length_map, List.length_take]; omega)) sus0)
      apply run3 X S2 [.s,.u 2 [0] 0,.u 1 [3] 1,.gE] rfl; intro c0 c1 c2 _
      refine ok_code [0, 1, 1, 2, 2, 1, 1] ?_ (ih (ac.push (.str (lastS u) c2)) (by rw [Array.toList_push, List.map_append, hr, hn, List.map_append, List.map_append]; rfl))
      kernel_rfl!
  · have hc : (ea.toList.map vv)[(Int.ofNat i).toNat]? = none := by rw [he, List.getElem?_map]; simp; omega
    obtain rfl : i = us.length := by omega
    have S1 := sus1 (su_lend (Z := Y) X (It := It) (D := Da) hc) sus0
    rw [List.take_length] at hr
    rcases last with _ | u0
    · apply run2 X S1 [.s,.l 1,.u 2 [1,3] 0,.l 0,.p] rfl; intro b0 b1 _
      refine ok_GV [0, 0, 1, 0, 2, 2, 1, 1] (t := kB (.ok .next)) ?_ (fun J tok => hend ac none J tok hr)
      kernel_rfl!
    · apply run2 X S1 [.s,.l 1,.u 2 [1,3] 0,.l 0,.p] rfl; intro b0 b1 _
      refine ok_GV [0, 0, 1, 0, 2, 2, 1, 1] (t := kB (.ok .next)) ?_ (fun J tok => hend ac (some u0) J tok hr)
      kernel_rfl!
end

section
variable {prog : Program} {w : World} {A : Around} {R : Result → Shared → Prop} {h₀ : Heap} {d : Drawn} {os : OsState} {vs : Array Value} {hh : A.handled = none} {t : Nat} {p : Setting} {chg : List (Addr × Obj)} {Y : Calc h₀ [(125, tableObj vs)] p} {Z : Calc h₀ chg p}
theorem dv_start {K : Frag} (X : K.In h₀) {F : List Fr} (q : DvA) {J : Nat → JO} {rest : List (Addr × Obj)} (hl : ∀ tok, Y.C F (dvC p q.L q.It q.Ac q.N) (led J (dvV q ⟨0, #[], none⟩) rest) tok) (tok : Nat) : Y.C F (dvS p q.L q.It q.Ac q.N) (led J (dvV q ⟨0, #[], none⟩) rest) tok := by
  obtain ⟨x, L, D, C, Da, It, Ac, NN, m, s, b, ea⟩ := q
  apply g_code
  cases hb : p.params.followText "comprehension-iter-twice"
  all_goals
    apply run0 X sus0 [.s] rfl; intro _; apply ok_run; kernel_rfl!
    k_subL
    first
      | (apply run0 X sus0 [.s,.s,.l 1,.l 1,.m,.c,.l 1,.g,.p,.l 1,.gE] rfl; intro _; refine ok_codeN ?_ hl; kernel_rfl!)
      | (apply run0 X sus0 [.gE] rfl; intro _; refine ok_codeN ?_ hl; kernel_rfl!)
noncomputable def tkB (x : Str) (L D C Da : Addr) (m s b : Nat) (due : Str) (es : List DictEntry) : VL := [(true, L, tkG C x D (dE (Str.ofString "told") (.str x 0) :: dE (Str.ofString "struck") (.str (stripF x) 0) :: dE (Str.ofString "ahead") (.ref Da) :: dE (Str.ofString "due") (.str due 0) :: es)), (true, C, cntT m s b)]
theorem tk_due {fs : List Fr} (N : Nice Y) (N3 : Nice3 Y) (hR : Y.Rm fs 370) (X : (heapK p.params).In h₀) (x : Str) (L D C Da : Addr) (m s b : Nat) {rest : List (Addr × Obj)} {ea : Array Value} (us : List Str) (he : ea.toList.map vv = us.map strV) (hz : us.length ≤ 1000) (hl : ∀ y ∈ us, y.length ≤ 2)
  (hK : ∀ J tok, Y.G fs (tkF p 0 L) (tkT p 7 L) (led J ((false, Da, listE ea 0) :: tkB x L D C Da m s b (Txt.join ⟨#[]⟩ (us.map lastS)) []) rest) tok)
  : ∀ J tok, Y.G fs (tkF p 0 L) (tkT p 6 L) (led J (tkA x L D C Da m s b ea) rest) tok := by
  intro J tok
  apply run3 X sus0 [.s,.s,.s,.s,.s,.l 1,.s,.l 0,.l 0,.m,.c,.l 0,.g,.a,.p,.l 0,.a,.a,.cE] rfl; intro d0 d1 d2 _
  refine ok_loopg [1, 2, 1, 2, 1, 1] (dvS p L d0 d1 d2) true (fs := fs) (V := [(true, d2, frC []), (false, d1, listE #[] 0), (true, d0, lItO (.ref Da) 0), (false, Da, listE ea 0), (true, L, tkG C x D [dE (Str.ofString "told") (.str x 0), dE (Str.ofString "struck") (.str (stripF x) 0), dE (Str.ofString "ahead") (.ref Da)]), (true, C, cntT m s b)]) (rest := rest) ?_ (fun J tok => ?_)
  kernel_rfl!
  refine c_permV (V' := dvV ⟨x, L, D, C, Da, d0, d1, d2, m, s, b, ea⟩ ⟨0, #[], none⟩) (List.Perm.cons _ (List.Perm.swap _ _ _)) (fun J => dv_start X ⟨x, L, D, C, Da, d0, d1, d2, m, s, b, ea⟩ (fun tok => dv_loop N N3 X ⟨x, L, D, C, Da, d0, d1, d2, m, s, b, ea⟩ us he hz hl ?_ ⟨0, #[], none⟩ ⟨Nat.zero_le _, rfl⟩ J tok) tok)
  intro ac last J tok hac
  have S1 := sus1 (su_join N3 (x := ⟨#[]⟩) (D := d1) hac (join_ok2 rfl (by rw [List.length_map]; omega) (by
    intro y hy
    obtain ⟨u, hu, rfl⟩ := List.mem_map.mp hy
    exact Nat.le_trans (Txt.slice_le u _ _) (Nat.le_trans (hl u hu) (by decide))))) sus0
  rcases last with _ | u0
  · apply run2 X S1 [.l 0,.s,.u 2 [1] 0,.s,.s,.s,.s,.s,.l 3,.l 3,.s] rfl; intro e0 e1 _
    refine ok_GV [0, 0, 2, 1, 1] (fs := fs) (c := tkF p 0 L) (t := tkT p 7 L) (V := (false, Da, listE ea 0) :: tkB x L D C Da m s b (Txt.join ⟨#[]⟩ (us.map lastS)) []) (rest := rest) ?_ hK
    kernel_rfl!
  · apply run2 X S1 [.l 0,.s,.l 0,.l 0,.s,.s,.u 2 [1] 0,.s,.s,.s,.s,.s,.l 3,.l 3,.s] rfl; intro e0 e1 _
    refine ok_GV [0, 0, 2, 1, 1] (fs := fs) (c := tkF p 0 L) (t := tkT p 7 L) (V := (false, Da, listE ea 0) :: tkB x L D C Da m s b (Txt.join ⟨#[]⟩ (us.map lastS)) []) (rest := rest) ?_ hK
    kernel_rfl!
theorem tk_size {fs : List Fr} (N : Nice Y) (N3 : Nice3 Y) (hR : Y.Rm fs 370) (X : (heapK p.params).In h₀) (hB : BI h₀) (x : Str) (L D C Da : Addr) (m s b : Nat) (W : Str) {rest : List (Addr × Obj)} {ea : Array Value} (us : List Str) (he : ea.toList.map vv = us.map strV) (hz : us.length ≤ 1000) (hl : ∀ y ∈ us, y.length ≤ 2) (hsz : (Txt.join ⟨#[]⟩ us).length ≤ 16777216)
  (hK : ∀ J tok, Y.G fs (tkF p 0 L) (tkT p 8 L) (led J (tkB x L D C Da m s b W [dE (Str.ofString "size") (.int (Int.ofNat (Txt.join ⟨#[]⟩ us).length) 0)]) rest) tok)
  : ∀ J tok, Y.G fs (tkF p 0 L) (tkT p 7 L) (led J ((false, Da, listE ea 0) :: tkB x L D C Da m s b W []) rest) tok := by
  intro J tok
  have X0 := X
  obtain ⟨_, e0, cl, dd, es0, ep0, sl, rfl, hL⟩ := hB
  replace X := in_cons e0 X
  have S1 := sus1 (su_join N3 (x := ⟨#[]⟩) (D := Da) he (join_ok2 rfl (by omega) (fun y hy => Nat.le_trans (hl y hy) (by decide)))) (sus1 (su_lenstr (Z := Y) (x := Txt.join ⟨#[]⟩ us) hsz) sus0)
  apply run0 X S1 [.s,.s,.s,.s] rfl; intro _; apply ok_run; kernel_rfl!
  obtain ⟨bh, bk, bq⟩ := hL (Str.ofString "len") (.builtin "len") (by kernel_rfl!) (by kernel_rfl!)
  k_subL
  apply run4 X S1 [.s,.s,.s,.s,.l 1,.s,.u 2 [0] 0,.s,.s,.u 2 [] 1,.s,.s,.s,.s,.s,.l 1,.l 1,.s] rfl; intro c0 c1 c2 c3 _
  refine ok_GV [0, 1, 1] (fs := fs) (c := tkF p 0 L) (t := tkT p 8 L) (V := tkB x L D C Da m s b W [dE (Str.ofString "size") (.int (Int.ofNat (Txt.join ⟨#[]⟩ us).length) 0)]) (rest := rest) ?_ hK
  kernel_rfl!
end

section
variable {prog : Program} {w : World} {A : Around} {R : Result → Shared → Prop} {h₀ : Heap} {d : Drawn} {os : OsState} {vs : Array Value} {hh : A.handled = none} {t : Nat} {p : Setting} {chg : List (Addr × Obj)} {Y : Calc h₀ [(125, tableObj vs)] p} {Z : Calc h₀ chg p}
def qS (x : Str) : Str := Str.ofString "\"" ++ x ++ Str.ofString "\""
theorem qS_l (x : Str) : (qS x).cps.toList = 34 :: (x.cps.toList ++ [34]) := by
  show (((Str.ofString "\"").cps ++ x.cps) ++ (Str.ofString "\"").cps).toList = _
  rw [str34]; simp
noncomputable def tkW8 (x : Str) (L D C Da : Addr) (m s b : Nat) (due : Str) (sz : Nat) (Dw : Str) (ln un : Int) (es : List DictEntry) : VL := tkB x L D C Da m s b due (dE (Str.ofString "size") (.int (Int.ofNat sz) 0) :: dE (Str.ofString "word") (.str Dw 0) :: dE (Str.ofString "line") (.int ln 0) :: dE (Str.ofString "unread") (.int un 0) :: es)
theorem tk_word {g : Array GenState} {fs : List Fr} (hR : (wpC prog w A R h₀ d os hh [(125, tableObj vs)] g).Rm fs 350) (X : (heapK w.params).In h₀) (hB : BI h₀) {own : List (Addr × Obj)} (hTB : TB vs own) (hM : ∃ sl, h₀.get? 4 = some ⟨.type "module", some 0, .plain, sl⟩) (x : Str) (L D C Da : Addr) (m s b : Nat) (due : Str) (sz : Nat) {rest : List (Addr × Obj)} (hx : ∀ c ∈ x.cps.toList, Sg c) (hxz : x.length ≤ 900) (W U : List Nat) (hw : lexT (x.cps.toList ++ [34]) = some (W, U))
  (hK : ∀ cc ca ct cl Dw J tok, Dw.cps.toList = W → (wpC prog w A R h₀ d os hh [(125, tableObj (tb1 cc))] g).G fs (tkF ⟨prog, w.params⟩ 0 L) (tkT ⟨prog, w.params⟩ 9 L) (led J (tkW8 x L D C Da m s b due sz Dw (1 + (x.cps.toList ++ [34]).count 10 - U.count 10) (Int.ofNat U.length) []) ((cc, codO ca ct cl) :: rest)) tok)
  : ∀ J tok, (wpC prog w A R h₀ d os hh [(125, tableObj vs)] g).G fs (tkF ⟨prog, w.params⟩ 0 L) (tkT ⟨prog, w.params⟩ 8 L) (led J (tkB x L D C Da m s b due [dE (Str.ofString "size") (.int (Int.ofNat sz) 0)]) (own ++ rest)) tok := by
  have N := nice_wp prog w A R h₀ d os hh [(125, tableObj vs)] g
  intro J tok
  have hl0 : x.cps.toList.length ≤ 900 := by simpa [Str.length] using hxz
  have S1 := sus1 (su_stradd N (x := Str.ofString "\"") (y := x) ?_) (sus1 (su_stradd N (x := Str.ofString "\"" ++ x) (y := Str.ofString "\"") ?_) sus0)
  apply run4 X S1 [.s,.s,.s,.s,.s,.l 0,.s,.s,.u 2 [] 0,.s,.s,.s,.u 2 [] 1,.s,.s,.cE] rfl; intro b0 b1 b2 b3 _
  refine ok_call1 [1, 1] (f := .ref 130) (args := [.str (qS x) 0]) (fs := fs) (V := tkB x L D C Da m s b due [dE (Str.ofString "size") (.int (Int.ofNat sz) 0)]) (rest := own ++ rest) ?_ (fun tks J tok => ?_) (by intro h; cases h)
  kernel_rfl!
  refine gc_perm (List.perm_append_comm_assoc _ _ _) ?_
  refine word_ok (rm_of 1 hR rfl ?_) X hB hTB hM (qS x) _ ?_ ?_ (x.cps.toList ++ [34]) W U (qS_l x) ?_ hw ?_
  kernel_rfl!
  · rw [qS_l]
    intro c hc
    simp only [List.mem_cons, List.mem_append, List.not_mem_nil, or_false] at hc
    rcases hc with rfl | hc | rfl
    · exact .inr (.inr (.inl rfl))
    · exact hx c hc
    · exact .inr (.inr (.inl rfl))
  · have := congrArg List.length (qS_l x)
    rw [Array.length_toList] at this
    have h2 : x.cps.size ≤ 900 := by rwa [Array.length_toList] at hl0
    rw [this]; simp; omega
  · have h2 : x.cps.size ≤ 900 := by rwa [Array.length_toList] at hl0
    simp; omega
  · intro cc ca ct cl T Dw J' t' hD
    clear S1 N
    refine gb_cons ?_
    refine gen_swap (own := [(cc, codO ca ct cl)]) (J := J) (V := tkB x L D C Da m s b due [dE (Str.ofString "size") (.int (Int.ofNat sz) 0)]) (rest := rest) ?_
    apply run3 X sus0 [.s,.s,.l 0,.l 0,.l 0,.m,.c,.l 0,.g,.a,.p,.l 0,.l 0,.c,.l 0,.g,.l 0,.l 0,.l 1,.l 0,.l 0,.p,.l 0,.c,.l 0,.g,.l 0,.l 0,.l 1,.l 0,.l 0,.p,.l 0,.c,.l 0,.g,.l 0,.l 0,.l 1,.l 0,.l 0,.p,.l 0,.c,.l 0,.g,.l 0,.l 0,.l 1,.s,.l 0,.l 0,.a,.a,.s,.p,.l 0,.s,.s,.s,.s,.l 4,.l 4,.s,.s,.s,.s,.s,.l 4,.l 4,.s,.s,.s,.s,.s,.l 4,.l 4,.s] rfl; intro c0 c1 c2 _
    refine ok_GV [0, 0, 0, 0, 1, 1] (fs := fs) (c := tkF ⟨prog, w.params⟩ 0 L) (t := tkT ⟨prog, w.params⟩ 9 L) (V := tkW8 x L D C Da m s b due sz Dw (1 + (x.cps.toList ++ [34]).count 10 - U.count 10) (Int.ofNat U.length) []) (rest := (cc, codO ca ct cl) :: rest) ?_ (fun J tok => hK cc ca ct cl Dw J tok hD)
    kernel_rfl!
  · rw [Str.length_append]; have : (Str.ofString "\"").length = 1 := by rw [str34]; rfl
    unfold sizeLine; omega
  · rw [Str.length_append, Str.length_append]; have : (Str.ofString "\"").length = 1 := by rw [str34]; rfl
    unfold sizeLine; omega
end

section
variable {prog : Program} {w : World} {A : Around} {R : Result → Shared → Prop} {h₀ : Heap} {d : Drawn} {os : OsState} {vs : Array Value} {hh : A.handled = none} {t : Nat} {p : Setting} {chg : List (Addr × Obj)} {Y : Calc h₀ [(125, tableObj vs)] p} {Z : Calc h₀ chg p}
theorem tk_test2 {fs : List Fr} (N : Nice Y) (N3 : Nice3 Y) (hR : Y.Rm fs 370) (X : (heapK p.params).In h₀) (hB : BI h₀) (x : Str) (L D C Da : Addr) (m s b : Nat) (due : Str) (sz k : Nat) (hk : cntO due ⟨#[10]⟩ = (k : Nat)) (hxz : x.length ≤ 900) {rest : List (Addr × Obj)}
  (hK : ∀ J tok, Y.G fs (tkF p 0 L) (tkT p 10 L) (led J (tkW8 x L D C Da m s b due sz due (1 + Int.ofNat k) (Int.ofNat x.length - Int.ofNat sz) []) rest) tok)
  : ∀ J tok, Y.G fs (tkF p 0 L) (tkT p 9 L) (led J (tkW8 x L D C Da m s b due sz due (1 + Int.ofNat k) (Int.ofNat x.length - Int.ofNat sz) []) rest) tok := by
  intro J tok
  have X0 := X
  obtain ⟨_, e0, cl, dd, es0, ep0, sl, rfl, hL⟩ := hB
  replace X := in_cons e0 X
  have S1 := sus1 (su_cntO N hk) (sus1 (su_lenstr (Z := Y) (x := x) (Nat.le_trans hxz (by decide))) sus0)
  apply run3 X S1 [.s,.s,.s,.l 0,.s,.l 0,.s,.l 0,.a,.s,.s,.l 1,.s,.s,.l 1,.s,.s,.s,.s,.u 2 [] 0,.s,.s,.c,.g,.s,.p,.s,.s,.s] rfl; intro b0 b1 b2 _; apply ok_run; kernel_rfl!
  obtain ⟨bh, bk, bq⟩ := hL (Str.ofString "len") (.builtin "len") (by kernel_rfl!) (by kernel_rfl!)
  k_subL
  apply run3 X S1 [.s,.l 1,.s,.u 2 [] 1,.s,.s,.l 1,.s,.c,.g,.s,.p,.a,.s] rfl; intro c0 c1 c2 _; apply ok_run; kernel_rfl!
  k_places
  apply run0 X S1 [] rfl; intro _; apply ok_run; kernel_rfl!
  k_subL
  clear S1
  have S3 := sus1 (su_tupne N3 (a := b0) (b := c2) (V := [.str due 0, .int (1 + Int.ofNat k) 0, .int (Int.ofNat x.length - Int.ofNat sz) 0]) (by intro v hv; simp at hv; rcases hv with rfl | rfl | rfl <;> rfl)) sus0
  apply run2 X S3 [.l 1,.l 0,.l 1,.m,.u 2 [1,0] 0,.s] rfl; intro d0 d1 _
  refine ok_GV [0, 0, 1, 1] (fs := fs) (c := tkF p 0 L) (t := tkT p 10 L) (V := tkW8 x L D C Da m s b due sz due (1 + Int.ofNat k) (Int.ofNat x.length - Int.ofNat sz) []) (rest := rest) ?_ hK
  kernel_rfl!
end

section
variable {prog : Program} {w : World} {A : Around} {R : Result → Shared → Prop} {h₀ : Heap} {d : Drawn} {os : OsState} {vs : Array Value} {hh : A.handled = none} {t : Nat} {p : Setting} {chg : List (Addr × Obj)} {Y : Calc h₀ [(125, tableObj vs)] p} {Z : Calc h₀ chg p}
noncomputable def tkV9 (x : Str) (L D C Da : Addr) (m s b : Nat) (due : Str) (sz k : Nat) (nm : Str) : VL := tkW8 x L D C Da m s b due sz due (1 + Int.ofNat k) (Int.ofNat x.length - Int.ofNat sz) [dE (Str.ofString "name") (.str nm 0)]
theorem qS_r (x : Str) : Str.ofString "257 \"" ++ x ++ Str.ofString "\"" = rS (x.cps.toList ++ [34]) := by
  refine Str.ext' (Array.toList_inj.mp ?_)
  show (((Str.ofString "257 \"").cps ++ x.cps) ++ (Str.ofString "\"").cps).toList = _
  rw [str34]
  show _ = [50, 53, 55, 32, 34] ++ (x.cps.toList ++ [34])
  have : (Str.ofString "257 \"").cps.toList = [50, 53, 55, 32, 34] := by kernel_rfl!
  simp [this]
theorem tk_name {fs : List Fr} (N : Nice Y) (hR : Y.Rm fs 370) (X : (heapK p.params).In h₀) (hB : BI h₀) (x : Str) (L D C Da : Addr) (m s b : Nat) (due : Str) (sz k : Nat) (hx : ∀ c ∈ x.cps.toList, Sg c) (hxz : x.length ≤ 900) {rest : List (Addr × Obj)}
  (hK : ∀ J tok, Y.G fs (tkF p 0 L) (tkT p 11 L) (led J (tkV9 x L D C Da m s b due sz k ⟨⟨p257 (x.cps.toList ++ [34])⟩⟩) rest) tok)
  : ∀ J tok, Y.G fs (tkF p 0 L) (tkT p 10 L) (led J (tkW8 x L D C Da m s b due sz due (1 + Int.ofNat k) (Int.ofNat x.length - Int.ofNat sz) []) rest) tok := by
  intro J tok
  have hl0 : x.cps.toList.length ≤ 900 := by simpa [Str.length] using hxz
  have S1 := sus1 (su_stradd N (x := Str.ofString "257 \"") (y := x) ?_) (sus1 (su_stradd N (x := Str.ofString "257 \"" ++ x) (y := Str.ofString "\"") ?_) sus0)
  rw [qS_r] at S1
  apply run4 X S1 [.s,.s,.s,.s,.s,.l 0,.s,.s,.u 2 [] 0,.s,.s,.s,.u 2 [] 1,.s,.s,.cE] rfl; intro b0 b1 b2 b3 _
  refine ok_call1 [1, 1] (f := .ref 67) (args := [.str (rS (x.cps.toList ++ [34])) 0]) (fs := fs) (V := tkW8 x L D C Da m s b due sz due (1 + Int.ofNat k) (Int.ofNat x.length - Int.ofNat sz) []) (rest := rest) ?_ (fun tks J tok => ?_) (by intro h; cases h)
  kernel_rfl!
  refine parse257 N (rm_of 1 hR rfl ?_) X hB (x.cps.toList ++ [34]) ?_ (by rw [List.length_append]; exact Nat.succ_le_of_lt (Nat.lt_of_le_of_lt hl0 (by decide))) _ ?_
  kernel_rfl!
  · intro c hc
    rcases List.mem_append.mp hc with hc | hc
    · exact hx c hc
    · rw [List.mem_singleton.mp hc]; exact .inr (.inr (.inl rfl))
  · intro tk J' t'
    clear S1
    refine gb_cons ?_
    apply run0 X sus0 [.s,.s,.s,.s,.s,.l 0,.l 0,.s] rfl; intro _
    refine ok_GV [1, 1] (fs := fs) (c := tkF p 0 L) (t := tkT p 11 L) (V := tkV9 x L D C Da m s b due sz k ⟨⟨p257 (x.cps.toList ++ [34])⟩⟩) (rest := rest) ?_ hK
    kernel_rfl!
  · rw [Str.length_append]; have : (Str.ofString "257 \"").length = 5 := by decide +kernel
    unfold sizeLine; omega
  · rw [Str.length_append, Str.length_append]; have : (Str.ofString "\"").length = 1 := by rw [str34]; rfl
    have : (Str.ofString "257 \"").length = 5 := by decide +kernel
    unfold sizeLine; omega
theorem tk_end0 {fs : List Fr} (N : Nice Y) (X : (heapK p.params).In h₀) (x : Str) (L D C Da : Addr) (m s b : Nat) (due : Str) (sz k : Nat) (nm : Str) (hne : (stripF x).cps.toList ≠ x.cps.toList) {rest : List (Addr × Obj)}
  (hK : ∀ T J t', Y.B fs (.ok (.ret (.ref T))) (led J [(true, T, tup2 (.int 0 0) (.str nm 0))] rest) t')
  : ∀ J tok, Y.G fs (tkF p 0 L) (tkT p 11 L) (led J (tkV9 x L D C Da m s b due sz k nm) rest) tok := by
  intro J tok
  have S1 := sus1 (su_strne N (x := stripF x) (y := x) (b := true) (by rw [bne_iff_ne]; exact hne)) sus0
  apply run3 X S1 [.s,.s,.l 0,.s,.l 0,.s,.m,.u 2 [] 0,.s,.s,.s,.s,.l 0,.a,.pE] rfl; intro b0 b1 b2 _
  refine ok_ret [1, 0, 0] (r := .ok (.ret (.ref b2))) (V := [(true, b2, tup2 (.int 0 0) (.str nm 0))]) (rest := rest) ?_ (fun tk J t' => hK b2 J t')
  kernel_rfl!
theorem tk_end1 {fs : List Fr} (N : Nice Y) (X : (heapK p.params).In h₀) (x : Str) (L D C Da : Addr) (m s b : Nat) (due : Str) (sz k : Nat) (nm : Str) (heq : stripF x = x) (j : Nat) (r : List Nat) (hj : Builtin.Str.occurrences x ⟨#[34]⟩ 0 x.length 1 = j :: r) (hnm : Txt.slice x none (some (Int.ofNat j)) = nm) (hxz : x.length ≤ 900) {rest : List (Addr × Obj)}
  (hK : ∀ T J t', Y.B fs (.ok (.ret (.ref T))) (led J [(true, T, tup2 (.int 1 0) (.str due 0))] rest) t')
  : ∀ J tok, Y.G fs (tkF p 0 L) (tkT p 11 L) (led J (tkV9 x L D C Da m s b due sz k nm) rest) tok := by
  intro J tok
  have S1 := sus1 (su_strne N (x := stripF x) (y := x) (b := false) (by rw [heq, bne_self_eq_false])) (sus1 (su_strindex N (x := x) (y := ⟨#[34]⟩) j r hj) sus0)
  subst hnm
  apply run5 X S1 [.s,.s,.l 0,.s,.l 0,.s,.m,.u 2 [] 0,.s,.s,.l 0,.s,.l 0,.s,.l 0,.s,.s,.s,.s,.u 2 [] 1,.s,.a] rfl; intro b0 b1 b2 b3 b4 _; apply ok_run; kernel_rfl!
  have S2 := sus1 (su_sl (Z := Y) (x := x) b4 none (some (Int.ofNat j)) rfl (Nat.le_trans (Txt.slice_le x _ _) (Nat.le_trans hxz (by decide)))) (sus1 (su_strne N (x := Txt.slice x none (some (Int.ofNat j))) (y := Txt.slice x none (some (Int.ofNat j))) (b := false) (by rw [bne_self_eq_false])) sus0)
  apply run5 X S2 [.s,.u 2 [0] 0,.s,.m,.u 2 [] 1,.s,.s,.s,.s,.l 1,.a,.pE] rfl; intro c0 c1 c2 c3 c4 _
  refine ok_ret [1, 0, 0, 0] (r := .ok (.ret (.ref c4))) (V := [(true, c4, tup2 (.int 1 0) (.str due 0))]) (rest := rest) ?_ (fun tk J t' => hK c4 J t')
  kernel_rfl!
end

section
def un : List Nat → Bool → List (List Nat)
  | [], true => [[92]]
  | [], false => []
  | c :: l, true => [92, c] :: un l false
  | c :: l, false => if c = 92 then un l true else [c] :: un l false
def ov (k : Nat) : List Nat → List Nat
  | [] => []
  | c :: l => if k = 0 then (if c = 34 then 34 :: 34 :: ov k l else c :: ov k l) else (if c = 34 ∨ c = 92 then 92 :: c :: ov k l else c :: ov k l)
def unE (c : Nat) : List Nat := if c = 34 ∨ c = 92 then [92, c] else [c]
def lastU (u : List Nat) : Nat := u.getLastD 0
theorem un_esc : ∀ (l : List Nat) (i : Nat) (e : Bool), (esc l i e).map (fun q => q.2.cps.toList) = un l e
  | [], _, true => rfl
  | [], _, false => rfl
  | c :: l, i, true => by rw [esc, un, List.map_cons, un_esc l]
  | c :: l, i, false => by
    rw [esc, un]
    split
    · exact un_esc l _ _
    · rw [List.map_cons, un_esc l]
theorem un_flat : ∀ (l : List Nat) (e : Bool), (un l e).flatten = (if e then [92] else []) ++ l
  | [], true => rfl
  | [], false => rfl
  | c :: l, true => by rw [un, List.flatten_cons, un_flat l]; rfl
  | c :: l, false => by
    rw [un]
    split
    · rename_i h; rw [un_flat l, h]; rfl
    · rw [List.flatten_cons, un_flat l]; rfl
theorem un_len : ∀ (l : List Nat) (e : Bool), ∀ u ∈ un l e, 1 ≤ u.length ∧ u.length ≤ 2
  | [], true, u, h => by rw [un, List.mem_singleton] at h; rw [h]; decide
  | [], false, _, h => nomatch h
  | c :: l, true, u, h => by
    rw [un] at h
    rcases List.mem_cons.mp h with h | h
    · rw [h]; exact ⟨Nat.le_succ _, Nat.le_refl _⟩
    · exact un_len l _ u h
  | c :: l, false, u, h => by
    rw [un] at h
    split at h
    · exact un_len l _ u h
    · rcases List.mem_cons.mp h with h | h
      · rw [h]; exact ⟨Nat.le_refl _, Nat.le_succ _⟩
      · exact un_len l _ u h
theorem un_ov1 : ∀ t : List Nat, un (ov 1 t) false = t.map unE
  | [] => rfl
  | c :: t => by
    rw [ov, if_neg (by decide), List.map_cons, unE]
    split
    · rw [un, if_pos rfl, un, un_ov1 t]
    · rename_i h; rw [un, if_neg (fun e => h (.inr e)), un_ov1 t]
theorem hid_un : ∀ (l : List Nat) (h r : Int) (e : Bool), r.fmod 2 = (if e then 1 else 0) → hidF l h r + ((un l e).count [34] : Nat) = h + (l.count 34 : Nat)
  | [], h, r, true, _ => by rw [hidF, un]; rfl
  | [], h, r, false, _ => by rw [hidF, un]; rfl
  | c :: l, h, r, true, hr => by
    rw [hidF, un, List.count_cons, List.count_cons, hr]
    have hn : (([92, c] : List Nat) == [34]) = false := by simp
    rw [hn]
    by_cases hc : c = 34
    · subst hc
      have := hid_un l (h + 1) 0 false rfl
      simp at this ⊢; omega
    · by_cases hd : c = 92
      · subst hd
        have := hid_un l h (r + 1) false (by rw [PyProof.Rows.fmod_eq _ (by decide)] at hr ⊢; simp at hr ⊢; omega)
        simp at this ⊢; omega
      · have := hid_un l h 0 false rfl
        simp [hc, hd] at this ⊢; omega
  | c :: l, h, r, false, hr => by
    rw [hidF, un, List.count_cons, hr]
    by_cases hc : c = 34
    · subst hc
      have := hid_un l h 0 false rfl
      simp at this ⊢; omega
    · by_cases hd : c = 92
      · subst hd
        have := hid_un l h (r + 1) true (by rw [PyProof.Rows.fmod_eq _ (by decide)] at hr ⊢; simp at hr ⊢; omega)
        simp at this ⊢; omega
      · have := hid_un l h 0 false rfl
        simp [hc, hd] at this ⊢; omega
theorem bare_ov0 : ∀ (t : List Nat) (e : Bool), (un (ov 0 t) e).count [34] = t.count 34 + (un t e).count [34]
  | [], true => rfl
  | [], false => rfl
  | c :: t, true => by
    have ih := bare_ov0 t false
    rw [ov, if_pos rfl]
    by_cases hc : c = 34
    · subst hc; rw [if_pos rfl]; simp [un]; omega
    · rw [if_neg hc]; simp [un, hc]; omega
  | c :: t, false => by
    rw [ov, if_pos rfl]
    by_cases hc : c = 34
    · have ih := bare_ov0 t false
      subst hc; rw [if_pos rfl]; simp [un]; omega
    · by_cases hd : c = 92
      · have ih := bare_ov0 t true
        subst hd; simp [un]; omega
      · have ih := bare_ov0 t false
        rw [if_neg hc]; simp [un, hc, hd]; omega
theorem bare_ov1 (t : List Nat) : (un (ov 1 t) false).count [34] = 0 := by
  rw [un_ov1, List.count_eq_zero]
  intro h
  obtain ⟨c, _, hc⟩ := List.mem_map.mp h
  unfold unE at hc
  split at hc
  · simp at hc
  · rename_i h2; exact h2 (.inl (by simpa using hc))
theorem c34_ov0 : ∀ t : List Nat, (ov 0 t).count 34 = 2 * t.count 34
  | [] => rfl
  | c :: t => by
    have ih := c34_ov0 t
    rw [ov, if_pos rfl]
    by_cases hc : c = 34
    · subst hc; simp; omega
    · simp [hc]; omega
theorem c92_ov0 : ∀ t : List Nat, (ov 0 t).count 92 = t.count 92
  | [] => rfl
  | c :: t => by
    have ih := c92_ov0 t
    rw [ov, if_pos rfl]
    by_cases hc : c = 34
    · subst hc; simp; omega
    · simp only [hc, if_false, List.count_cons]; omega
theorem c34_ov1 : ∀ t : List Nat, (ov 1 t).count 34 = t.count 34
  | [] => rfl
  | c :: t => by
    have ih := c34_ov1 t
    rw [ov, if_neg (by decide)]
    split
    · simp only [List.count_cons]; simp; omega
    · simp only [List.count_cons]; omega
theorem c92_ov1 : ∀ t : List Nat, (ov 1 t).count 92 = 2 * t.count 92 + t.count 34
  | [] => rfl
  | c :: t => by
    have ih := c92_ov1 t
    rw [ov, if_neg (by decide)]
    by_cases hc : c = 34
    · subst hc; simp; omega
    · by_cases hd : c = 92
      · subst hd; simp; omega
      · simp [hc, hd]; omega
theorem ov_len (k : Nat) : ∀ t : List Nat, (ov k t).length ≤ 2 * t.length
  | [] => Nat.le_refl _
  | c :: t => by
    have ih := ov_len k t
    rw [ov]
    repeat' split
    all_goals simp only [List.length_cons]; omega
theorem ov_mem (k : Nat) : ∀ t : List Nat, ∀ c ∈ ov k t, c ∈ t ∨ c = 34 ∨ c = 92
  | [], _, h => nomatch h
  | d :: t, c, h => by
    have ih := ov_mem k t c
    rw [ov] at h
    repeat' split at h
    all_goals simp only [List.mem_cons] at h ⊢
    all_goals rcases h with h | h
    all_goals first | (have := ih h; rcases this with h | h | h <;> simp [h]) | (simp [h]; done) | (rcases h with h | h <;> first | (have := ih h; rcases this with h | h | h <;> simp [h]) | simp [h])
-- the lexer
def ahU (us : List (List Nat)) : List (List Nat) := us.takeWhile (fun u => !(u == [34]))
theorem ahU_cons (u : List Nat) (us : List (List Nat)) (h : u ≠ [34]) : ahU (u :: us) = u :: ahU us := by
  unfold ahU; rw [List.takeWhile_cons]; simp [h]
theorem ahU_stop (us : List (List Nat)) : ahU ([34] :: us) = [] := rfl
theorem lex_un : ∀ l : List Nat, [92] ∉ ahU (un l false) → ∃ U, lexT (l ++ [34]) = some ((ahU (un l false)).map lastU, U) ∧ U.length + (ahU (un l false)).flatten.length = l.length ∧ U.count 10 + ((ahU (un l false)).map lastU).count 10 = l.count 10
  | [], _ => ⟨[], rfl, rfl, rfl⟩
  | [c], h => by
    by_cases hc : c = 34
    · subst hc; exact ⟨[34], rfl, rfl, rfl⟩
    · by_cases hd : c = 92
      · subst hd; exact absurd (by decide) h
      · refine ⟨[], ?_, ?_, ?_⟩ <;> simp [un, hc, hd, ahU_cons, lexT, lastU, ahU]
  | c :: c2 :: l, h => by
    by_cases hc : c = 34
    · subst hc
      refine ⟨c2 :: l ++ [34], ?_, ?_, ?_⟩ <;> simp [un, lexT, ahU, List.count_cons, List.count_append]
    · by_cases hd : c = 92
      · subst hd
        have e : un (92 :: c2 :: l) false = [92, c2] :: un l false := by simp [un]
        rw [e, ahU_cons _ _ (by simp)] at h ⊢
        obtain ⟨U, h1, h2, h3⟩ := lex_un l (fun hm => h (.tail _ hm))
        refine ⟨U, ?_, ?_, ?_⟩
        · show lexT (92 :: c2 :: (l ++ [34])) = _
          rw [lexT, if_neg (by decide), if_pos rfl, h1]; rfl
        · simp only [List.flatten_cons, List.length_append, List.length_cons, List.length_nil]; omega
        · simp only [List.map_cons, List.count_cons, show lastU [92, c2] = c2 from rfl]; simp; omega
      · have e : un (c :: c2 :: l) false = [c] :: un (c2 :: l) false := by rw [un, if_neg hd]
        rw [e, ahU_cons _ _ (by simp [hc])] at h ⊢
        obtain ⟨U, h1, h2, h3⟩ := lex_un (c2 :: l) (fun hm => h (.tail _ hm))
        refine ⟨U, ?_, ?_, ?_⟩
        · show lexT (c :: c2 :: (l ++ [34])) = _
          rw [lexT, if_neg hc, if_neg hd]
          rw [show c2 :: (l ++ [34]) = (c2 :: l) ++ [34] from rfl, h1]; rfl
        · simp only [List.flatten_cons, List.length_append, List.length_cons, List.length_nil] at h2 ⊢; omega
        · simp only [List.map_cons, List.count_cons, show lastU [c] = c from rfl] at h3 ⊢; omega
theorem p257_ov0 : ∀ t : List Nat, p257 (ov 0 t ++ [34]) = t
  | [] => rfl
  | c :: t => by
    have ih := p257_ov0 t
    rw [ov, if_pos rfl]
    by_cases hc : c = 34
    · subst hc; rw [if_pos rfl]; show p257 (34 :: 34 :: (ov 0 t ++ [34])) = _; simp [p257, ih]
    · rw [if_neg hc]; show p257 (c :: (ov 0 t ++ [34])) = _; rw [p257_ne hc, ih]
theorem p257_ov1 : ∀ t : List Nat, 2 ≤ t.count 34 → p257 (ov 1 t ++ [34]) = (ov 1 t).takeWhile (fun c => !(c == 34))
  | [], h => absurd h (by decide)
  | c :: t, h => by
    have ih := p257_ov1 t
    rw [ov, if_neg (by decide)]
    by_cases hc : c = 34
    · subst hc
      rw [if_pos (.inl rfl)]
      show p257 (92 :: 34 :: (ov 1 t ++ [34])) = _
      rw [p257_ne (by decide)]
      cases t with
      | nil => exact absurd h (by decide)
      | cons d t =>
        have : ∃ e l, ov 1 (d :: t) ++ [34] = e :: l ∧ e ≠ 34 := by
          rw [ov, if_neg (by decide)]
          split
          · exact ⟨_, _, rfl, by decide⟩
          · rename_i hd; exact ⟨_, _, rfl, fun e => hd (.inl e)⟩
        obtain ⟨e, l, he, hne⟩ := this
        rw [he]
        simp [p257, hne]
    · by_cases hd : c = 92
      · subst hd
        rw [if_pos (.inr rfl)]
        show p257 (92 :: 92 :: (ov 1 t ++ [34])) = _
        rw [p257_ne (by decide), p257_ne (by decide), ih (by simpa using h)]
        simp
      · rw [if_neg (by simp [hc, hd])]
        show p257 (c :: (ov 1 t ++ [34])) = _
        rw [p257_ne hc, ih (by simpa [hc] using h)]
        simp [hc]
end

section
def fl (ys : List Str) : List Nat := (ys.map fun y => y.cps.toList).flatten
theorem fl_append (a b : List Str) : fl (a ++ b) = fl a ++ fl b := by unfold fl; rw [List.map_append, List.flatten_append]
theorem fl_cons (a : Str) (b : List Str) : fl (a :: b) = a.cps.toList ++ fl b := rfl
theorem join_fl : ∀ ys : List Str, (Txt.join ⟨#[]⟩ ys).cps.toList = fl ys := by
  intro ys
  unfold Txt.join
  rw [StrLaws.glued_eq_join]
  induction ys with
  | nil => rfl
  | cons y ys ih =>
    cases ys with
    | nil => show y.cps.toList = y.cps.toList ++ []; rw [List.append_nil]
    | cons z r =>
      show (y ++ ⟨#[]⟩ ++ Str.join ⟨#[]⟩ (z :: r)).cps.toList = _
      simp only [Str.cps_append, Array.toList_append]
      rw [ih]; simp [fl_cons]
theorem str_eq {a b : Str} (h : a.cps.toList = b.cps.toList) : a = b := Str.ext' (Array.toList_inj.mp h)
theorem slice_ss {x : Str} {i j : Nat} (h1 : i ≤ j) (h2 : j ≤ x.length) : (Txt.slice x (some (Int.ofNat i)) (some (Int.ofNat j))).cps.toList = (x.cps.toList.drop i).take (j - i) := by
  have h := PyProof.Rows.slice_closes (x := x) (i := Int.ofNat i) (j := Int.ofNat j) ⟨Int.natCast_nonneg _, Int.ofNat_le.mpr h1, Int.ofNat_le.mpr (by simpa [Str.length] using h2)⟩
  rw [eq_of_beq h]
  show (x.cps.toList.drop i).take ((j : Int) - (i : Int)).toNat = _
  rw [show ((j : Int) - (i : Int)).toNat = j - i by omega]
theorem slice_sn {x : Str} {i : Nat} (h1 : i ≤ x.length) : (Txt.slice x (some (Int.ofNat i)) none).cps.toList = x.cps.toList.drop i := by
  have h := PyProof.Rows.slice_closes_from (x := x) (i := Int.ofNat i) ⟨Int.natCast_nonneg _, Int.ofNat_le.mpr (by simpa [Str.length] using h1)⟩
  rw [eq_of_beq h]
  show (x.cps.toList.drop i).take ((x.cps.toList.length : Int) - (i : Int)).toNat = _
  rw [show ((x.cps.toList.length : Int) - (i : Int)).toNat = (x.cps.toList.drop i).length by rw [List.length_drop]; omega, List.take_length]
def pr2 : List Nat → List (Nat × Nat) | a :: b :: l => (a, b) :: pr2 l | _ => []
theorem zip_pr2 : ∀ l : List Nat, (evL l).zip (evL (l.drop 1)) = pr2 l
  | [] => rfl
  | [_] => rfl
  | [_, _] => rfl
  | a :: b :: c :: l => by
    have ih := zip_pr2 (c :: l)
    show (a, b) :: ((evL (c :: l)).zip (evL l)) = _
    rw [pr2, ← ih]; rfl
theorem drop_get {us : List Str} {n : Nat} {u : Str} {v : List Str} (h : us.drop n = u :: v) : n < us.length ∧ us.drop (n + 1) = v ∧ us.take (n + 1) = us.take n ++ [u] := by
  have hn : n < us.length := by
    apply Nat.lt_of_not_le
    intro hh
    rw [List.drop_eq_nil_of_le hh] at h
    cases h
  rw [List.drop_eq_getElem_cons hn] at h
  injection h with h1 h2
  refine ⟨hn, h2, ?_⟩
  rw [List.take_succ_eq_append_getElem hn, h1]
theorem fl_take_le (us : List Str) {a b : Nat} (h : a ≤ b) : (fl (us.take a)).length ≤ (fl (us.take b)).length := by
  have : us.take b = us.take a ++ (us.drop a).take (b - a) := by
    conv => lhs; rw [show b = a + (b - a) by omega]
    exact List.take_add
  rw [this, fl_append, List.length_append]; omega
theorem fl_mid (us : List Str) {a b : Nat} (h : a ≤ b) : ((fl us).drop (fl (us.take a)).length).take ((fl (us.take b)).length - (fl (us.take a)).length) = fl ((us.drop a).take (b - a)) := by
  have e1 : us.take b = us.take a ++ (us.drop a).take (b - a) := by
    conv => lhs; rw [show b = a + (b - a) by omega]
    exact List.take_add
  have e2 : us = us.take a ++ ((us.drop a).take (b - a) ++ us.drop b) := by
    rw [← List.append_assoc, ← e1, List.take_append_drop]
  rw [e1, fl_append, List.length_append, Nat.add_sub_cancel_left]
  conv => lhs; arg 2; arg 2; rw [e2, fl_append, fl_append]
  rw [List.drop_left, List.take_left]
theorem fl_from (us : List Str) (a : Nat) : (fl us).drop (fl (us.take a)).length = fl (us.drop a) := by
  conv => lhs; arg 2; rw [← List.take_append_drop a us, fl_append]
  rw [List.drop_left]
structure SO (x : Str) (us : List Str) (F : Nat × Option Nat × List Str) (ps : List (Nat × Nat)) (sn : Nat) (k : List Str) : Prop where
  h1 : fl F.2.2 = fl (outS us ps sn k).2
  h2 : F.1 = (fl (us.take (outS us ps sn k).1)).length
  h3 : chainP us.length ps sn
  h4 : F.1 ≤ x.length
theorem strip_out (x : Str) (us : List Str) (hx : fl us = x.cps.toList) : ∀ (l : List Nat) (i : Nat) (e : Bool) (n : Nat) (st : Nat) (on : Option Nat) (r : List Str) (sn : Nat) (k : List Str),
    us.drop n = (esc l i e).map (·.2) → (fl (us.take n)).length + (if e then 1 else 0) = i →
    fl r = fl k → st = (fl (us.take sn)).length → sn ≤ n → n ≤ us.length → (∀ o ∈ on, sn ≤ o ∧ o < n) →
    SO x us ((esc l i e).foldl (stepS x) (st, on.map (fun o => (fl (us.take o)).length), r)) (pr2 (on.toList ++ cutL (us.drop n) n)) sn k := by
  have hend : ∀ (n : Nat) (st : Nat) (on : Option Nat) (r : List Str) (sn : Nat) (k : List Str), fl r = fl k → st = (fl (us.take sn)).length → sn ≤ us.length → SO x us (st, on.map (fun o => (fl (us.take o)).length), r) (pr2 (on.toList ++ [])) sn k := by
    intro n st on r sn k h1 h2 h3
    have e : pr2 (on.toList ++ []) = [] := by cases on <;> rfl
    rw [e]
    refine ⟨h1, h2, h3, ?_⟩
    rw [h2, show x.length = x.cps.toList.length by simp [Str.length], ← hx]
    exact Nat.le_trans (fl_take_le us h3) (by rw [List.take_length]; exact Nat.le_refl _)
  intro l
  induction l with
  | nil =>
    intro i e n st on r sn k hd hi hr hs hsn hn ho
    cases e with
    | false =>
      rw [hd]
      exact hend n st on r sn k hr hs (Nat.le_trans hsn hn)
    | true =>
      rw [hd]
      have : cutL (List.map (fun x => x.2) (esc [] i true)) n = [] := by
        show cutL [bsl] n = []
        rw [cutL, if_neg (by decide +kernel)]; rfl
      rw [this]
      have e2 : (esc [] i true).foldl (stepS x) (st, on.map (fun o => (fl (us.take o)).length), r) = (st, on.map (fun o => (fl (us.take o)).length), r) := by
        show stepS x _ (i - 1, bsl) = _
        exact if_neg (show ¬ bsl.cps.toList = [34] by decide +kernel)
      rw [e2]
      exact hend n st on r sn k hr hs (Nat.le_trans hsn hn)
  | cons c l ih =>
    intro i e n st on r sn k hd hi hr hs hsn hn ho
    cases e with
    | true =>
      rw [esc, List.map_cons] at hd
      obtain ⟨hn', hd', ht⟩ := drop_get hd
      have hu : (⟨⟨[92, c]⟩⟩ : Str).cps.toList ≠ [34] := by show [92, c] ≠ [34]; simp
      rw [esc, List.foldl_cons, hd, cutL, if_neg hu, ← hd']
      have : stepS x (st, on.map (fun o => (fl (us.take o)).length), r) (i, ⟨⟨[92, c]⟩⟩) = (st, on.map (fun o => (fl (us.take o)).length), r) := if_neg hu
      rw [this]
      refine ih (i + 1) false (n + 1) st on r sn k hd' ?_ hr hs (Nat.le_succ_of_le hsn) hn' (fun o h => ⟨(ho o h).1, Nat.lt_succ_of_lt (ho o h).2⟩)
      rw [ht, fl_append, List.length_append, show fl [(⟨⟨[92, c]⟩⟩ : Str)] = [92, c] from rfl]
      simp at hi ⊢; omega
    | false =>
      by_cases hc : c = 92
      · rw [esc, if_pos hc] at hd ⊢
        refine ih (i + 1) true n st on r sn k hd ?_ hr hs hsn hn ho
        simp at hi ⊢; omega
      · rw [esc, if_neg hc, List.map_cons] at hd
        obtain ⟨hn', hd', ht⟩ := drop_get hd
        have hi' : (fl (us.take (n + 1))).length + (if false = true then 1 else 0) = i + 1 := by
          rw [ht, fl_append, List.length_append, show fl [(⟨⟨[c]⟩⟩ : Str)] = [c] from rfl]
          simp at hi ⊢; omega
        rw [esc, if_neg hc, List.foldl_cons, hd, cutL, ← hd']
        by_cases hq : c = 34
        · subst hq
          rw [if_pos rfl]
          cases on with
          | none =>
            have : stepS x (st, Option.map (fun o => (fl (us.take o)).length) none, r) (i, ⟨⟨[34]⟩⟩) = (st, Option.map (fun o => (fl (us.take o)).length) (some n), r) := by
              show (st, some i, r) = (st, some _, r)
              rw [show i = (fl (us.take n)).length by simpa using hi.symm]
            rw [this]
            exact ih (i + 1) false (n + 1) st (some n) r sn k hd' hi' hr hs (Nat.le_succ_of_le hsn) hn' (fun o h => by cases h; exact ⟨hsn, Nat.lt_succ_self _⟩)
          | some o =>
            obtain ⟨h1, h2⟩ := ho o rfl
            have ho1 : (fl (us.take o)).length ≤ x.length := by
              rw [show x.length = x.cps.toList.length by simp [Str.length], ← hx]
              exact Nat.le_trans (fl_take_le us (show o ≤ us.length by omega)) (by rw [List.take_length]; exact Nat.le_refl _)
            have hr' : fl (if st = (fl (us.take o)).length then r else r ++ [Txt.slice x (some (Int.ofNat st)) (some (Int.ofNat (fl (us.take o)).length))]) = fl (k ++ (us.drop sn).take (o - sn)) := by
              have hm := fl_mid us h1
              rw [fl_append, ← hm, hs]
              split
              · rename_i he
                rw [← he, Nat.sub_self, List.take_zero, List.append_nil, hr]
              · rw [fl_append, hr]
                congr 1
                refine (List.append_nil _).trans ((slice_ss (fl_take_le us h1) ho1).trans ?_)
                rw [hx]
            have := ih (i + 1) false (n + 1) (i + 1) none (if st = (fl (us.take o)).length then r else r ++ [Txt.slice x (some (Int.ofNat st)) (some (Int.ofNat (fl (us.take o)).length))]) (n + 1) (k ++ (us.drop sn).take (o - sn)) hd' hi' hr' (by simpa using hi'.symm) (Nat.le_refl _) hn' (fun o h => nomatch h)
            exact ⟨this.h1, this.h2, ⟨h1, Nat.le_of_lt h2, hn', this.h3⟩, this.h4⟩
        · have hu : (⟨⟨[c]⟩⟩ : Str).cps.toList ≠ [34] := by show [c] ≠ [34]; simpa using hq
          rw [if_neg hu]
          have : stepS x (st, on.map (fun o => (fl (us.take o)).length), r) (i, ⟨⟨[c]⟩⟩) = (st, on.map (fun o => (fl (us.take o)).length), r) := if_neg hu
          rw [this]
          exact ih (i + 1) false (n + 1) st on r sn k hd' hi' hr hs (Nat.le_succ_of_le hsn) hn' (fun o h => ⟨(ho o h).1, Nat.lt_succ_of_lt (ho o h).2⟩)
def usOf (x : Str) : List Str := (esc x.cps.toList 0 false).map (·.2)
theorem us_un (x : Str) : (usOf x).map (fun y => y.cps.toList) = un x.cps.toList false := by
  rw [usOf, List.map_map]; exact un_esc _ _ _
theorem us_fl (x : Str) : fl (usOf x) = x.cps.toList := by
  unfold fl; rw [us_un, un_flat]; rfl
def outF (x : Str) : Nat × List Str := outS (usOf x) ((evL (cutL (usOf x) 0)).zip (evL ((cutL (usOf x) 0).drop 1))) 0 []
theorem strip_is_out (x : Str) : chainP (usOf x).length ((evL (cutL (usOf x) 0)).zip (evL ((cutL (usOf x) 0).drop 1))) 0 ∧ (34 ∈ x.cps.toList → stripF x = Txt.join ⟨#[]⟩ ((outF x).2 ++ (usOf x).drop (outF x).1)) := by
  have h := strip_out x (usOf x) (us_fl x) x.cps.toList 0 false 0 0 none [] 0 [] rfl rfl rfl rfl (Nat.le_refl _) (Nat.zero_le _) (fun o h => nomatch h)
  obtain ⟨h1, h2, h3, h4⟩ := h
  rw [show (none : Option Nat).toList ++ cutL ((usOf x).drop 0) 0 = cutL (usOf x) 0 from rfl, ← zip_pr2] at h1 h2 h3
  refine ⟨h3, fun hm => str_eq ?_⟩
  rw [stripF, if_pos hm, join_fl, join_fl, fl_append]
  change fl _ = fl (outF x).2 ++ _
  change _ = fl (outF x).2 at h1
  change _ = (fl ((usOf x).take (outF x).1)).length at h2
  have key : ∀ F : Nat × Option Nat × List Str, fl F.2.2 = fl (outF x).2 → F.1 = (fl ((usOf x).take (outF x).1)).length → F.1 ≤ x.length → fl (stripT x F) = fl (outF x).2 ++ fl ((usOf x).drop (outF x).1) := by
    intro F h1 h2 h4
    have e := fl_from (usOf x) (outF x).1
    rw [← h2, us_fl] at e
    rw [← h1, ← e, stripT]
    split
    · rw [fl_append]
      congr 1
      exact (List.append_nil _).trans (slice_sn h4)
    · rename_i hh
      rw [List.drop_eq_nil_of_le (by rw [Array.length_toList]; simpa [Str.length] using hh), List.append_nil]
  exact key _ h1 h2 h4
theorem out_len (us : List Str) (hu : ∀ u ∈ us, 1 ≤ u.cps.toList.length) : ∀ (ps : List (Nat × Nat)) (s : Nat) (k : List Str), chainP us.length ps s → (fl (outS us ps s k).2).length + (fl (us.drop (outS us ps s k).1)).length + ps.length ≤ (fl k).length + (fl (us.drop s)).length
  | [], s, k, _ => Nat.le_refl _
  | (o, c) :: ps, s, k, h => by
    obtain ⟨h1, h2, h3, h4⟩ := h
    have ih := out_len us hu ps (c + 1) (k ++ (us.drop s).take (o - s)) h4
    rw [outS]
    have e1 : us.drop s = (us.drop s).take (o - s) ++ us.drop o := by
      conv => lhs; rw [← List.take_append_drop (o - s) (us.drop s), List.drop_drop, show s + (o - s) = o by omega]
    have e2 : (fl (us.drop (c + 1))).length + 1 ≤ (fl (us.drop o)).length := by
      have e3 : us.drop o = (us.drop o).take (c - o) ++ us.drop c := by
        conv => lhs; rw [← List.take_append_drop (c - o) (us.drop o), List.drop_drop, show o + (c - o) = c by omega]
      rw [e3, fl_append, List.length_append, List.drop_eq_getElem_cons h3, fl_cons, List.length_append]
      have := hu us[c] (List.getElem_mem h3)
      omega
    have e4 : (fl (us.drop s)).length = (fl ((us.drop s).take (o - s))).length + (fl (us.drop o)).length := by
      conv => lhs; rw [e1, fl_append, List.length_append]
    rw [fl_append, List.length_append] at ih
    rw [e4, List.length_cons]
    omega
theorem cut_len : ∀ (us : List Str) (i : Nat), (cutL us i).length = (us.map (fun y => y.cps.toList)).count [34]
  | [], _ => rfl
  | u :: us, i => by
    rw [cutL, List.map_cons, List.count_cons]
    split
    · rename_i h; rw [h, List.length_cons, cut_len us]; simp
    · rename_i h; rw [cut_len us]; simp [h]
theorem pr2_len : ∀ l : List Nat, 2 ≤ l.length → 1 ≤ (pr2 l).length
  | [], h => absurd h (by decide)
  | [_], h => absurd h (by simp)
  | _ :: _ :: _, _ => Nat.succ_le_succ (Nat.zero_le _)
end

section
def sb (c : Nat) (z : List Nat) (l : List Nat) : List Nat := (l.map fun k => if k = c then z else [k]).flatten
theorem sb_append (c : Nat) (z a b : List Nat) : sb c z (a ++ b) = sb c z a ++ sb c z b := by unfold sb; rw [List.map_append, List.flatten_append]
theorem sb_free (c : Nat) (z : List Nat) : ∀ l : List Nat, c ∉ l → sb c z l = l
  | [], _ => rfl
  | k :: l, h => by
    have h1 : ¬ k = c := fun e => h (e ▸ List.mem_cons_self ..)
    have ih := sb_free c z l fun m => h (List.mem_cons_of_mem _ m)
    show (if k = c then z else [k]) ++ sb c z l = _
    rw [if_neg h1, ih]; rfl
theorem sb_join (c : Nat) (z : Str) : ∀ parts : List Str, (∀ p ∈ parts, c ∉ p.cps.toList) → sb c z.cps.toList (Str.join ⟨#[c]⟩ parts).cps.toList = (Str.join z parts).cps.toList
  | [], _ => rfl
  | [p], h => sb_free c _ _ (h p (List.mem_singleton.mpr rfl))
  | p :: q :: r, h => by
    have ih := sb_join c z (q :: r) fun a ha => h a (List.mem_cons_of_mem _ ha)
    show sb c _ (p ++ ⟨#[c]⟩ ++ Str.join ⟨#[c]⟩ (q :: r)).cps.toList = (p ++ z ++ Str.join z (q :: r)).cps.toList
    simp only [Str.cps_append, Array.toList_append]
    rw [sb_append, sb_append, ih, sb_free c _ _ (h p (List.mem_cons_self ..))]
    congr 2
    show (if c = c then z.cps.toList else [c]) ++ [] = _
    rw [if_pos rfl, List.append_nil]
theorem replace_sb (x z : Str) (c : Nat) : (Txt.replace x ⟨#[c]⟩ z).cps.toList = sb c z.cps.toList x.cps.toList := by
  have h := sb_join c z _ (StrLaws.split_free x c)
  rw [StrLaws.replace_one, ← h, StrLaws.join_split]
theorem over0 (x : Str) : (over x 0).cps.toList = ov 0 x.cps.toList := by
  show (Txt.replace x ⟨#[34]⟩ _).cps.toList = _
  rw [replace_sb]
  generalize x.cps.toList = l
  induction l with
  | nil => rfl
  | cons c l ih =>
    show (if c = 34 then [34, 34] else [c]) ++ sb 34 [34, 34] l = _
    rw [ov, if_pos rfl]
    split
    · exact congrArg (fun z => 34 :: 34 :: z) ih
    · exact congrArg (fun z => c :: z) ih
theorem over1 (x : Str) : (over x 1).cps.toList = ov 1 x.cps.toList := by
  show (Txt.replace (Txt.replace x ⟨#[92]⟩ _) ⟨#[34]⟩ _).cps.toList = _
  rw [replace_sb, replace_sb]
  generalize x.cps.toList = l
  induction l with
  | nil => rfl
  | cons c l ih =>
    change sb 34 [92, 34] (sb 92 [92, 92] l) = ov 1 l at ih
    show sb 34 [92, 34] ((if c = 92 then [92, 92] else [c]) ++ sb 92 [92, 92] l) = _
    rw [sb_append, ih, ov, if_neg (show ¬ (1 : Nat) = 0 by decide)]
    by_cases hd : c = 92
    · rw [hd]; rfl
    · by_cases hc : c = 34
      · rw [hc]; rfl
      · rw [if_neg hd, if_neg (by simp [hc, hd])]
        show ((if c = 34 then [92, 34] else [c]) ++ []) ++ ov 1 l = _
        rw [if_neg hc]; rfl
theorem over_eq (x : Str) (k : Nat) (hk : k = 0 ∨ k = 1) : (over x k).cps.toList = ov k x.cps.toList := by
  rcases hk with rfl | rfl
  · exact over0 x
  · exact over1 x
theorem cnt_list (c : Nat) (l : List Nat) : PyProof.Rows.cnt c l = (l.count c : Nat) := by
  induction l with
  | nil => rfl
  | cons k l ih =>
    rw [PyProof.Rows.cnt_cons, ih, List.count_cons]
    by_cases h : k = c
    · simp [h]; omega
    · simp [h]
theorem cntO_one (x : Str) (c : Nat) : cntO x ⟨#[c]⟩ = (x.cps.toList.count c : Nat) := by
  rw [← cnt_list]
  exact PyProof.Rows.count_is x c
end

section
variable {prog : Program} {w : World} {A : Around} {R : Result → Shared → Prop} {h₀ : Heap} {d : Drawn} {os : OsState} {vs : Array Value} {hh : A.handled = none} {t : Nat} {p : Setting} {chg : List (Addr × Obj)} {Y : Calc h₀ [(125, tableObj vs)] p} {Z : Calc h₀ chg p}
theorem lastS_l (u : Str) (h1 : 1 ≤ u.cps.toList.length) (h2 : u.cps.toList.length ≤ 2) : (lastS u).cps.toList = [lastU u.cps.toList] := by
  obtain ⟨⟨l⟩⟩ := u
  match l, h1, h2 with
  | [a], _, _ => kernel_rfl!
  | [a, b], _, _ => kernel_rfl!
theorem lasts_fl : ∀ us : List Str, (∀ u ∈ us, 1 ≤ u.cps.toList.length ∧ u.cps.toList.length ≤ 2) → fl (us.map lastS) = (us.map fun y => y.cps.toList).map lastU
  | [], _ => rfl
  | u :: us, h => by
    have ih := lasts_fl us fun v hv => h v (.tail _ hv)
    rw [List.map_cons, fl_cons, ih, lastS_l u (h u (.head _)).1 (h u (.head _)).2]
    rfl
structure TkE (x : Str) (ah : List Str) (W U : List Nat) : Prop where
  hw : lexT (x.cps.toList ++ [34]) = some (W, U)
  hW : fl (ah.map lastS) = W
  hU : U.length + (fl ah).length = x.cps.toList.length
  h10 : U.count 10 + W.count 10 = x.cps.toList.count 10
theorem tk_tail {g : Array GenState} {fs : List Fr} (hR : (wpC prog w A R h₀ d os hh [(125, tableObj vs)] g).Rm fs 350) (X : (heapK w.params).In h₀) (hB : BI h₀) {own : List (Addr × Obj)} (hTB : TB vs own) (hM : ∃ sl, h₀.get? 4 = some ⟨.type "module", some 0, .plain, sl⟩) (x : Str) (hx : ∀ c ∈ x.cps.toList, Sg c) (hxz : x.length ≤ 900) (L D C Da : Addr) (m s b : Nat) {rest : List (Addr × Obj)} {ea : Array Value} (ah : List Str) (he : ea.toList.map vv = ah.map strV) (hz : ah.length ≤ 1000) (hl : ∀ u ∈ ah, u.length ≤ 2) {W U : List Nat} (E : TkE x ah W U)
  (hK : ∀ cc ca ct cl due sz k J tok, due.cps.toList = W → (wpC prog w A R h₀ d os hh [(125, tableObj (tb1 cc))] g).G fs (tkF ⟨prog, w.params⟩ 0 L) (tkT ⟨prog, w.params⟩ 11 L) (led J (tkV9 x L D C Da m s b due sz k ⟨⟨p257 (x.cps.toList ++ [34])⟩⟩) ((cc, codO ca ct cl) :: rest)) tok)
  : ∀ J tok, (wpC prog w A R h₀ d os hh [(125, tableObj vs)] g).G fs (tkF ⟨prog, w.params⟩ 0 L) (tkT ⟨prog, w.params⟩ 6 L) (led J (tkA x L D C Da m s b ea) (own ++ rest)) tok := by
  obtain ⟨hw, hW, hU, h10⟩ := E
  have hxl : x.cps.toList.length = x.length := by simp [Str.length]
  have hd : (Txt.join ⟨#[]⟩ (ah.map lastS)).cps.toList = W := by rw [join_fl, hW]
  have hsz : (Txt.join ⟨#[]⟩ ah).length = (fl ah).length := by rw [← join_fl]; simp [Str.length]
  have hk := cntO_one (Txt.join ⟨#[]⟩ (ah.map lastS)) 10
  rw [hd] at hk
  have N := nice_wp prog w A R h₀ d os hh [(125, tableObj vs)] g
  have N3 := nice3_wp prog w A R h₀ d os hh [(125, tableObj vs)] g
  have hR60 : (wpC prog w A R h₀ d os hh [(125, tableObj vs)] g).Rm fs 370 := ⟨Nat.le_trans hR.1 (by decide), Nat.le_trans hR.2 (by decide)⟩
  refine tk_due N N3 hR60 X x L D C Da m s b ah he hz hl ?_
  refine tk_size N N3 hR60 X hB x L D C Da m s b _ ah he hz hl (by rw [hsz]; omega) ?_
  refine tk_word hR X hB hTB hM x L D C Da m s b _ _ hx hxz W U hw ?_
  intro cc ca ct cl Dw J tok hDw
  have hDd : Dw = Txt.join ⟨#[]⟩ (ah.map lastS) := str_eq (hDw.trans hd.symm)
  subst hDd
  have e1 : (1 + ((x.cps.toList ++ [34]).count 10 : Nat) - (U.count 10 : Nat) : Int) = 1 + Int.ofNat (W.count 10) := by
    rw [List.count_append, show [34].count 10 = 0 from rfl]
    show (1 + ((x.cps.toList.count 10 + 0 : Nat) : Int) - _ : Int) = 1 + ((W.count 10 : Nat) : Int)
    omega
  have e2 : Int.ofNat U.length = Int.ofNat x.length - Int.ofNat (Txt.join ⟨#[]⟩ ah).length := by
    rw [hsz]
    show ((U.length : Nat) : Int) = ((x.length : Nat) : Int) - (((fl ah).length : Nat) : Int)
    omega
  rw [e1, e2]
  have N' := nice_wp prog w A R h₀ d os hh [(125, tableObj (tb1 cc))] g
  have N3' := nice3_wp prog w A R h₀ d os hh [(125, tableObj (tb1 cc))] g
  refine tk_test2 (Y := wpC prog w A R h₀ d os hh [(125, tableObj (tb1 cc))] g) N' N3' hR60 X hB x L D C Da m s b _ _ _ hk hxz ?_ J tok
  refine tk_name (Y := wpC prog w A R h₀ d os hh [(125, tableObj (tb1 cc))] g) N' hR60 X hB x L D C Da m s b _ _ _ hx hxz ?_
  intro J tok
  exact hK cc ca ct cl _ _ _ J tok hd
end

section
variable {prog : Program} {w : World} {A : Around} {R : Result → Shared → Prop} {h₀ : Heap} {d : Drawn} {os : OsState} {vs : Array Value} {hh : A.handled = none} {t : Nat} {p : Setting} {chg : List (Addr × Obj)} {Y : Calc h₀ [(125, tableObj vs)] p} {Z : Calc h₀ chg p}
theorem un_lone : ∀ (l : List Nat) (e : Bool), [92] ∈ ahU (un l e) → [34] ∉ un l e
  | [], true, _ => by decide
  | [], false, h => nomatch h
  | c :: l, true, h => by
    rw [un] at h ⊢
    rw [ahU_cons _ _ (by simp)] at h
    rcases List.mem_cons.mp h with h | h
    · simp at h
    · intro h2
      rcases List.mem_cons.mp h2 with h2 | h2
      · simp at h2
      · exact un_lone l false h h2
  | c :: l, false, h => by
    rw [un] at h ⊢
    split at h
    · rename_i hc; rw [if_pos hc]; exact un_lone l true h
    · rename_i hc
      rw [if_neg hc]
      by_cases hq : c = 34
      · rw [hq, ahU_stop] at h; cases h
      · rw [ahU_cons _ _ (by simpa using hq)] at h
        rcases List.mem_cons.mp h with h | h
        · exact absurd (by simpa using h.symm) hc
        · intro h2
          rcases List.mem_cons.mp h2 with h2 | h2
          · exact hq (by simpa using h2.symm)
          · exact un_lone l false h h2
theorem ah_take : ∀ us : List (List Nat), [34] ∈ us → ∃ j, us[j]? = some [34] ∧ (∀ i, i < j → us[i]? ≠ some [34]) ∧ ahU us = us.take j
  | [], h => nomatch h
  | u :: us, h => by
    by_cases hu : u = [34]
    · subst hu
      exact ⟨0, rfl, fun i h => absurd h (Nat.not_lt_zero _), rfl⟩
    · obtain ⟨j, h1, h2, h3⟩ := ah_take us (by rcases List.mem_cons.mp h with h | h; exact absurd h.symm hu; exact h)
      refine ⟨j + 1, h1, ?_, ?_⟩
      · intro i hi
        cases i with
        | zero => exact fun e => hu (Option.some.inj e)
        | succ i => exact h2 i (Nat.lt_of_succ_lt_succ hi)
      · rw [ahU_cons _ _ hu, h3]; rfl
theorem un_count_len : ∀ (l : List Nat) (e : Bool), (un l e).length ≤ l.length + 1
  | [], true => Nat.le_refl _
  | [], false => Nat.zero_le _
  | c :: l, true => by rw [un]; exact Nat.succ_le_succ (un_count_len l false)
  | c :: l, false => by
    rw [un]
    split
    · exact Nat.le_succ_of_le (un_count_len l true)
    · exact Nat.succ_le_succ (un_count_len l false)
theorem us_map_len (x : Str) : ∀ y ∈ usOf x, 1 ≤ y.cps.toList.length ∧ y.cps.toList.length ≤ 2 := by
  intro y hy
  exact un_len x.cps.toList false _ (by rw [← us_un]; exact List.mem_map_of_mem hy)
theorem tkP_of (x : Str) (hx : ∀ c ∈ x.cps.toList, Sg c) (hz : x.cps.toList.length ≤ 900) (hne : x.cps.toList ≠ []) : TkP x (usOf x) (x.cps.toList.count 34) (x.cps.toList.count 92) ((un x.cps.toList false).count [34]) where
  hx := hx
  hus := rfl
  hj := str_eq (by rw [join_fl, us_fl])
  hz := by
    have h1 := congrArg List.length (us_un x)
    have h2 := un_count_len x.cps.toList false
    rw [List.length_map] at h1; omega
  hxz := by simpa [Str.length] using Nat.le_trans hz (by decide : 900 ≤ 1000)
  hel := by
    have h1 := congrArg List.length (us_un x)
    have h2 := un_count_len x.cps.toList false
    rw [usOf, List.length_map, List.length_map] at h1; omega
  hne := by
    apply Nat.pos_of_ne_zero
    intro h
    have h1 := us_fl x
    rw [List.length_eq_zero_iff.mp h] at h1
    exact hne h1.symm
  hl := fun y hy => by have := (us_map_len x y hy).2; simpa [Str.length] using this
  hm := cntO_one x 34
  hs := cntO_one x 92
  hb := by rw [us_un]
theorem tkO_of (x : Str) (h : 34 ∈ x.cps.toList) : TkO x (usOf x) (outF x) where
  hch := (strip_is_out x).1
  hF := rfl
  hst := (strip_is_out x).2 h
theorem tkE_of (x : Str) (h : [92] ∉ ahU (un x.cps.toList false)) (ah : List Str) (ha : ah.map (fun y => y.cps.toList) = ahU (un x.cps.toList false)) (hl : ∀ u ∈ ah, 1 ≤ u.cps.toList.length ∧ u.cps.toList.length ≤ 2) : ∃ U, TkE x ah ((ahU (un x.cps.toList false)).map lastU) U := by
  obtain ⟨U, h1, h2, h3⟩ := lex_un x.cps.toList h
  refine ⟨U, h1, ?_, ?_, h3⟩
  · rw [lasts_fl ah hl, ha]
  · rw [fl, ha]; exact h2
theorem strip_ne (x : Str) (h : 2 ≤ (un x.cps.toList false).count [34]) (hm : 34 ∈ x.cps.toList) : (stripF x).cps.toList ≠ x.cps.toList := by
  obtain ⟨h3, h4⟩ := strip_is_out x
  rw [h4 hm, join_fl, fl_append]
  intro e
  have := out_len (usOf x) (fun u hu => (us_map_len x u hu).1) _ 0 [] h3
  have e2 := congrArg List.length e
  rw [List.length_append] at e2
  rw [zip_pr2] at this
  have h5 := pr2_len (cutL (usOf x) 0) (by rw [cut_len, us_un]; exact h)
  have h6 : (fl ((usOf x).drop 0)).length = x.cps.toList.length := by rw [List.drop_zero, us_fl]
  have h7 : outF x = outS (usOf x) (pr2 (cutL (usOf x) 0)) 0 [] := by unfold outF; rw [zip_pr2]
  rw [h7] at e2
  rw [h6, show (fl ([] : List Str)).length = 0 from rfl] at this
  omega
theorem strip_same (x : Str) (h : (un x.cps.toList false).count [34] = 0) (hm : 34 ∈ x.cps.toList) : stripF x = x := by
  rw [(strip_is_out x).2 hm]
  have h1 := cut_len (usOf x) 0
  rw [us_un, h] at h1
  have h2 : outF x = (0, []) := by
    unfold outF
    rw [List.length_eq_zero_iff.mp h1]; rfl
  rw [h2]
  exact str_eq (by rw [join_fl]; exact us_fl x)
theorem find_one (x : Str) (h : 34 ∈ x.cps.toList) : ∃ j r, Builtin.Str.occurrences x ⟨#[34]⟩ 0 x.length 1 = j :: r ∧ (Txt.slice x none (some (Int.ofNat j))).cps.toList = x.cps.toList.takeWhile (fun c => !(c == 34)) := by
  rcases StrLaws.occ_head x ⟨#[34]⟩ 1 (Nat.le_refl _) with ⟨_, hn⟩ | ⟨j, r, h1, h2, h3⟩
  · obtain ⟨i, hi⟩ := List.mem_iff_getElem?.mp h
    exact absurd ((StrLaws.subAt_one x 34 i).mpr hi) (hn i)
  · refine ⟨j, r, h1, ?_⟩
    have hj := (StrLaws.subAt_one x 34 j).mp h2
    have hno : ∀ k, k < j → x.cps.toList[k]? ≠ some 34 := fun k hk e => h3 k hk ((StrLaws.subAt_one x 34 k).mpr e)
    have hlt : j < x.cps.toList.length := (List.getElem?_eq_some_iff.mp hj).1
    have hs := PyProof.Rows.slice_closes_to (x := x) (j := Int.ofNat j) ⟨Int.natCast_nonneg _, Int.ofNat_le.mpr (Nat.le_of_lt hlt)⟩
    rw [eq_of_beq hs]
    show (x.cps.toList.drop 0).take ((j : Int) - 0).toNat = _
    rw [List.drop_zero, show ((j : Int) - 0).toNat = j by omega]
    generalize x.cps.toList = l at hj hno
    clear hs h1 h2 h3 h hlt
    induction l generalizing j with
    | nil => cases hj
    | cons c l ih =>
      cases j with
      | zero =>
        have : c = 34 := Option.some.inj hj
        subst this; rfl
      | succ j =>
        have hc : c ≠ 34 := fun e => hno 0 (Nat.succ_pos _) (by rw [e]; rfl)
        rw [List.take_succ_cons, List.takeWhile_cons, if_pos (by simpa using hc), ih j hj (fun k hk => hno (k + 1) (Nat.succ_lt_succ hk))]
end

section
variable {prog : Program} {w : World} {A : Around} {R : Result → Shared → Prop} {h₀ : Heap} {d : Drawn} {os : OsState} {vs : Array Value} {hh : A.handled = none} {t : Nat} {p : Setting} {chg : List (Addr × Obj)} {Y : Calc h₀ [(125, tableObj vs)] p} {Z : Calc h₀ chg p}
theorem sg_ov {k : Nat} {l : List Nat} (h : ∀ c ∈ l, Sg c) : ∀ c ∈ ov k l, Sg c := by
  intro c hc
  rcases ov_mem k l c hc with h1 | rfl | rfl
  · exact h c h1
  · exact .inr (.inr (.inl rfl))
  · exact .inr (.inr (.inr (.inl rfl)))
theorem map_last_unE : ∀ l : List Nat, (l.map unE).map lastU = l
  | [] => rfl
  | c :: l => by
    rw [List.map_cons, List.map_cons, map_last_unE l]
    congr 1
    unfold unE
    split <;> rfl
theorem taken_ok {g : Array GenState} {fs : List Fr} (hR : (wpC prog w A R h₀ d os hh [(125, tableObj vs)] g).Rm fs 350) (X : (heapK w.params).In h₀) (hB : BI h₀) {own : List (Addr × Obj)} (hTB : TB vs own) (hM : ∃ sl, h₀.get? 4 = some ⟨.type "module", some 0, .plain, sl⟩) (hg0 : Bare g) (x : Str) (tk : Tok) (C : Addr) (k : Nat) (t0 : List Nat) (hk : k = 0 ∨ k = 1) (hxl : x.cps.toList = ov k t0) (ht2 : 2 ≤ t0.count 34) (hsg : ∀ c ∈ t0, Sg c) (htl : t0.length ≤ 400) (m s b : Nat) (hm : m = (ov k t0).count 34) (hs : s = (ov k t0).count 92) (hb : b = (un (ov k t0) false).count [34]) {rest : List (Addr × Obj)} {jC}
  (hK : ∀ g' cc ca ct cl T nm J t', Bare g' → nm.cps.toList = t0 → (wpC prog w A R h₀ d os hh [(125, tableObj (tb1 cc))] g').B fs (.ok (.ret (.ref T))) (led J [(true, T, tup2 (.int (Int.ofNat k) 0) (.str nm 0))] ((cc, codO ca ct cl) :: rest)) t')
  : (wpC prog w A R h₀ d os hh [(125, tableObj vs)] g).C fs (.call (.ref 154) ⟨[.str x tk, .ref C], []⟩) ((C, bO jC true (cntT m s b)) :: (own ++ rest)) t := by
  have hR60 : ∀ g', (wpC prog w A R h₀ d os hh [(125, tableObj vs)] g').Rm fs 370 := fun _ => ⟨Nat.le_trans hR.1 (by decide), Nat.le_trans hR.2 (by decide)⟩
  have hx : ∀ c ∈ x.cps.toList, Sg c := by rw [hxl]; exact sg_ov hsg
  have hlen : x.cps.toList.length ≤ 800 := by rw [hxl]; exact Nat.le_trans (ov_len k t0) (by omega)
  have h34 : 34 ∈ x.cps.toList := by
    rw [← List.count_pos_iff, hxl]
    rcases hk with rfl | rfl
    · rw [c34_ov0]; omega
    · rw [c34_ov1]; omega
  have hne : x.cps.toList ≠ [] := fun e => by rw [e] at h34; cases h34
  have hxz : x.length ≤ 900 := by have := Nat.le_trans hlen (by decide : 800 ≤ 900); simpa [Str.length] using this
  have P := tkP_of x hx (Nat.le_trans hlen (by decide)) hne
  have O := tkO_of x h34
  rw [hxl, ← hm, ← hs, ← hb] at P
  refine tk_units (hR60 g) X hB x hx hg0 (usOf x) P.hz P.hne rfl tk C m s b ?_
  intro g' L D es J tok hbr he
  refine tk_mid (hR60 g') X hB hbr x (usOf x) L D C m s b P he ?_ J tok
  intro g2 J tok hb2
  have N := nice_wp prog w A R h₀ d os hh [(125, tableObj vs)] g2
  have N3 := nice3_wp prog w A R h₀ d os hh [(125, tableObj vs)] g2
  refine tk_mid2 N N3 (hR60 g2) X hB x (usOf x) L D C m s b P he O ?_ J tok
  have hml := us_map_len x
  have hmu := us_un x
  rcases hk with rfl | rfl
  · have hb3 : 2 ≤ (un x.cps.toList false).count [34] := by rw [hxl, bare_ov0]; omega
    have hb4 : b = (b - 1) + 1 := by rw [hb, ← hxl]; omega
    rw [hb4]
    obtain ⟨j, hj, hno, ha⟩ := ah_take (un x.cps.toList false) (List.count_pos_iff.mp (Nat.lt_of_lt_of_le (by decide) hb3))
    rw [← hmu] at hj hno
    refine tk_ahead1 N3 X x L D C m s (b - 1) (usOf x) he P.hz j hj hno ?_
    intro J tok Da ea hea
    have hl1 : [92] ∉ ahU (un x.cps.toList false) := fun h => un_lone _ _ h (List.count_pos_iff.mp (Nat.lt_of_lt_of_le (by decide) hb3))
    obtain ⟨U, E⟩ := tkE_of x hl1 ((usOf x).take j) (by rw [ha, List.map_take, hmu]) (fun u hu => hml u (List.mem_of_mem_take hu))
    refine tk_tail (g := g2) hR X hB hTB hM x hx hxz L D C Da m s (b - 1 + 1) _ hea (by rw [List.length_take]; have := P.hz; omega) (fun u hu => P.hl u (List.mem_of_mem_take hu)) E ?_ J tok
    intro cc ca ct cl due sz kk J tok hdue
    refine tk_end0 (Y := wpC prog w A R h₀ d os hh [(125, tableObj (tb1 cc))] g2) (nice_wp _ _ _ _ _ _ _ _ _ _) X x L D C Da m s (b - 1 + 1) due sz kk _ (strip_ne x hb3 h34) ?_ J tok
    intro T J t'
    exact hK g2 cc ca ct cl T _ J t' hb2 (by rw [hxl]; exact p257_ov0 t0)
  · have hb0 : (un x.cps.toList false).count [34] = 0 := by rw [hxl]; exact bare_ov1 t0
    have hb4 : b = 0 := by rw [hb, ← hxl]; exact hb0
    subst hb4
    refine tk_ahead0 X x L D C m s ?_
    intro J tok
    have hun : un x.cps.toList false = t0.map unE := by rw [hxl]; exact un_ov1 t0
    have haw : ahU (un x.cps.toList false) = un x.cps.toList false := by
      have : ∀ us : List (List Nat), us.count [34] = 0 → ahU us = us := by
        intro us
        induction us with
        | nil => exact fun _ => rfl
        | cons u us ih =>
          intro h
          have hu : u ≠ [34] := fun e => by rw [e, List.count_cons_self] at h; omega
          rw [List.count_cons_of_ne (fun e => hu (by simpa using e))] at h
          rw [ahU_cons _ _ hu, ih h]
      exact this _ hb0
    have hl1 : [92] ∉ ahU (un x.cps.toList false) := by
      rw [haw, hun]
      intro h
      obtain ⟨c, _, hc⟩ := List.mem_map.mp h
      unfold unE at hc
      split at hc
      · simp at hc
      · rename_i h2; exact h2 (.inr (by simpa using hc))
    obtain ⟨U, E⟩ := tkE_of x hl1 (usOf x) (by rw [haw, hmu]) hml
    refine tk_tail (g := g2) hR X hB hTB hM x hx hxz L D C D m s 0 _ he P.hz P.hl E ?_ J tok
    intro cc ca ct cl due sz kk J tok hdue
    obtain ⟨j, r, hj, hjs⟩ := find_one x h34
    refine tk_end1 (Y := wpC prog w A R h₀ d os hh [(125, tableObj (tb1 cc))] g2) (nice_wp _ _ _ _ _ _ _ _ _ _) X x L D C D m s 0 due sz kk _ (strip_same x hb0 h34) j r hj (str_eq ?_) hxz ?_ J tok
    · rw [hjs, hxl]; exact (p257_ov1 t0 ht2).symm
    · intro T J t'
      refine hK g2 cc ca ct cl T due J t' hb2 ?_
      rw [hdue, haw, hun, map_last_unE]
end

section
variable {prog : Program} {w : World} {A : Around} {R : Result → Shared → Prop} {h₀ : Heap} {d : Drawn} {os : OsState} {vs : Array Value} {hh : A.handled = none} {t : Nat} {p : Setting} {chg : List (Addr × Obj)} {Y : Calc h₀ [(125, tableObj vs)] p} {Z : Calc h₀ chg p}
theorem mm_old {h : Heap} {news : List (Addr × Obj)} {a : Addr} {o : Obj} (D : Mm h₀ h chg news) (hS : h₀.get? a = some o) (hc : hasCls o = true) : h.get? a = some o := by
  obtain ⟨l, D, _⟩ := D
  exact D.keep a o hS (by rw [hc]; rfl)
theorem load_old {fs c news tok} {t : Sem PySem.Fin} {a : Addr} {o : Obj} (hS : h₀.get? a = some o) (hc : hasCls o = true) (e : isLd t = some a) (x : Z.G fs c (ldK t o) news tok) : Z.G fs c t news tok := by
  cases t with
  | load a' q k => cases (Option.some.inj e); exact Z.load (fun h D => mm_old D hS hc) x
  | _ => cases e
noncomputable def smPickO (S b : Addr) (its : Array Value) (lo hi st : Option Int) : Sm := ⟨[(b, slO3 lo hi st)], .call (.builtin "list.__getitem__") ⟨[.ref S, .ref b], []⟩, 1,
  fun _ as' tok => ⟨.ok (.ret (.ref (as'.getD 0 0))), [(as'.getD 0 0, listE (slicePick its lo hi st) 0)], [], tok⟩, mC⟩
theorem old1A {old : List (Addr × Obj)} {b : Addr} {o : Obj} (h : old.map vP = [(b, o)]) : ∃ o', old = [(b, o')] ∧ vO o' = o := by
  cases old with
  | nil => cases h
  | cons q old =>
    obtain ⟨b', o2⟩ := q
    cases old with
    | cons => exact absurd (congrArg List.length h) (by simp)
    | nil =>
      have h1 := (List.cons.inj h).1
      have e1 : b' = b := congrArg Prod.fst h1
      exact ⟨o2, by rw [e1], congrArg Prod.snd h1⟩
theorem su_lsliceO (N : Nice3 Z) {S b : Addr} {es : Array Value} {lo hi st : Option Int} {sd : Option Addr} {n : Nat} {ssl : Array (Option Value)} (hS : h₀.get? S = some ⟨.type "list", sd, .seq es n, ssl⟩) (h0 : st ≠ some 0) (hz : es.size ≤ 16777216) : Su Z (smPickO S b es lo hi st) := by
  intro fs c c' k gd l news tok is old hi' ho hc' K
  obtain ⟨tks, rfl⟩ := mC_call hc'
  obtain ⟨o', rfl, hs⟩ := old1A ho
  obtain ⟨x, y, z, rfl, px, py, pz⟩ := slice_of hs
  have hm := getAll_mem hi'
  replace K := fun a => K [a] rfl
  refine N.call (fun r' news' tok' => ∃ a, r' = .ok (.ret (.ref a)) ∧ news' = (a, listE (slicePick es lo hi st) 0) :: news ∧ tok' = tok) (fun prog w A g d os h hA M => ?_) ?_
  · obtain ⟨j, hj1⟩ := hm _ (.head _)
    have hD := mm_old M hS rfl
    have hb := M.at hj1
    have hsz : es.size ≤ sizeLine := by
      unfold sizeLine
      omega
    have hl : h.IsList S es := ⟨_, hD, rfl, n, rfl⟩
    have hTs : Shared.TypeIs ⟨h, g, d, tok, os⟩ (.ref b) "slice" := ⟨_, hb, rfl⟩
    have hstep : ¬ ((rawPart st == rawInt 0) = true) := by
      cases st with
      | none => exact Bool.false_ne_true
      | some c =>
        intro hh
        have : c = 0 := by simpa [rawPart, rawInt] using hh
        exact h0 (by rw [this])
    refine wpAny_call_entry slot_list_getitem hl.typeIs entry_list_getitem ?_ (args_list_getitem _ _)
    show wpAny _ _ (Builtin.List.listSubscript? (.ref b) >>= _) _ _ _
    refine wpAny_bind ?_
    unfold Builtin.List.listSubscript?
    refine wpAny_bind (wpAny_specialOf hTs slice_no_index ?_)
    simp only [Option.isNone_none, if_true]
    refine wpAny_pure ?_
    show wpAny _ _ (typeOf (.ref b) >>= _) _ _ _
    refine wpAny_bind (wpAny_typeOf hTs ?_)
    rw [if_neg (by decide), listSliceParts_eq]
    refine wpAny_bind (wpAny_bind (wpAny_field hb rfl (x := z) rfl (wpAny_bind (wpAny_listPart pz ?_))))
    rw [if_neg hstep]
    refine wpAny_bind (wpAny_field hb rfl (x := x) rfl (wpAny_bind (wpAny_listPart px ?_)))
    refine wpAny_bind (wpAny_field hb rfl (x := y) rfl (wpAny_bind (wpAny_listPart py (wpAny_pure ?_))))
    refine wpAny_bind (m := Builtin.List.listItems (.ref S)) ?_
    unfold Builtin.List.listItems
    refine wpAny_bind (wpAny_seqItems hD rfl (wpAny_pure ?_))
    refine wpAny_bind (wpAny_of_eq (sliceIndices_raw lo hi st es.size h0) ?_)
    refine wpAny_bind (wpAny_newObj_type (wpAny_pure ⟨_, rfl, ?_⟩) (Nat.le_trans (slicePick_size_le es lo hi st) hsz))
    obtain ⟨ln, M, q⟩ := M
    exact ⟨_, _, _, rfl, ⟨_, Mem.alloc M rfl, q.cons _⟩, _, rfl, rfl, rfl⟩
  · rintro r' news' tok' ⟨a, rfl, rfl, rfl⟩
    have := K a
    unfold Eff.news smPickO at this
    dsimp only at this
    rw [setAll_nil] at this
    exact this
def cellK : Str × NameKind → Str × NameKind | (x, .free) => (x, .cell) | q => q
noncomputable def compEnvC (K : Frag) (a code : Nat) (L N : Addr) (e : PySem.Expr) (cl : List (Str × Addr)) : Env := { compEnv K a code L N e with cells := cl, scope := { (compEnv K a code L N e).scope with names := (compEnv K a code L N e).scope.names.map cellK } }
def orC (C : Addr) : List (Str × Addr) := [(Str.ofString "order", C)]
noncomputable def drE (p : Setting) : PySem.Expr := vlOf ((bodyOf (heapK p.params) 159)[0]?)
noncomputable def drC (p : Setting) (L Co It Ac N : Addr) : Code := compL (drE p) It Ac (compEnv (heapK p.params) 159 158 L N (drE p))
noncomputable def drS (p : Setting) (L Co It Ac N : Addr) : Code := compS (drE p) It Ac (compEnv (heapK p.params) 159 158 L N (drE p))
def intI (n : Int) : Value := .int n 0
structure DrS where
  i : Nat
  ac : Array Value
  last : Option Int
structure DrA where
  (L Co Da It Ac N S : Addr)
  ea : Array Value
noncomputable def clN : Obj := ⟨.type SZ.s15660640913423913556x4, none, .cell none, #[]⟩
noncomputable def drN : Option Int → Obj | none => frC [] | some u => frC [dE (Str.ofString "cell") (.int u 0)]
noncomputable def drW (q : DrA) (p : DrS) : VL := [(true, q.N, drN p.last), (false, q.Ac, listE p.ac 0), (true, q.Co, clN), (true, q.L, frO [dE (Str.ofString "script") (.ref q.S)])]
noncomputable def drV (q : DrA) (p : DrS) : VL := (true, q.It, lItO (.ref q.Da) (Int.ofNat p.i)) :: (false, q.Da, listE q.ea 0) :: drW q p
def drI (n : Int) : Nat := (n.fmod 1000000).toNat
theorem su_pow10 (N : Nice Z) : Su Z (smT "int.__pow__" [.int 10 0, .int 6 0] (.int 1000000 0)) := by
  refine N.made F.slot_int_pow (fun s tk => typeIs_int _ _ _) F.entry_int_pow (fun tk => F.args_int_pow_2 _ _) (fun tk => AutoIntG2.int___pow___int_int_4 10 _ 6 _ (by decide) (by decide) (by decide) (by decide) (by decide +kernel)) fun tk s Q hq => hq s.toks 1
theorem su_intmod (N : Nice Z) {x y : Int} (h : (y == 0) = false) : Su Z (smT "int.__mod__" [.int x 0, .int y 0] (.int (x.fmod y) 0)) :=
  N.made F.slot_int_mod (fun s tk => typeIs_int _ _ _) F.entry_int_mod (fun tk => F.args_int_mod_2 _ _) (fun tk => AutoIntG6.int___mod___int_int_1 x _ y _ (by rw [h]; decide)) fun tk s Q hq => hq s.toks 1
theorem drI_int (n : Int) : Value.int (n.fmod 1000000) 0 = intV (drI n) := by
  unfold intV drI
  have : 0 ≤ n.fmod 1000000 := by rw [PyProof.Rows.fmod_eq _ (by decide)]; exact Int.emod_nonneg _ (by decide)
  congr 1
  exact (Int.toNat_of_nonneg this).symm
end

section
variable {prog : Program} {w : World} {A : Around} {R : Result → Shared → Prop} {h₀ : Heap} {d : Drawn} {os : OsState} {vs : Array Value} {hh : A.handled = none} {t : Nat} {p : Setting} {chg : List (Addr × Obj)} {Y : Calc h₀ [(125, tableObj vs)] p} {Z : Calc h₀ chg p}
theorem dr_loop {fs : List Fr} {cB : Code} {kB : Result → Sem PySem.Fin} (N : Nice Y) (N3 : Nice3 Y) (X : (heapK p.params).In h₀) (hB : BI h₀) (q : DrA) (us : List Int) (he : q.ea.toList.map vv = us.map intI) (hz : us.length ≤ 1000) {rest : List (Addr × Obj)}
  (hend : ∀ ac last J tok, ac.toList.map vv = (us.map drI).map intV → Y.G fs cB (kB (.ok .next)) (led J (drW q ⟨0, ac, last⟩) rest) tok)
  (a : DrS) (ha : a.i ≤ us.length ∧ a.ac.toList.map vv = ((us.take a.i).map drI).map intV) : ∀ J tok, Y.C (⟨cB, kB, true⟩ :: fs) (drC p q.L q.Co q.It q.Ac q.N) (led J (drV q a) rest) tok := by
  have X0 := X
  obtain ⟨_, e0, cl, dd, es0, ep0, sl, rfl, hL⟩ := hB
  replace X := in_cons e0 X
  refine gc_loop (fun a => us.length - a.i) (drV q) (fun a => a.i ≤ us.length ∧ a.ac.toList.map vv = ((us.take a.i).map drI).map intV) ?_ a ha
  obtain ⟨L, Co, Da, It, Ac, NN, S, ea⟩ := q
  rintro ⟨i, ac, last⟩ ⟨hi, hr⟩ ih J tok
  dsimp only at hi hr ih he
  apply g_code
  by_cases hlt : i < us.length
  · have hc : (ea.toList.map vv)[(Int.ofNat i).toNat]? = some (intI us[i]) := by rw [he, List.getElem?_map]; simp [hlt]
    have hn : us.take (i + 1) = us.take i ++ [us[i]] := List.take_succ_eq_append_getElem hlt
    generalize us[i] = u at hc hn
    have S1 := sus1 (su_lnext (Z := Y) X (It := It) (D := Da) hc) (sus1 (su_pow10 N) (sus1 (su_intmod N (x := u) (y := 1000000) rfl) (sus1 (su_append N3 (D := Ac) (L := ac.toList.map vv) (v := .int (u.fmod 1000000) 0) (by rw [hr, List.length_map, List.length_map, List.length_take]; omega)) sus0)))
    replace ih := fun ac hq => ih ⟨i + 1, ac, some u⟩ (by show us.length - (i + 1) < us.length - i; omega) ⟨hlt, hq⟩
    rcases last with _ | u0
    all_goals
      apply run1 X S1 [.s,.l 0,.u 1 [0,1] 0,.s,.s,.s,.s,.l 2,.l 2,.s,.s,.s,.s] rfl; intro b0 _; apply ok_run; kernel_rfl!
      obtain ⟨bh, bk, bq⟩ := hL (Str.ofString "int") (.type "int") (by kernel_rfl!) (by kernel_rfl!)
      k_subL
      apply run5 X S1 [.s,.l 2,.s,.c,.g,.c,.g,.s,.p,.c,.g,.p,.p,.s,.s,.s,.s,.u 2 [] 1,.s,.u 2 [] 2,.u 1 [3] 3,.gE] rfl; intro c0 c1 c2 c3 c4 _
      refine ok_code [1, 2, 1, 2, 1, 1] ?_ (ih (ac.push (.int (u.fmod 1000000) c4)) (by rw [Array.toList_push, List.map_append, hr, hn, List.map_append, List.map_append]; show _ ++ [Value.int (u.fmod 1000000) 0] = _; rw [drI_int]; rfl))
      kernel_rfl!
  · have hc : (ea.toList.map vv)[(Int.ofNat i).toNat]? = none := by rw [he, List.getElem?_map]; simp; omega
    obtain rfl : i = us.length := by omega
    have S1 := sus1 (su_lend (Z := Y) X (It := It) (D := Da) hc) sus0
    rw [List.take_length] at hr
    rcases last with _ | u0
    · apply run2 X S1 [.s,.l 0,.u 2 [0,1] 0,.l 0,.p] rfl; intro b0 b1 _
      refine ok_GV [0, 0, 0, 0, 1, 2, 1, 1] (t := kB (.ok .next)) ?_ (fun J tok => hend ac none J tok hr)
      kernel_rfl!
    · apply run2 X S1 [.s,.l 0,.u 2 [0,1] 0,.l 0,.p] rfl; intro b0 b1 _
      refine ok_GV [0, 0, 0, 0, 1, 2, 1, 1] (t := kB (.ok .next)) ?_ (fun J tok => hend ac (some u0) J tok hr)
      kernel_rfl!
end

section
variable {prog : Program} {w : World} {A : Around} {R : Result → Shared → Prop} {h₀ : Heap} {d : Drawn} {os : OsState} {vs : Array Value} {hh : A.handled = none} {t : Nat} {p : Setting} {chg : List (Addr × Obj)} {Y : Calc h₀ [(125, tableObj vs)] p} {Z : Calc h₀ chg p}
theorem dr_start {K : Frag} (X : K.In h₀) {F : List Fr} (q : DrA) {J : Nat → JO} {rest : List (Addr × Obj)} (hl : ∀ tok, Y.C F (drC p q.L q.Co q.It q.Ac q.N) (led J (drV q ⟨0, #[], none⟩) rest) tok) (tok : Nat) : Y.C F (drS p q.L q.Co q.It q.Ac q.N) (led J (drV q ⟨0, #[], none⟩) rest) tok := by
  obtain ⟨L, Co, Da, It, Ac, NN, S, ea⟩ := q
  apply g_code
  cases hb : p.params.followText "comprehension-iter-twice"
  all_goals
    apply run0 X sus0 [.s] rfl; intro _; apply ok_run; kernel_rfl!
    k_subL
    first
      | (apply run0 X sus0 [.s,.s,.l 0,.l 0,.m,.c,.l 0,.g,.p,.l 0,.gE] rfl; intro _; refine ok_codeN ?_ hl; kernel_rfl!)
      | (apply run0 X sus0 [.gE] rfl; intro _; refine ok_codeN ?_ hl; kernel_rfl!)
noncomputable def lwE (p : Setting) (L Co : Addr) : Env := { envOf (heapK p.params) 159 158 L with cells := orC Co }
noncomputable def lwF (p : Setting) (n : Nat) (L Co : Addr) : Code := .func ((bodyOf (heapK p.params) 159).drop n) (lwE p L Co)
noncomputable def lwT (p : Setting) (n : Nat) (L Co : Addr) : Sem PySem.Fin := oT (ex p [] [] [] [.s] [] (lwF p n L Co) (den (lwF p n L Co)) [] 0 [])
noncomputable def lwL (S : Addr) (es : List DictEntry) : Obj := frO (dE (Str.ofString "script") (.ref S) :: es)
theorem pick_any (es : Array Value) (n : Nat) : (slicePick es none (some (Int.ofNat n)) none).toList = es.toList.take n := by
  have h : slicePick es none (some (Int.ofNat n)) none = slicePick es none (some (Int.ofNat (min n es.size))) none := by
    unfold slicePick sliceBounds
    simp only [Option.getD_none, show (1 : Int) > 0 by decide, if_true]
    have e : ∀ m : Nat, (if (Int.ofNat m) < 0 then (Int.ofNat m) + (es.size : Int) else (Int.ofNat m)) = (m : Int) := fun m => if_neg (by simp)
    rw [e, e]
    have : max 0 (min (n : Int) (es.size : Int)) = max 0 (min (((min n es.size : Nat)) : Int) (es.size : Int)) := by omega
    rw [this]
  have h2 := slicePick_upto es (min n es.size) (Nat.min_le_right _ _)
  rw [h, show slicePick es none (some (Int.ofNat (min n es.size))) none = _ from h2]
  show es.toList.take (min n es.size) = _
  rw [show es.size = es.toList.length from rfl, List.take_eq_take_min (i := n)]
theorem law_1 {fs : List Fr} (N : Nice Y) (N3 : Nice3 Y) (hR : Y.Rm fs 340) (X : (heapK p.params).In h₀) (hB : BI h₀) {S : Addr} {its : Array Value} {sd : Option Addr} {sn : Nat} {ssl : Array (Option Value)} (hS : h₀.get? S = some ⟨.type "list", sd, .seq its sn, ssl⟩) (hz : its.size ≤ 63) (ns : List Int) (hns : its.toList.map vv = ns.map intI) {rest : List (Addr × Obj)}
  (hK : ∀ L Co Dd ac J tok, ac.toList.map vv = ((ns.take 4).map drI).map intV → Y.G fs (lwF p 0 L Co) (lwT p 1 L Co) (led J [(false, Dd, listE ac 0), (true, Co, clN), (true, L, lwL S [dE (Str.ofString "drawn") (.ref Dd)])] rest) tok)
  : Y.C fs (.call (.ref 159) ⟨[.ref S], []⟩) rest t := by
  have hB0 := hB
  obtain ⟨_, e0, cl, dd, es0, ep0, sl, rfl, hL⟩ := hB
  have X0 := X
  replace X := in_cons e0 X
  apply g_code
  apply run2 X sus0 [.s,.s,.a,.a,.s,.s,.l 1,.l 1] rfl; intro L0 L1 _
  refine enter_at (code := lwF p 0 L0 L1) (V := [(true, L1, clN), (true, L0, lwL S [])]) (rest := rest) X0 [1, 1] hR ?_ ?_ rfl (fun J tok => ?_)
  kernel_rfl!
  kernel_rfl!
  apply g_code
  apply run1 X sus0 [.s,.s,.s,.l 1,.s,.a,.s] rfl; intro b0 _; apply ok_run; kernel_rfl!
  refine load_old hS rfl (by kernel_rfl!) ?_
  apply run0 X sus0 [] rfl; intro _; apply ok_run; kernel_rfl!
  refine load_old hS rfl (by kernel_rfl!) ?_
  apply run0 X sus0 [] rfl; intro _; apply ok_run; kernel_rfl!
  refine load_old hS rfl (by kernel_rfl!) ?_
  have S1 := sus1 (su_lsliceO N3 (b := b0) hS (lo := none) (hi := some 4) (st := none) (by decide) (by omega)) sus0
  apply run4 X S1 [.u 1 [0] 0,.s,.s,.l 0,.l 0,.m,.c,.l 0,.g,.a,.p,.l 0,.s,.a,.a,.cE] rfl; intro e0 e1 e2 e3 _
  refine ok_loopg [1, 2, 1, 2, 0, 1, 1] (drS p L0 L1 e1 e2 e3) true (fs := fs) (V := [(true, e3, frC []), (false, e2, listE #[] 0), (true, e1, lItO (.ref e0) 0), (false, e0, listE (slicePick its none (some 4) none) 0), (true, L1, clN), (true, L0, frO [dE (Str.ofString "script") (.ref S)])]) (rest := rest) ?_ (fun J tok => ?_)
  kernel_rfl!
  have hits : (slicePick its none (some 4) none).toList.map vv = (ns.take 4).map intI := by
    have := congrArg (List.map vv) (pick_any its 4)
    rw [List.map_take, hns, ← List.map_take] at this
    exact this
  refine c_permV (V' := drV ⟨L0, L1, e0, e1, e2, e3, S, slicePick its none (some 4) none⟩ ⟨0, #[], none⟩) ?_ (fun J => dr_start X ⟨L0, L1, e0, e1, e2, e3, S, slicePick its none (some 4) none⟩ (fun tok => dr_loop N N3 X0 hB0 ⟨L0, L1, e0, e1, e2, e3, S, slicePick its none (some 4) none⟩ (ns.take 4) hits (by rw [List.length_take]; omega) ?_ ⟨0, #[], none⟩ ⟨Nat.zero_le _, rfl⟩ J tok) tok)
  · exact ((List.perm_middle (l₁ := [_, _])).trans (List.Perm.cons _ ((List.perm_middle (l₁ := [_, _])))))
  intro ac last J tok hac
  rcases last with _ | u0
  · apply run0 X S1 [.s,.s,.s,.s,.s,.l 3,.l 3,.s,.l 0] rfl; intro _
    refine ok_GV [0, 2, 1, 1] (fs := fs) (c := lwF p 0 L0 L1) (t := lwT p 1 L0 L1) (V := [(false, e2, listE ac 0), (true, L1, clN), (true, L0, lwL S [dE (Str.ofString "drawn") (.ref e2)])]) (rest := rest) ?_ (fun J tok => hK L0 L1 e2 ac J tok hac)
    kernel_rfl!
  · apply run0 X S1 [.s,.s,.s,.s,.s,.l 3,.l 3,.s,.l 0,.s,.l 0,.l 0,.s] rfl; intro _
    refine ok_GV [0, 2, 1, 1] (fs := fs) (c := lwF p 0 L0 L1) (t := lwT p 1 L0 L1) (V := [(false, e2, listE ac 0), (true, L1, clN), (true, L0, lwL S [dE (Str.ofString "drawn") (.ref e2)])]) (rest := rest) ?_ (fun J tok => hK L0 L1 e2 ac J tok hac)
    kernel_rfl!
end

section
variable {prog : Program} {w : World} {A : Around} {R : Result → Shared → Prop} {h₀ : Heap} {d : Drawn} {os : OsState} {vs : Array Value} {hh : A.handled = none} {t : Nat} {p : Setting} {chg : List (Addr × Obj)} {Y : Calc h₀ [(125, tableObj vs)] p} {Z : Calc h₀ chg p}
theorem law_2 {fs : List Fr} (N : Nice Y) (N3 : Nice3 Y) (X : (heapK p.params).In h₀) (hB : BI h₀) {S L Co Dd : Addr} {ac : Array Value} (ds : List Nat) (hd4 : ds.length ≤ 4) (hac : ac.toList.map vv = ds.map intV) {rest : List (Addr × Obj)}
  (hK : ∀ Dc es J tok, es.toList.map vv = (ds ++ [1, 2, 5, 25].drop ds.length).map intV → Y.G fs (lwF p 0 L Co) (lwT p 2 L Co) (led J [(false, Dc, listE es 0), (true, Co, clN), (true, L, lwL S [dE (Str.ofString "drawn") (.ref Dd), dE (Str.ofString "cells") (.ref Dc)])] rest) tok)
  : ∀ J tok, Y.G fs (lwF p 0 L Co) (lwT p 1 L Co) (led J [(false, Dd, listE ac 0), (true, Co, clN), (true, L, lwL S [dE (Str.ofString "drawn") (.ref Dd)])] rest) tok := by
  intro J tok
  have hB0 := hB
  obtain ⟨_, e0, cl, dd, es0, ep0, sl, rfl, hL⟩ := hB
  have X0 := X
  replace X := in_cons e0 X
  have S1 := sus1 (su_llenC (Z := Y) X (D := Dd) (L := ac.toList.map vv) (m := ds.length) (by rw [hac, List.length_map]) (by omega)) sus0
  apply run1 X S1 [.s,.s,.l 2,.s,.s,.s,.s,.s,.a,.s,.s,.s] rfl; intro b0 _; apply ok_run; kernel_rfl!
  obtain ⟨bh, bk, bq⟩ := hL (Str.ofString "len") (.builtin "len") (by kernel_rfl!) (by kernel_rfl!)
  k_subL
  apply run3 X S1 [.s,.l 3,.s,.u 2 [1] 0,.s,.a] rfl; intro c0 c1 c2 _
  refine ok_view [1, 1, 2, 1, 1] (V := [(true, c2, slO3 (some (Int.ofNat ds.length)) none none), (true, b0, lstO [.int 1 0, .int 2 0, .int 5 0, .int 25 0]), (false, Dd, listE ac 0), (true, Co, clN), (true, L, lwL S [dE (Str.ofString "drawn") (.ref Dd)])]) (rest := rest) ?_ (fun J tok => ?_)
  kernel_rfl!
  clear S1
  have S1 := sus1 (su_lslice N3 (D := b0) (b := c2) (L := [.int 1 0, .int 2 0, .int 5 0, .int 25 0]) (lo := some (Int.ofNat ds.length)) (hi := none) (st := none) (by decide) (by decide)) sus0
  apply run1 X S1 [.s,.l 1,.l 1,.l 1,.u 1 [1,0] 0,.s,.c,.p,.s,.l 3] rfl; intro d0 _; apply ok_run; kernel_rfl!
  have hT := pick_from (es := ⟨bVs (J 1).v [.int 1 0, .int 2 0, .int 5 0, .int 25 0]⟩) (L := [.int 1 0, .int 2 0, .int 5 0, .int 25 0]) (s := ds.length) rfl hd4
  have S2 := sus1 (su_ladd N3 (D := Dd) (B := d0) (L1 := ac.toList.map vv) (L2 := (slicePick ⟨bVs (J 1).v [.int 1 0, .int 2 0, .int 5 0, .int 25 0]⟩ (some (Int.ofNat ds.length)) none none).toList.map vv) (by rw [hT, hac, List.length_map, List.length_drop]; simp; omega)) sus0
  clear S1
  apply run1 X S2 [.l 0,.l 3,.s,.u 1 [3,0] 0,.s,.s,.s,.s,.s,.l 6,.l 6,.s] rfl; intro f0 _
  refine ok_GV [2, 0, 0, 0, 0, 1, 1] (fs := fs) (c := lwF p 0 L Co) (t := lwT p 2 L Co) (V := [(false, f0, listE (ac ++ slicePick ⟨bVs (J 1).v [.int 1 0, .int 2 0, .int 5 0, .int 25 0]⟩ (some (Int.ofNat ds.length)) none none) 0), (true, Co, clN), (true, L, lwL S [dE (Str.ofString "drawn") (.ref Dd), dE (Str.ofString "cells") (.ref f0)])]) (rest := rest) ?_ (fun J tok => hK f0 _ J tok ?_)
  kernel_rfl!
  rw [Array.toList_append, List.map_append, hac, hT, List.map_append, List.map_drop]
  rfl
end

section
variable {prog : Program} {w : World} {A : Around} {R : Result → Shared → Prop} {h₀ : Heap} {d : Drawn} {os : OsState} {vs : Array Value} {hh : A.handled = none} {t : Nat} {p : Setting} {chg : List (Addr × Obj)} {Y : Calc h₀ [(125, tableObj vs)] p} {Z : Calc h₀ chg p}
noncomputable def sgE (p : Setting) : PySem.Expr := argOf (leftOf (vlOf ((bodyOf (heapK p.params) 159)[2]?)))
noncomputable def sgCo (p : Setting) (L It Ac N : Addr) : Code := compL (sgE p) It Ac (compEnv (heapK p.params) 159 158 L N (sgE p))
noncomputable def sgSt (p : Setting) (L It Ac N : Addr) : Code := compS (sgE p) It Ac (compEnv (heapK p.params) 159 158 L N (sgE p))
structure SgS where
  i : Nat
  ac : Array Value
  last : Option Nat
structure SgA where
  (L Co Da It Ac N : Addr)
  ea : Array Value
  o : Obj
noncomputable def sgN : Option Nat → Obj | none => frC [] | some u => frC [dE (Str.ofString "cell") (intV u)]
noncomputable def lwB (S Dd Dc : Addr) (es : List DictEntry) : Obj := lwL S (dE (Str.ofString "drawn") (.ref Dd) :: dE (Str.ofString "cells") (.ref Dc) :: es)
structure SgB where
  (L Co Da It Ac N S Dd Dc : Addr)
  (ea ec : Array Value)
noncomputable def sgW (q : SgB) (p : SgS) : VL := [(true, q.N, sgN p.last), (false, q.Ac, listE p.ac 0), (false, q.Dc, listE q.ec 0), (true, q.Co, clN), (true, q.L, lwB q.S q.Dd q.Dc [])]
noncomputable def sgV (q : SgB) (p : SgS) : VL := (true, q.It, lItO (.ref q.Da) (Int.ofNat p.i)) :: (false, q.Da, listE q.ea 0) :: sgW q p
def sgStr (c : Nat) : Str := ⟨#[sgn c]⟩
theorem sg_loop {fs : List Fr} {cB : Code} {kB : Result → Sem PySem.Fin} (N : Nice Y) (N3 : Nice3 Y) (hR : Y.Rm (⟨cB, kB, true⟩ :: fs) 370) (X : (heapK p.params).In h₀) (hB : BI h₀) (q : SgB) (us : List Nat) (he : q.ea.toList.map vv = us.map intV) (hz : us.length ≤ 1000) {rest : List (Addr × Obj)}
  (hend : ∀ ac last J tok, ac.toList.map vv = (us.map sgStr).map strV → Y.G fs cB (kB (.ok .next)) (led J (sgW q ⟨0, ac, last⟩) rest) tok)
  (a : SgS) (ha : a.i ≤ us.length ∧ a.ac.toList.map vv = ((us.take a.i).map sgStr).map strV) : ∀ J tok, Y.C (⟨cB, kB, true⟩ :: fs) (sgCo p q.L q.It q.Ac q.N) (led J (sgV q a) rest) tok := by
  refine gc_loop (fun a => us.length - a.i) (sgV q) (fun a => a.i ≤ us.length ∧ a.ac.toList.map vv = ((us.take a.i).map sgStr).map strV) ?_ a ha
  obtain ⟨L, Co, Da, It, Ac, NN, S, Dd, Dc, ea, ec⟩ := q
  rintro ⟨i, ac, last⟩ ⟨hi, hr⟩ ih J tok
  dsimp only at hi hr ih he
  apply g_code
  by_cases hlt : i < us.length
  · have hc : (ea.toList.map vv)[(Int.ofNat i).toNat]? = some (intV us[i]) := by rw [he, List.getElem?_map]; simp [hlt]
    have hn : us.take (i + 1) = us.take i ++ [us[i]] := List.take_succ_eq_append_getElem hlt
    generalize us[i] = u at hc hn
    have S1 := sus1 (su_lnext (Z := Y) X (It := It) (D := Da) hc) sus0
    replace ih := fun ac hq => ih ⟨i + 1, ac, some u⟩ (by show us.length - (i + 1) < us.length - i; omega) ⟨hlt, hq⟩
    rcases last with _ | u0
    all_goals
      apply run1 X S1 [.s,.l 0,.u 1 [0,1] 0,.s,.s,.s,.s,.l 2,.l 2,.s,.s,.s,.s,.l 2,.s,.s,.cE] rfl; intro b0 _
      refine ok_call1 [1, 2, 1, 2, 2, 1, 1] (f := .ref 116) (args := [intV u]) (fs := ⟨cB, kB, true⟩ :: fs) (V := sgV ⟨L, Co, Da, It, Ac, NN, S, Dd, Dc, ea, ec⟩ ⟨i + 1, ac, some u⟩) (rest := rest) ?_ (fun tks J tok => ?_) (by intro h; cases h)
      kernel_rfl!
      refine law_sign (rm_of 1 hR rfl ?_) X hB u _ ?_
      kernel_rfl!
      intro tk J' t'
      refine gb_cons ?_
      clear S1
      have S1 := sus1 (su_append N3 (D := Ac) (L := ac.toList.map vv) (v := strV (sgStr u)) (by rw [hr, List.length_map, List.length_map, List.length_take]; omega)) sus0
      apply run1 X S1 [.s,.u 1 [3] 0,.gE] rfl; intro c0 _
      refine ok_code [1, 2, 1, 2, 2, 1, 1] ?_ (ih (ac.push (.str (sgStr u) c0)) (by rw [Array.toList_push, List.map_append, hr, hn, List.map_append, List.map_append]; rfl))
      kernel_rfl!
  · have hc : (ea.toList.map vv)[(Int.ofNat i).toNat]? = none := by rw [he, List.getElem?_map]; simp; omega
    obtain rfl : i = us.length := by omega
    have S1 := sus1 (su_lend (Z := Y) X (It := It) (D := Da) hc) sus0
    rw [List.take_length] at hr
    rcases last with _ | u0
    · apply run2 X S1 [.s,.l 0,.u 2 [0,1] 0,.l 0,.p] rfl; intro b0 b1 _
      refine ok_GV [0, 0, 0, 0, 1, 2, 2, 1, 1] (t := kB (.ok .next)) ?_ (fun J tok => hend ac none J tok hr)
      kernel_rfl!
    · apply run2 X S1 [.s,.l 0,.u 2 [0,1] 0,.l 0,.p] rfl; intro b0 b1 _
      refine ok_GV [0, 0, 0, 0, 1, 2, 2, 1, 1] (t := kB (.ok .next)) ?_ (fun J tok => hend ac (some u0) J tok hr)
      kernel_rfl!
end

section
variable {prog : Program} {w : World} {A : Around} {R : Result → Shared → Prop} {h₀ : Heap} {d : Drawn} {os : OsState} {vs : Array Value} {hh : A.handled = none} {t : Nat} {p : Setting} {chg : List (Addr × Obj)} {Y : Calc h₀ [(125, tableObj vs)] p} {Z : Calc h₀ chg p}
theorem sg_start {K : Frag} (X : K.In h₀) {F : List Fr} (q : SgB) {J : Nat → JO} {rest : List (Addr × Obj)} (hl : ∀ tok, Y.C F (sgCo p q.L q.It q.Ac q.N) (led J (sgV q ⟨0, #[], none⟩) rest) tok) (tok : Nat) : Y.C F (sgSt p q.L q.It q.Ac q.N) (led J (sgV q ⟨0, #[], none⟩) rest) tok := by
  obtain ⟨L, Co, Da, It, Ac, NN, S, Dd, Dc, ea, ec⟩ := q
  apply g_code
  cases hb : p.params.followText "comprehension-iter-twice"
  all_goals
    apply run0 X sus0 [.s] rfl; intro _; apply ok_run; kernel_rfl!
    k_subL
    first
      | (apply run0 X sus0 [.s,.s,.l 0,.l 0,.m,.c,.l 0,.g,.p,.l 0,.gE] rfl; intro _; refine ok_codeN ?_ hl; kernel_rfl!)
      | (apply run0 X sus0 [.gE] rfl; intro _; refine ok_codeN ?_ hl; kernel_rfl!)
def txS (cs : List Nat) : Str := Txt.join ⟨#[]⟩ ((cs.take 3).map sgStr) ++ Str.ofString "\"b\""
theorem fl_sg : ∀ l : List Nat, fl (l.map sgStr) = l.map sgn
  | [] => rfl
  | c :: l => by rw [List.map_cons, fl_cons, fl_sg l]; rfl
theorem txS_l (cs : List Nat) : (txS cs).cps.toList = (cs.take 3).map sgn ++ [34, 98, 34] := by
  show ((Txt.join ⟨#[]⟩ ((cs.take 3).map sgStr)).cps ++ (Str.ofString "\"b\"").cps).toList = _
  rw [Array.toList_append, join_fl, fl_sg]
  congr 1
theorem law_3 {fs : List Fr} (N : Nice Y) (N3 : Nice3 Y) (hR : Y.Rm fs 340) (X : (heapK p.params).In h₀) (hB : BI h₀) {S L Co Dd Dc : Addr} {ec : Array Value} (cs : List Nat) (hcl : cs.length = 4) (hec : ec.toList.map vv = cs.map intV) {rest : List (Addr × Obj)}
  (hK : ∀ J tok, Y.G fs (lwF p 0 L Co) (lwT p 3 L Co) (led J [(false, Dc, listE ec 0), (true, Co, clN), (true, L, lwB S Dd Dc [dE (Str.ofString "text") (.str (txS cs) 0)])] rest) tok)
  : ∀ J tok, Y.G fs (lwF p 0 L Co) (lwT p 2 L Co) (led J [(false, Dc, listE ec 0), (true, Co, clN), (true, L, lwB S Dd Dc [])] rest) tok := by
  intro J tok
  have hsz : (ec.toList.map vv).length ≤ 16777216 := by rw [hec, List.length_map, hcl]; decide
  apply run1 X sus0 [.s,.s,.s,.s,.s,.l 2,.s,.a] rfl; intro a0 _; apply ok_run; kernel_rfl!
  have S1 := sus1 (su_lslice N3 (D := Dc) (b := a0) (L := ec.toList.map vv) (lo := none) (hi := some 3) (st := none) (by decide) hsz) sus0
  apply run4 X S1 [.s,.l 1,.l 1,.l 1,.u 1 [1,0] 0,.s,.s,.l 0,.l 0,.m,.c,.l 0,.g,.a,.p,.l 0,.a,.a,.cE] rfl; intro e0 e1 e2 e3 _
  refine ok_loopg [1, 2, 1, 2, 0, 2, 1, 1] (sgSt p L e1 e2 e3) true (fs := fs) (V := [(true, e3, frC []), (false, e2, listE #[] 0), (true, e1, lItO (.ref e0) 0), (false, e0, listE (slicePick ec none (some 3) none) 0), (false, Dc, listE ec 0), (true, Co, clN), (true, L, lwB S Dd Dc [])]) (rest := rest) ?_ (fun J tok => ?_)
  kernel_rfl!
  have hits : (slicePick ec none (some 3) none).toList.map vv = (cs.take 3).map intV := by
    have := congrArg (List.map vv) (pick_any ec 3)
    rw [List.map_take, hec, ← List.map_take] at this
    exact this
  refine c_permV (V' := sgV ⟨L, Co, e0, e1, e2, e3, S, Dd, Dc, slicePick ec none (some 3) none, ec⟩ ⟨0, #[], none⟩) ?_ (fun J => sg_start X ⟨L, Co, e0, e1, e2, e3, S, Dd, Dc, slicePick ec none (some 3) none, ec⟩ (fun tok => sg_loop N N3 (rm_of 1 hR rfl ?_) X hB ⟨L, Co, e0, e1, e2, e3, S, Dd, Dc, slicePick ec none (some 3) none, ec⟩ (cs.take 3) hits (by rw [List.length_take]; omega) ?_ ⟨0, #[], none⟩ ⟨Nat.zero_le _, rfl⟩ J tok) tok)
  · exact ((List.perm_middle (l₁ := [_, _])).trans (List.Perm.cons _ ((List.perm_middle (l₁ := [_, _])))))
  kernel_rfl!
  intro ac last J tok hac
  have S2 := sus1 (su_join N3 (x := ⟨#[]⟩) (D := e2) hac (join_ok2 rfl (by rw [List.length_map, List.length_take]; omega) (by
    intro y hy
    obtain ⟨u, hu, rfl⟩ := List.mem_map.mp hy
    exact (by decide : 1 ≤ 1000)))) (sus1 (su_stradd N (x := Txt.join ⟨#[]⟩ ((cs.take 3).map sgStr)) (y := Str.ofString "\"b\"") ?_) sus0)
  rotate_left
  · have h1 := congrArg List.length (txS_l cs)
    rw [List.length_append, List.length_map, List.length_take, Array.length_toList] at h1
    show (txS cs).cps.size ≤ _
    rw [h1]; unfold sizeLine; simp; omega
  rcases last with _ | u0
  · apply run4 X S2 [.l 0,.s,.u 2 [1] 0,.s,.s,.s,.s,.u 2 [] 1,.s,.s,.s,.s,.l 4,.l 4,.s] rfl; intro f0 f1 f2 f3 _
    refine ok_GV [0, 0, 2, 1, 1] (fs := fs) (c := lwF p 0 L Co) (t := lwT p 3 L Co) (V := [(false, Dc, listE ec 0), (true, Co, clN), (true, L, lwB S Dd Dc [dE (Str.ofString "text") (.str (txS cs) 0)])]) (rest := rest) ?_ hK
    kernel_rfl!
  · apply run4 X S2 [.l 0,.s,.l 0,.l 0,.s,.s,.u 2 [1] 0,.s,.s,.s,.s,.u 2 [] 1,.s,.s,.s,.s,.l 4,.l 4,.s] rfl; intro f0 f1 f2 f3 _
    refine ok_GV [0, 0, 2, 1, 1] (fs := fs) (c := lwF p 0 L Co) (t := lwT p 3 L Co) (V := [(false, Dc, listE ec 0), (true, Co, clN), (true, L, lwB S Dd Dc [dE (Str.ofString "text") (.str (txS cs) 0)])]) (rest := rest) ?_ hK
    kernel_rfl!
end

section
variable {prog : Program} {w : World} {A : Around} {R : Result → Shared → Prop} {h₀ : Heap} {d : Drawn} {os : OsState} {vs : Array Value} {hh : A.handled = none} {t : Nat} {p : Setting} {chg : List (Addr × Obj)} {Y : Calc h₀ [(125, tableObj vs)] p} {Z : Calc h₀ chg p}
theorem one_val {v : Value} {n : Nat} (h : vv v = intV n) : ∃ tk, v = .int (Int.ofNat n) tk := ⟨tkOf v, by rw [← bv_vv v, h]; rfl⟩
theorem four_vals {ec : Array Value} {a b c e : Nat} (h : ec.toList.map vv = [a, b, c, e].map intV) : ∃ v0 v1 v2 tk, ec = ⟨[v0, v1, v2, .int (Int.ofNat e) tk]⟩ := by
  obtain ⟨l⟩ := ec
  have hl := congrArg List.length h
  rcases l with _ | ⟨v0, _ | ⟨v1, _ | ⟨v2, _ | ⟨v3, _ | ⟨_, _⟩⟩⟩⟩⟩ <;> first | (exfalso; simp at hl; done) | skip
  have h4 : vv v3 = intV e := by
    have := congrArg (fun l => l[3]?) h
    exact Option.some.inj this
  obtain ⟨tk, rfl⟩ := one_val h4
  exact ⟨v0, v1, v2, tk, rfl⟩
noncomputable def clO (n : Nat) : Obj := ⟨.type SZ.s15660640913423913556x4, none, .cell (some (intV n)), #[]⟩
theorem law_4 {fs : List Fr} (N : Nice Y) (N3 : Nice3 Y) (X : (heapK p.params).In h₀) {S L Co Dd Dc : Addr} {ec : Array Value} (cs : List Nat) (hcl : cs.length = 4) (hec : ec.toList.map vv = cs.map intV) (es : List DictEntry) (x : Str) {rest : List (Addr × Obj)}
  (hK : ∀ J tok, Y.G fs (lwF p 0 L Co) (lwT p 4 L Co) (led J [(true, Co, clO (cs.getD 3 0 % 62 + 2)), (true, L, lwB S Dd Dc [dE (Str.ofString "text") (.str x 0)])] rest) tok)
  : ∀ J tok, Y.G fs (lwF p 0 L Co) (lwT p 3 L Co) (led J [(false, Dc, listE ec 0), (true, Co, clN), (true, L, lwB S Dd Dc [dE (Str.ofString "text") (.str x 0)])] rest) tok := by
  intro J tok
  match cs, hcl with
  | [a, b, c, e], _ =>
  obtain ⟨v0, v1, v2, tk, rfl⟩ := four_vals hec
  have hm : (Int.ofNat e).fmod 62 = Int.ofNat (e % 62) := by rw [PyProof.Rows.fmod_eq _ (by decide)]; rfl
  have S1 := sus1 (su_intmod N (x := Int.ofNat e) (y := 62) rfl) sus0
  rw [hm] at S1
  apply run2 X S1 [.s,.s,.l 2,.s,.s,.l 0,.l 0,.l 0,.c,.l 0,.g,.l 0,.p,.s,.s,.u 2 [] 0,.s,.s,.c,.g,.s,.p,.s,.s,.l 1,.l 1,.s] rfl; intro b0 b1 _
  refine ok_GV [0, 1, 1] (fs := fs) (c := lwF p 0 L Co) (t := lwT p 4 L Co) (V := [(true, Co, clO (e % 62 + 2)), (true, L, lwB S Dd Dc [dE (Str.ofString "text") (.str x 0)])]) (rest := rest) ?_ hK
  kernel_rfl!
end

section
variable {prog : Program} {w : World} {A : Around} {R : Result → Shared → Prop} {h₀ : Heap} {d : Drawn} {os : OsState} {vs : Array Value} {hh : A.handled = none} {t : Nat} {p : Setting} {chg : List (Addr × Obj)} {Y : Calc h₀ [(125, tableObj vs)] p} {Z : Calc h₀ chg p}
noncomputable def rItO (x left step : Int) : Obj := ⟨.type "range_iterator", none, .fields ⟨[.int x 0, .int left 0, .int step 0]⟩, #[]⟩
noncomputable def smRn (It : Addr) (x left step : Int) : Sm := ⟨[(It, rItO x left step)], .call (.builtin "range_iterator.__next__") ⟨[.ref It], []⟩, 0,
  fun old _ tok => ⟨.ok (.ret (.int x tok)), [], old.map (fun q => setF 1 (.int (left - 1) 0) (setF 0 (.int (x + step) 0) q)), tok + 1⟩, mC⟩
theorem su_rnext {It : Addr} {x left step : Int} (hl : ¬ left ≤ 0) : Su Z (smRn It x left step) := by
  intro fs c c' k gd l news tok is old hi ho hc' K
  obtain ⟨i, j, rfl, rfl, hj⟩ := old1 hi ho
  obtain ⟨tks, rfl⟩ := mC_call hc'
  clear hi ho hc'
  have hi := hj
  clear hj
  replace K := K [] rfl
  unfold smRn rItO at *
  dsimp only at *
  apply g_call
  apply g_code
  conv => arg 4; whnf
  apply g_load (fun h D => D.at hi)
  conv => arg 4; whnf
  apply g_again (plainId_quiet (by decide +kernel) _)
  apply g_code
  conv => arg 4; whnf
  apply g_load (fun h D => D.at hi)
  conv => arg 4; whnf
  apply g_load (fun h D => D.at hi)
  conv => arg 4; whnf
  apply g_load (fun h D => D.at hi)
  conv => arg 4; whnf
  apply g_eq
  exact same_decF hl
  conv => arg 4; whnf
  apply g_load (fun h D => D.at hi)
  conv => arg 4; whnf
  apply g_update i hi (by exact rfl)
  conv => arg 4; whnf
  have hi2 : (news.set i (It, (bO j true ⟨.type "range_iterator", none, .fields ⟨[.int x 0, .int left 0, .int step 0]⟩, #[]⟩).mapFields fun y => y.setIfInBounds 0 (rawInt (x + step))))[i]? = some (It, (bO j true ⟨.type "range_iterator", none, .fields ⟨[.int x 0, .int left 0, .int step 0]⟩, #[]⟩).mapFields fun y => y.setIfInBounds 0 (rawInt (x + step))) := by
    rw [List.getElem?_set_self]
    exact (List.getElem?_eq_some_iff.mp hi).1
  apply g_load (fun h D => D.at hi2)
  conv => arg 4; whnf
  apply g_update i hi2 (by exact rfl)
  conv => arg 4; whnf
  apply g_fresh
  conv => arg 4; whnf
  apply g_ret
  refine g_news ?_ K
  rw [List.set_set]
  exact rfl
end

section
variable {prog : Program} {w : World} {A : Around} {R : Result → Shared → Prop} {h₀ : Heap} {d : Drawn} {os : OsState} {vs : Array Value} {hh : A.handled = none} {t : Nat} {p : Setting} {chg : List (Addr × Obj)} {Y : Calc h₀ [(125, tableObj vs)] p} {Z : Calc h₀ chg p}
noncomputable def lwC (S Dd Dc : Addr) (x : Str) (es : List DictEntry) : Obj := lwB S Dd Dc (dE (Str.ofString "text") (.str x 0) :: es)
theorem su_pow2 (N : Nice Z) {n : Nat} (hn : n ≤ 60) : Su Z (smT "int.__pow__" [.int 2 0, .int (Int.ofNat n) 0] (.int (Int.ofNat (2 ^ n)) 0)) := by
  have h := su_intpow N (y := Int.ofNat n) (n := n) rfl hn
  have e : (2 : Int) ^ n = Int.ofNat (2 ^ n) := by show _ = ((2 ^ n : Nat) : Int); rw [Int.natCast_pow]; rfl
  rw [e] at h
  exact h
theorem su_modN (N : Nice Z) {x y : Nat} (h : 0 < y) : Su Z (smT "int.__mod__" [.int (Int.ofNat x) 0, .int (Int.ofNat y) 0] (.int (Int.ofNat (x % y)) 0)) := by
  have h1 := su_intmod N (x := Int.ofNat x) (y := Int.ofNat y) (by rw [beq_eq_false_iff_ne]; intro e; have : (y : Int) = 0 := e; omega)
  rw [PyProof.Rows.fmod_eq _ (by show (0 : Int) < (y : Int); omega)] at h1
  exact h1
theorem su_fdivN (N : Nice Z) {x y : Nat} (h : 0 < y) (hy : y ≤ 1000000) : Su Z (smT "int.__floordiv__" [.int (Int.ofNat x) 0, .int (Int.ofNat y) 0] (.int (Int.ofNat (x / y)) 0)) := by
  have h2 : ¬ (Builtin.divisionGoesByPylong (Int.ofNat x) (Int.ofNat y)) = true := by
    unfold Builtin.divisionGoesByPylong
    dsimp only
    have : (if (Int.ofNat y == 0) = true then 0 else (Int.ofNat y).natAbs.log2 / 30 + 1) ≤ 300 := by
      split
      · exact Nat.zero_le _
      · have h3 : (Int.ofNat y).natAbs.log2 < 20 := by
          rw [Nat.log2_lt (by show y ≠ 0; omega)]
          show y < 2 ^ 20
          omega
        omega
    intro hh
    rw [Bool.and_eq_true, decide_eq_true_eq] at hh
    omega
  have h1 : Su Z (smT "int.__floordiv__" [.int (Int.ofNat x) 0, .int (Int.ofNat y) 0] (.int ((Int.ofNat x).fdiv (Int.ofNat y)) 0)) :=
    N.made F.slot_int_floordiv (fun s tk => typeIs_int _ _ _) F.entry_int_floordiv (fun tk => F.args_int_floordiv_2 _ _) (fun tk => AutoIntG4.int___floordiv___int_int_1 (Int.ofNat x) _ (Int.ofNat y) _ (by rw [beq_iff_eq]; intro e; have : (y : Int) = 0 := e; omega) h2) fun tk s Q hq => hq s.toks 1
  have e : (Int.ofNat x).fdiv (Int.ofNat y) = Int.ofNat (x / y) := by show (x : Int).fdiv (y : Int) = _; rw [Int.fdiv_eq_ediv_of_nonneg _ (Int.natCast_nonneg y)]; rfl
  rw [e] at h1
  exact h1
noncomputable def knE (p : Setting) : PySem.Expr := vlOf ((bodyOf (heapK p.params) 159)[4]?)
noncomputable def knC (p : Setting) (L Co It Ac N : Addr) : Code := compL (knE p) It Ac (compEnvC (heapK p.params) 159 158 L N (knE p) (orC Co))
noncomputable def knS (p : Setting) (L Co It Ac N : Addr) : Code := compS (knE p) It Ac (compEnvC (heapK p.params) 159 158 L N (knE p) (orC Co))
structure KnS where
  k : Nat
  left : Int
  ac : Array Value
  last : Option Nat
structure KnA where
  (L Co It Ac N S Dd Dc : Addr)
  x : Str
  od : Nat
def kinK (od k : Nat) : List Nat := ((List.range k).filter fun k => 2 ^ (k + 1) ≤ od).map fun k => od / 2 ^ k % 2
noncomputable def knN : Option Nat → Obj | none => frC [] | some u => frC [dE (Str.ofString "k") (intV u)]
noncomputable def knW (q : KnA) (p : KnS) : VL := [(true, q.N, knN p.last), (false, q.Ac, listE p.ac 0), (true, q.Co, clO q.od), (true, q.L, lwC q.S q.Dd q.Dc q.x [])]
noncomputable def knV (q : KnA) (p : KnS) : VL := (true, q.It, rItO (Int.ofNat p.k) p.left 1) :: knW q p
theorem kn_loop {fs : List Fr} {cB : Code} {kB : Result → Sem PySem.Fin} (N : Nice Y) (N3 : Nice3 Y) (X : (heapK p.params).In h₀) (q : KnA) {rest : List (Addr × Obj)}
  (hend : ∀ ac last J tok, ac.toList.map vv = (kinK q.od 5).map intV → Y.G fs cB (kB (.ok .next)) (led J (knW q ⟨0, 0, ac, last⟩) rest) tok)
  (a : KnS) (ha : a.k ≤ 5 ∧ a.left = 5 - a.k ∧ a.ac.toList.map vv = (kinK q.od a.k).map intV) : ∀ J tok, Y.C (⟨cB, kB, true⟩ :: fs) (knC p q.L q.Co q.It q.Ac q.N) (led J (knV q a) rest) tok := by
  refine gc_loop (fun a => 5 - a.k) (knV q) (fun a => a.k ≤ 5 ∧ a.left = 5 - a.k ∧ a.ac.toList.map vv = (kinK q.od a.k).map intV) ?_ a ha
  obtain ⟨L, Co, It, Ac, NN, S, Dd, Dc, x, od⟩ := q
  rintro ⟨k, left, ac, last⟩ ⟨hk, hle, hr⟩ ih J tok
  dsimp only at hk hle hr ih hend
  apply g_code
  by_cases hlt : k < 5
  · have hn : kinK od (k + 1) = if 2 ^ (k + 1) ≤ od then kinK od k ++ [od / 2 ^ k % 2] else kinK od k := by
      unfold kinK
      rw [List.range_succ, List.filter_append, List.map_append]
      split
      · rename_i h; rw [List.filter_cons_of_pos (by simpa using h)]; rfl
      · rename_i h; rw [List.filter_cons_of_neg (by simpa using h)]; simp
    have hlen : (kinK od k).length ≤ k := by
      unfold kinK
      rw [List.length_map]
      exact Nat.le_trans (List.length_filter_le _ _) (by simp)
    have hp : ∀ n : Nat, 0 < 2 ^ n := fun n => Nat.pow_pos (by decide)
    have hp2 : 2 ^ k ≤ 1000000 := Nat.le_trans (Nat.pow_le_pow_right (by decide) hk) (by decide)
    replace ih := fun ac hq => ih ⟨k + 1, left - 1, ac, some k⟩ (by show 5 - (k + 1) < 5 - k; omega) ⟨hlt, by show left - 1 = 5 - ((k + 1 : Nat) : Int); omega, hq⟩
    dsimp only at ih
    rw [hn] at ih
    have S1 := sus1 (su_rnext (Z := Y) (It := It) (x := Int.ofNat k) (left := left) (step := 1) (by omega)) (sus1 (su_pow2 N (n := k + 1) (by omega)) (sus1 (su_pow2 N (n := k) (by omega)) (sus1 (su_fdivN N (x := od) (hp k) hp2) (sus1 (su_modN N (x := od / 2 ^ k) (y := 2) (by decide)) sus0))))
    by_cases hc : 2 ^ (k + 1) ≤ od
    · rw [if_pos hc] at ih
      have S2 := sus1 (su_intge N (x := Int.ofNat od) (y := Int.ofNat (2 ^ (k + 1))) (b := true) (decide_eq_true (Int.ofNat_le.mpr hc))) (sus1 (su_append N3 (D := Ac) (L := ac.toList.map vv) (v := intV (od / 2 ^ k % 2)) (by rw [hr, List.length_map]; omega)) S1)
      rcases last with _ | u0
      all_goals
        apply runF X S2 [.s,.l 0,.u 0 [0] 2,.s,.s,.s,.s,.l 1,.l 1,.s,.s,.l 3,.s,.s,.l 1,.s,.s,.c,.g,.s,.p,.s,.u 2 [] 3,.s,.m,.u 2 [] 0,.s,.l 3,.s,.s,.l 1,.s,.u 2 [] 4,.s,.u 2 [] 5,.s,.s,.u 2 [] 6,.u 1 [2] 1,.gE]; intro bF _
        refine ok_code [1, 1, 2, 1, 1] ?_ (ih (ac.push (.int (Int.ofNat (od / 2 ^ k % 2)) (bF 10))) (by rw [Array.toList_push, List.map_append, hr, List.map_append]; rfl))
        kernel_rfl!
    · rw [if_neg hc] at ih
      have S2 := sus1 (su_intge N (x := Int.ofNat od) (y := Int.ofNat (2 ^ (k + 1))) (b := false) (decide_eq_false (fun h => hc (Int.ofNat_le.mp h)))) S1
      rcases last with _ | u0
      all_goals
        apply run4 X S2 [.s,.l 0,.u 0 [0] 1,.s,.s,.s,.s,.l 1,.l 1,.s,.s,.l 3,.s,.s,.l 1,.s,.s,.c,.g,.s,.p,.s,.u 2 [] 2,.s,.m,.u 2 [] 0,.gE] rfl; intro b0 b1 b2 b3 _
        refine ok_code [1, 1, 2, 1, 1] ?_ (ih ac hr)
        kernel_rfl!
  · obtain rfl : k = 5 := by omega
    obtain rfl : left = 0 := by omega
    rcases last with _ | u0
    · have hq := fun J tok => hend ac none J tok hr
      apply run2 X sus0 [.s,.l 0,.c,.l 0,.g,.l 0,.l 0,.l 0,.s,.a,.a,.s,.p,.l 0,.p] rfl; intro b0 b1 _
      refine ok_GV [0, 0, 0, 1, 2, 1, 1] (t := kB (.ok .next)) ?_ hq
      kernel_rfl!
    · have hq := fun J tok => hend ac (some u0) J tok hr
      apply run2 X sus0 [.s,.l 0,.c,.l 0,.g,.l 0,.l 0,.l 0,.s,.a,.a,.s,.p,.l 0,.p] rfl; intro b0 b1 _
      refine ok_GV [0, 0, 0, 1, 2, 1, 1] (t := kB (.ok .next)) ?_ hq
      kernel_rfl!
end

section
variable {prog : Program} {w : World} {A : Around} {R : Result → Shared → Prop} {h₀ : Heap} {d : Drawn} {os : OsState} {vs : Array Value} {hh : A.handled = none} {t : Nat} {p : Setting} {chg : List (Addr × Obj)} {Y : Calc h₀ [(125, tableObj vs)] p} {Z : Calc h₀ chg p}
theorem kn_start {K : Frag} (X : K.In h₀) {F : List Fr} (q : KnA) {J : Nat → JO} {rest : List (Addr × Obj)} (hl : ∀ tok, Y.C F (knC p q.L q.Co q.It q.Ac q.N) (led J (knV q ⟨0, 5, #[], none⟩) rest) tok) (tok : Nat) : Y.C F (knS p q.L q.Co q.It q.Ac q.N) (led J (knV q ⟨0, 5, #[], none⟩) rest) tok := by
  obtain ⟨L, Co, It, Ac, NN, S, Dd, Dc, x, od⟩ := q
  apply g_code
  cases hb : p.params.followText "comprehension-iter-twice"
  all_goals
    apply run0 X sus0 [.s] rfl; intro _; apply ok_run; kernel_rfl!
    k_subL
    first
      | (apply run0 X sus0 [.s,.s,.l 0,.l 0,.m,.c,.l 0,.g,.p,.l 0,.gE] rfl; intro _; refine ok_codeN ?_ hl; kernel_rfl!)
      | (apply run0 X sus0 [.gE] rfl; intro _; refine ok_codeN ?_ hl; kernel_rfl!)
theorem law_5 {fs : List Fr} (N : Nice Y) (N3 : Nice3 Y) (hR : Y.Rm fs 340) (X : (heapK p.params).In h₀) (hB : BI h₀) {S L Co Dd Dc : Addr} (od : Nat) (x : Str) {rest : List (Addr × Obj)}
  (hK : ∀ Dk ek J tok, ek.toList.map vv = (kinK od 5).map intV → Y.G fs (lwF p 0 L Co) (lwT p 5 L Co) (led J [(false, Dk, listE ek 0), (true, Co, clO od), (true, L, lwC S Dd Dc x [dE (Str.ofString "kinds") (.ref Dk)])] rest) tok)
  : ∀ J tok, Y.G fs (lwF p 0 L Co) (lwT p 4 L Co) (led J [(true, Co, clO od), (true, L, lwC S Dd Dc x [])] rest) tok := by
  intro J tok
  have hB0 := hB
  obtain ⟨_, e0, cl, dd, es0, ep0, sl, rfl, hL⟩ := hB
  have X0 := X
  replace X := in_cons e0 X
  apply run0 X sus0 [.s,.s,.s,.s] rfl; intro _; apply ok_run; kernel_rfl!
  obtain ⟨bh, bk, bq⟩ := hL (Str.ofString "range") (.type "range") (by kernel_rfl!) (by kernel_rfl!)
  k_subL
  apply run4 X sus0 [.s,.s,.c,.g,.c,.g,.s,.s,.s,.a,.p,.l 0,.l 0,.c,.l 0,.g,.l 0,.p,.p,.s,.s,.l 0,.l 0,.m,.c,.l 0,.g,.l 0,.l 0,.l 0,.a,.p,.l 0,.s,.a,.a,.cE] rfl; intro e0 e1 e2 e3 _
  refine ok_loopg [1, 2, 1, 0, 1, 1] (knS p L Co e1 e2 e3) true (fs := fs) (V := [(true, e3, frC []), (false, e2, listE #[] 0), (true, e1, rItO 0 5 1), (true, Co, clO od), (true, L, lwC S Dd Dc x [])]) (rest := rest) ?_ (fun J tok => ?_)
  kernel_rfl!
  refine c_permV (V' := knV ⟨L, Co, e1, e2, e3, S, Dd, Dc, x, od⟩ ⟨0, 5, #[], none⟩) ?_ (fun J => kn_start X ⟨L, Co, e1, e2, e3, S, Dd, Dc, x, od⟩ (fun tok => kn_loop N N3 X0 ⟨L, Co, e1, e2, e3, S, Dd, Dc, x, od⟩ ?_ ⟨0, 5, #[], none⟩ ⟨Nat.zero_le _, rfl, rfl⟩ J tok) tok)
  · exact List.perm_middle (l₁ := [_, _])
  intro ac last J tok hac
  rcases last with _ | u0
  · have hq := fun J tok => hK e2 ac J tok hac
    apply run0 X sus0 [.s,.s,.s,.s,.s,.l 3,.l 3,.s,.l 0] rfl; intro _
    refine ok_GV [0, 2, 1, 1] (fs := fs) (c := lwF p 0 L Co) (t := lwT p 5 L Co) (V := [(false, e2, listE ac 0), (true, Co, clO od), (true, L, lwC S Dd Dc x [dE (Str.ofString "kinds") (.ref e2)])]) (rest := rest) ?_ hq
    kernel_rfl!
  · have hq := fun J tok => hK e2 ac J tok hac
    apply run0 X sus0 [.s,.s,.s,.s,.s,.l 3,.l 3,.s,.l 0,.s,.l 0,.l 0,.s] rfl; intro _
    refine ok_GV [0, 2, 1, 1] (fs := fs) (c := lwF p 0 L Co) (t := lwT p 5 L Co) (V := [(false, e2, listE ac 0), (true, Co, clO od), (true, L, lwC S Dd Dc x [dE (Str.ofString "kinds") (.ref e2)])]) (rest := rest) ?_ hq
    kernel_rfl!
end

section
variable {prog : Program} {w : World} {A : Around} {R : Result → Shared → Prop} {h₀ : Heap} {d : Drawn} {os : OsState} {vs : Array Value} {hh : A.handled = none} {t : Nat} {p : Setting} {chg : List (Addr × Obj)} {Y : Calc h₀ [(125, tableObj vs)] p} {Z : Calc h₀ chg p}
theorem fits6 : ∀ j, j < 6 → Builtin.List.listFitsIndex (Int.ofNat j) = true := by decide +kernel
theorem lget_core {prog : Program} {w : World} {A : Around} {E : Value → Shared → Prop} {Q : Value → Shared → Prop} {h : Heap} {g : Array GenState} {d : Drawn} {tok : Nat} {os : OsState} {D : Addr} {es : Array Value} {n j : Nat} {u : Tok} {x : Value} (hg : h.get? D = some (listE es n)) (hfit : Builtin.List.listFitsIndex (Int.ofNat j) = true) (hx : es[j]? = some x) (hQ : Q x ⟨h, g, d, tok, os⟩) : wpAny (model prog w) A (PySem.call (.builtin "list.__getitem__") [.ref D, .int (Int.ofNat j) u]) Q E ⟨h, g, d, tok, os⟩ := by
  have hl : h.IsList D es := ⟨_, hg, rfl, n, rfl⟩
  generalize hk : Int.ofNat j = k at hfit ⊢
  refine wpAny_call_entry slot_list_getitem hl.typeIs entry_list_getitem ?_ (args_list_getitem _ _)
  unfold Builtin.«list.__getitem__»
  refine wpAny_bind (wpAny_of_eq (a := (Value.ref D, Value.int k u)) (by kernel_rfl!) ?_)
  dsimp only
  refine wpAny_bind (wpAny_listSubscript_int hfit ?_)
  clear hfit
  subst hk
  show wpAny _ _ ((seqItemAt D j >>= fun r => pure (r.map (j, ·))) >>= _) _ _ _
  refine wpAny_bind (wpAny_bind (wpAny_seqItemAt hg rfl (wpAny_pure ?_)))
  rw [hx]
  first
    | exact wpAny_bind (wpAny_pure (wpAny_pure ⟨_, rfl, hQ⟩))
    | exact wpAny_pure ⟨_, rfl, hQ⟩
theorem su_lget (N : Nice3 Z) {D : Addr} {L : List Value} {v : Value} (j : Nat) (hj : j < 6) (hv : L[j]? = some v) : Su Z (smR "list.__getitem__" [.ref D, .int (Int.ofNat j) 0] [(D, lstO L)] v) := by
  refine su_read N ?_
  intro prog w A E Q h g d os tok tks old ho hm hQ
  obtain ⟨es, n, rfl, he⟩ := old_list ho
  obtain ⟨tk, hx⟩ := at_list he hv
  exact lget_core (hm _ (.head _)) (fits6 j hj) hx (hQ tk tok)
theorem su_llast (N : Nice3 Z) {D : Addr} {L : List Value} {v : Value} (hz : L.length ≤ 1000) (hv : L[L.length - 1]? = some v) (hn : 0 < L.length) : Su Z (smR "list.__getitem__" [.ref D, .int (-1) 0] [(D, lstO L)] v) := by
  refine su_read N ?_
  intro prog w A E Q h g d os tok tks old ho hm hQ
  obtain ⟨es, n, rfl, he⟩ := old_list ho
  have hg := hm _ (.head _)
  have hs : es.size = L.length := sz_of he
  obtain ⟨tk, hx⟩ := at_list he hv
  have hl : h.IsList D es := ⟨_, hg, rfl, n, rfl⟩
  refine wpAny_call_entry slot_list_getitem hl.typeIs entry_list_getitem ?_ (args_list_getitem _ _)
  show wpAny _ _ (Builtin.List.listSubscript? (.int (-1) (tks 1)) >>= _) _ _ _
  refine wpAny_bind (wpAny_listSubscript_int (by decide +kernel) ?_)
  have hidx := seqIndex_neg (k := Int.negSucc 0) (n := es.size) (by decide) (by rw [hs]; show -((L.length : Nat) : Int) ≤ -1; omega)
  have h3 : (Int.negSucc 0 + (es.size : Int)).toNat = L.length - 1 := by rw [hs]; show (-1 + ((L.length : Nat) : Int)).toNat = _; omega
  rw [h3] at hidx
  show wpAny _ _ ((Builtin.List.listItems (.ref D) >>= fun xs => pure ((seqIndex? (Int.negSucc 0) xs.size).bind fun i => xs[i]?.map (i, ·))) >>= _) _ _ _
  refine wpAny_bind (wpAny_bind ?_)
  show wpAny _ _ (seqItems? (.ref D) >>= _) _ _ _
  refine wpAny_bind (wpAny_seqItems hg rfl (wpAny_pure (wpAny_pure ?_)))
  rw [hidx]
  simp only [Option.bind_some, hx, Option.map_some]
  first
    | exact wpAny_bind (wpAny_pure (wpAny_pure ⟨_, rfl, hQ tk tok⟩))
    | exact wpAny_pure ⟨_, rfl, hQ tk tok⟩
end

section
variable {prog : Program} {w : World} {A : Around} {R : Result → Shared → Prop} {h₀ : Heap} {d : Drawn} {os : OsState} {vs : Array Value} {hh : A.handled = none} {t : Nat} {p : Setting} {chg : List (Addr × Obj)} {Y : Calc h₀ [(125, tableObj vs)] p} {Z : Calc h₀ chg p}
noncomputable def txC (p : Setting) (It L Co : Addr) : Code := forC ((bodyOf (heapK p.params) 159)[6]?) (.ref It) (lwE p L Co)
structure LwA where
  (S L Co Dd Dc Dk It : Addr)
  x : Str
  ek : Array Value
structure TxS where
  i : Nat
  Dt : Addr
  te : Array Value
  last : Option Nat
noncomputable def lwK (a : LwA) (es : List DictEntry) : Obj := lwC a.S a.Dd a.Dc a.x (dE (Str.ofString "kinds") (.ref a.Dk) :: es)
noncomputable def kdE : Option Nat → List DictEntry | none => [] | some k => [dE (Str.ofString "kind") (intV k)]
noncomputable def txW (a : LwA) (q : TxS) : VL := [(false, a.Dk, listE a.ek 0), (false, q.Dt, listE q.te 0), (true, a.L, lwK a (dE (Str.ofString "texts") (.ref q.Dt) :: kdE q.last))]
noncomputable def txV (a : LwA) (q : TxS) : VL := (true, a.It, lItO (.ref a.Dk) (Int.ofNat q.i)) :: txW a q
theorem sb_len (c : Nat) (z : List Nat) (hz : z.length ≤ 2) : ∀ l : List Nat, (sb c z l).length ≤ 2 * l.length
  | [] => Nat.zero_le _
  | k :: l => by
    have ih := sb_len c z hz l
    show ((if k = c then z else [k]) ++ sb c z l).length ≤ _
    rw [List.length_append, List.length_cons]
    split
    · omega
    · simp; omega
theorem tx_turn {fs : List Fr} {cB : Code} {kB : Result → Sem PySem.Fin} (N : Nice Y) (N3 : Nice3 Y) (hR : Y.Rm (⟨cB, kB, false⟩ :: fs) 370) (X : (heapK p.params).In h₀) (a : LwA) (q : TxS) (k : Nat) (y : Str) (ys : List Str) (hk : k = 0 ∨ k = 1) (hc : (a.ek.toList.map vv)[q.i]? = some (intV k)) (hte : q.te.toList.map vv = (ys ++ [y]).map strV) (hl : ys.length ≤ 10) (hy : y.cps.toList.length ≤ 1000) {rest : List (Addr × Obj)}
  (ih : ∀ Dt te J tok, te.toList.map vv = (ys ++ [y] ++ [over y k]).map strV → Y.C (⟨cB, kB, false⟩ :: fs) (txC p a.It a.L a.Co) (led J (txV a ⟨q.i + 1, Dt, te, some k⟩) rest) tok)
  : ∀ J tok, Y.C (⟨cB, kB, false⟩ :: fs) (txC p a.It a.L a.Co) (led J (txV a q) rest) tok := by
  obtain ⟨S, L, Co, Dd, Dc, Dk, It, x, ek⟩ := a
  obtain ⟨i, Dt, te, last⟩ := q
  dsimp only at hc hte ih
  intro J tok
  apply g_code
  have hlen : (te.toList.map vv).length = ys.length + 1 := by rw [hte]; simp
  have hlast : (te.toList.map vv)[(te.toList.map vv).length - 1]? = some (strV y) := by rw [hlen, hte]; simp
  have S1 := sus1 (su_lnext (Z := Y) X (It := It) (D := Dk) (i := Int.ofNat i) hc) (sus1 (su_llast N3 (D := Dt) (L := te.toList.map vv) (by rw [hlen]; omega) hlast (by rw [hlen]; omega)) sus0)
  have hrp : (Txt.replace y (Str.ofString "\\") (Str.ofString "\\\\")).length ≤ 1000000 := by
    show (Txt.replace y ⟨#[92]⟩ _).cps.size ≤ _
    rw [← Array.length_toList, replace_sb]
    have := sb_len 92 (Str.ofString "\\\\").cps.toList (by decide +kernel) y.cps.toList
    omega
  rcases last with _ | k0
  all_goals
    apply run3 X S1 [.s,.l 0,.u 1 [0,1] 0,.s,.s,.s,.s,.l 3,.l 3,.s,.s,.s,.l 3,.s,.s,.s,.s,.l 3,.s,.s,.c,.g,.s,.p,.s,.l 2,.l 2,.l 2,.u 2 [2] 1,.s,.l 3,.s,.s,.cE] rfl; intro b0 b1 b2 _
    refine ok_call1 [1, 2, 2, 1] (f := .ref 123) (args := [.str y 0, intV k]) (fs := ⟨cB, kB, false⟩ :: fs) (V := [(true, It, lItO (.ref Dk) (Int.ofNat (i + 1))), (false, Dk, listE ek 0), (false, Dt, listE te 0), (true, L, lwK ⟨S, L, Co, Dd, Dc, Dk, It, x, ek⟩ (dE (Str.ofString "texts") (.ref Dt) :: kdE (some k)))]) (rest := rest) ?_ (fun tks J tok => ?_) (by intro h; cases h)
    kernel_rfl!
    refine law_over N (rm_of 1 hR rfl ?_) X y k _ _ hk ?_ ?_ ?_
    kernel_rfl!
    · show y.cps.size ≤ _
      rw [← Array.length_toList]; omega
    · exact hrp
    intro tk J' t'
    refine gb_cons ?_
    clear S1
    apply run1 X sus0 [.s,.a] rfl; intro c0 _; apply ok_run; kernel_rfl!
    have S1 := sus1 (su_ladd N3 (D := Dt) (B := c0) (L1 := te.toList.map vv) (L2 := [strV (over y k)]) (by rw [hlen]; simp; omega)) sus0
    apply run1 X S1 [.s,.l 3,.l 0,.l 3,.s,.u 1 [3,0] 0,.s,.s,.s,.s,.s,.l 5,.l 5,.s,.gE] rfl; intro e0 _
    refine ok_code [2, 0, 1, 2, 0, 1] (V := [(false, e0, listE (te ++ ⟨[.str (over y k) tk]⟩) 0), (true, It, lItO (.ref Dk) (Int.ofNat (i + 1))), (false, Dk, listE ek 0), (true, L, lwK ⟨S, L, Co, Dd, Dc, Dk, It, x, ek⟩ (dE (Str.ofString "texts") (.ref e0) :: kdE (some k)))]) ?_ (fun J tok => c_permV (V' := txV ⟨S, L, Co, Dd, Dc, Dk, It, x, ek⟩ ⟨i + 1, e0, te ++ ⟨[.str (over y k) tk]⟩, some k⟩) (List.perm_middle (l₁ := [_, _])).symm (fun J => ih e0 _ J tok ?_))
    kernel_rfl!
    rw [Array.toList_append, List.map_append, hte, List.map_append (l₂ := [over y k])]
    rfl
noncomputable def ovs : List Nat → Str → List Str | [], y => [y] | k :: ks, y => y :: ovs ks (over y k)
theorem tx_loop {fs : List Fr} {cB : Code} {kB : Result → Sem PySem.Fin} (N : Nice Y) (N3 : Nice3 Y) (hR : Y.Rm (⟨cB, kB, false⟩ :: fs) 370) (X : (heapK p.params).In h₀) (a : LwA) (ks : List Nat) (hks : ∀ k ∈ ks, k = 0 ∨ k = 1) (hkl : ks.length ≤ 5) (he : a.ek.toList.map vv = ks.map intV) {rest : List (Addr × Obj)}
  (hne : 0 < ks.length) (hend : ∀ Dt te k J tok, te.toList.map vv = (ovs ks a.x).map strV → Y.G fs cB (kB (.ok .next)) (led J (txW a ⟨0, Dt, te, some k⟩) rest) tok)
  : ∀ (n i : Nat) (y : Str) (ys : List Str), n + i = ks.length → ys.length = i → y.cps.toList.length * 2 ^ n ≤ 1000 → ys ++ ovs (ks.drop i) y = ovs ks a.x → ∀ Dt te last J tok, te.toList.map vv = (ys ++ [y]).map strV → (last = none → i = 0) → Y.C (⟨cB, kB, false⟩ :: fs) (txC p a.It a.L a.Co) (led J (txV a ⟨i, Dt, te, last⟩) rest) tok
  | 0, i, y, ys, hi, hys, hyl, hF, Dt, te, last, J, tok, hte, hl0 => by
    have hd : ks.drop i = [] := List.drop_eq_nil_of_le (by omega)
    rw [hd, show ovs [] y = [y] from rfl] at hF
    rw [hF] at hte
    have hc : (a.ek.toList.map vv)[(Int.ofNat i).toNat]? = none := by rw [he, List.getElem?_map]; simp; omega
    have S1 := sus1 (su_lend (Z := Y) X (It := a.It) (D := a.Dk) hc) sus0
    obtain ⟨S, L, Co, Dd, Dc, Dk, It, x, ek⟩ := a
    dsimp only at S1
    apply g_code
    rcases last with _ | k0
    · exact absurd (hl0 rfl) (by omega)
    · have hq := fun J tok => hend Dt te k0 J tok hte
      apply run2 X S1 [.s,.l 0,.u 2 [0,1] 0,.l 0,.g,.p] rfl; intro b0 b1 _
      refine ok_GV [0, 0, 0, 2, 2, 1] (t := kB (.ok .next)) ?_ hq
      kernel_rfl!
  | n + 1, i, y, ys, hi, hys, hyl, hF, Dt, te, last, J, tok, hte, hl0 => by
    have hlt : i < ks.length := by omega
    have hd : ks.drop i = ks[i] :: ks.drop (i + 1) := List.drop_eq_getElem_cons hlt
    rw [hd] at hF
    have hk := hks _ (List.getElem_mem hlt)
    refine tx_turn N N3 hR X a ⟨i, Dt, te, last⟩ ks[i] y ys hk (by rw [he, List.getElem?_map]; simp [hlt]) hte (by omega) (Nat.le_trans (Nat.le_mul_of_pos_right _ (Nat.pow_pos (by decide))) hyl) ?_ J tok
    intro Dt te J tok hte
    refine tx_loop N N3 hR X a ks hks hkl he hne hend n (i + 1) (over y ks[i]) (ys ++ [y]) (by omega) (by simp; omega) ?_ ?_ Dt te _ J tok hte (fun h => nomatch h)
    · rw [over_eq _ _ hk]
      refine Nat.le_trans (Nat.mul_le_mul_right _ (ov_len ks[i] y.cps.toList)) ?_
      rw [Nat.mul_comm 2, Nat.mul_assoc, ← Nat.pow_succ']
      exact hyl
    · rw [List.append_assoc, ← hF]
      rfl
end

section
variable {prog : Program} {w : World} {A : Around} {R : Result → Shared → Prop} {h₀ : Heap} {d : Drawn} {os : OsState} {vs : Array Value} {hh : A.handled = none} {t : Nat} {p : Setting} {chg : List (Addr × Obj)} {Y : Calc h₀ [(125, tableObj vs)] p} {Z : Calc h₀ chg p}
noncomputable def lwM (a : LwA) (Dt : Addr) (k : Nat) (es : List DictEntry) : Obj := lwK a (dE (Str.ofString "texts") (.ref Dt) :: dE (Str.ofString "kind") (intV k) :: es)
theorem law_6 {fs : List Fr} (N : Nice Y) (N3 : Nice3 Y) (hR : Y.Rm fs 340) (X : (heapK p.params).In h₀) {S L Co Dd Dc Dk : Addr} (od : Nat) (x : Str) {ek : Array Value} (ks : List Nat) (hks : ∀ k ∈ ks, k = 0 ∨ k = 1) (hkl : ks.length ≤ 5) (hne : 0 < ks.length) (he : ek.toList.map vv = ks.map intV) (hx : x.cps.toList.length ≤ 6) {rest : List (Addr × Obj)}
  (hK : ∀ It Dt te k J tok, te.toList.map vv = (ovs ks x).map strV → Y.G fs (lwF p 0 L Co) (lwT p 7 L Co) (led J [(false, Dk, listE ek 0), (false, Dt, listE te 0), (true, L, lwM ⟨S, L, Co, Dd, Dc, Dk, It, x, ek⟩ Dt k [])] rest) tok)
  : ∀ J tok, Y.G fs (lwF p 0 L Co) (lwT p 5 L Co) (led J [(false, Dk, listE ek 0), (true, Co, clO od), (true, L, lwC S Dd Dc x [dE (Str.ofString "kinds") (.ref Dk)])] rest) tok := by
  intro J tok
  apply run2 X sus0 [.s,.s,.s,.l 2,.a,.s,.s,.s,.s,.l 3,.l 3,.s,.s,.s,.l 3,.s,.l 1,.l 1,.m,.c,.l 1,.g,.a,.p,.l 0,.cE] rfl; intro f0 f1 _
  refine ok_loopf [1, 1, 2, 0, 1] (txC p f1 L Co) (fs := fs) (V := [(true, f1, lItO (.ref Dk) 0), (true, f0, lstO [.str x 0]), (false, Dk, listE ek 0), (true, L, lwK ⟨S, L, Co, Dd, Dc, Dk, f1, x, ek⟩ [dE (Str.ofString "texts") (.ref f0)])]) (rest := rest) ?_ (fun J tok => ?_)
  kernel_rfl!
  refine gc_perm (List.Perm.of_eq (l₂ := led J [(true, f1, lItO (.ref Dk) 0), (false, f0, listE ⟨bVs (J 1).v [.str x 0]⟩ 0), (false, Dk, listE ek 0), (true, L, lwK ⟨S, L, Co, Dd, Dc, Dk, f1, x, ek⟩ [dE (Str.ofString "texts") (.ref f0)])] rest) ?_) ?_
  kernel_rfl!
  generalize ht : (⟨bVs (J 1).v [.str x 0]⟩ : Array Value) = te
  have hte : te.toList.map vv = ([] ++ [x]).map strV := by rw [← ht]; rfl
  clear ht
  refine c_permV (V' := txV ⟨S, L, Co, Dd, Dc, Dk, f1, x, ek⟩ ⟨0, f0, te, none⟩) (List.Perm.cons _ (List.Perm.swap _ _ _)) (fun J => tx_loop N N3 (rm_of 1 hR rfl ?_) X ⟨S, L, Co, Dd, Dc, Dk, f1, x, ek⟩ ks hks hkl he hne ?_ ks.length 0 x [] rfl rfl ?_ rfl f0 te none J tok hte (fun _ => rfl))
  kernel_rfl!
  · intro Dt te k J tok hte
    have hq := fun J tok => hK f1 Dt te k J tok hte
    clear hK
    apply run0 X sus0 [] rfl
    refine ok_GV [2, 2, 1] (fs := fs) (c := lwF p 0 L Co) (t := lwT p 7 L Co) (V := [(false, Dk, listE ek 0), (false, Dt, listE te 0), (true, L, lwM ⟨S, L, Co, Dd, Dc, Dk, f1, x, ek⟩ Dt k [])]) (rest := rest) ?_ hq
    kernel_rfl!
  · have : 2 ^ ks.length ≤ 2 ^ 5 := Nat.pow_le_pow_right (by decide) hkl
    exact Nat.le_trans (Nat.mul_le_mul hx this) (by decide)
end

section
variable {prog : Program} {w : World} {A : Around} {R : Result → Shared → Prop} {h₀ : Heap} {d : Drawn} {os : OsState} {vs : Array Value} {hh : A.handled = none} {t : Nat} {p : Setting} {chg : List (Addr × Obj)} {Y : Calc h₀ [(125, tableObj vs)] p} {Z : Calc h₀ chg p}
noncomputable def szC (p : Setting) (It L Co : Addr) : Code := forC ((bodyOf (heapK p.params) 159)[8]?) (.ref It) (lwE p L Co)
structure SzS where
  xi : Int
  left : Int
  y : Str
  last : Option (Int × Addr)
structure SzA where
  a : LwA
  Dt : Addr
  k0 : Nat
  te : Array Value
  Iz : Addr
noncomputable def szE : Option (Int × Addr) → List DictEntry | none => [] | some (n, T) => [dE (Str.ofString "size") (.int n 0), dE (Str.ofString "taken") (.ref T)]
noncomputable def szW (q : SzA) (y : Str) (es : List DictEntry) : VL := [(false, q.a.Dk, listE q.a.ek 0), (false, q.Dt, listE q.te 0), (true, q.a.L, lwM q.a q.Dt q.k0 (dE (Str.ofString "left") (.str y 0) :: es))]
noncomputable def szV (q : SzA) (s : SzS) : VL := (true, q.Iz, rItO s.xi s.left (-1)) :: szW q s.y (szE s.last)
noncomputable def rngO (n : Int) : Obj := ⟨.type "range", none, .fields ⟨[.int n 0, .int 0 0, .int (-1) 0]⟩, #[]⟩
noncomputable def smRi (r : Addr) (m : Nat) : Sm := ⟨[(r, rngO (Int.ofNat (m + 1)))], .call (.builtin "range.__iter__") ⟨[.ref r], []⟩, 1,
  fun _ as' tok => ⟨.ok (.ret (.ref (as'.getD 0 0))), [(as'.getD 0 0, rItO (Int.ofNat (m + 1)) (Int.ofNat (m + 1)) (-1))], [], tok⟩, mC⟩
theorem int_of {v : Value} {i : Int} (h : vv v = .int i 0) : v = .int i (tkOf v) := by rw [← bv_vv v, h]; rfl
theorem rng_of {o : Obj} {n : Int} (h : vO o = rngO n) : ∃ t u v, o = ⟨.type "range", none, .fields #[.int n t, .int 0 u, .int (-1) v], #[]⟩ := by
  obtain ⟨c, d, dt, s⟩ := o
  cases dt with
  | fields es =>
    unfold rngO at h
    replace h : (⟨c, d, .fields ⟨es.toList.map vv⟩, s⟩ : Obj) = _ := h
    injection h with h1 h2 h3 h4
    injection h3 with h5
    injection h5 with h6
    subst h1 h2 h4
    obtain ⟨es⟩ := es
    have hl := congrArg List.length h6
    rcases es with _ | ⟨x, _ | ⟨y, _ | ⟨z, _ | ⟨_, _⟩⟩⟩⟩ <;> first | (exfalso; simp at hl; done) | skip
    injection h6 with h7 h8
    injection h8 with h9 h10
    injection h10 with h11 _
    exact ⟨_, _, _, by rw [int_of h7, int_of h9, int_of h11]⟩
  | cell v => cases v <;> (unfold vO rngO at h; injection h with h1 h2 h3 h4; cases h3)
  | _ => unfold vO rngO at h; injection h with h1 h2 h3 h4; cases h3
theorem rng_size : ∀ m, m < 5 → Builtin.Range.rangeSize (Int.ofNat (m + 1)) 0 (-1) = Int.ofNat (m + 1) := by decide +kernel
theorem rng_fits : ∀ m, m < 5 → (Builtin.Range.rangeFitsLong (Int.ofNat (m + 1)) && Builtin.Range.rangeFitsLong 0 && Builtin.Range.rangeFitsLong (-1) && Builtin.Range.rangeFitsLong (Builtin.Range.rangeSize (Int.ofNat (m + 1)) 0 (-1)) && (Builtin.Range.rangeSize (Int.ofNat (m + 1)) 0 (-1) == 0 || if (-1 : Int) > 0 then Builtin.Range.rangeFitsLong (0 + (-1 - 1)) else Builtin.Range.rangeFitsLong (0 + (-1 + 1)))) = true := by decide +kernel
theorem su_riter (N : Nice3 Z) {r : Addr} {m : Nat} (hm : m < 5) : Su Z (smRi r m) := by
  intro fs c c' k gd l news tok is old hi' ho hc' K
  obtain ⟨tks, rfl⟩ := mC_call hc'
  obtain ⟨o', rfl, hs⟩ := old1A ho
  obtain ⟨x, y, z, rfl⟩ := rng_of hs
  have hm' := getAll_mem hi'
  replace K := fun a => K [a] rfl
  refine N.call (fun r' news' tok' => ∃ a, r' = .ok (.ret (.ref a)) ∧ news' = (a, rItO (Int.ofNat (m + 1)) (Int.ofNat (m + 1)) (-1)) :: news ∧ tok' = tok) (fun prog w A g d os h hA M => ?_) ?_
  · obtain ⟨j, hj1⟩ := hm' _ (.head _)
    have hb := M.at hj1
    refine call_meets F.slot_range_iter ⟨_, hb, rfl⟩ F.entry_range_iter (F.args_range_iter_1 _) (AutoRange.range___iter___range_1 r _ _ _ x y z (by rw [rng_fits m hm]; decide)) ⟨hb, ?_⟩
    rw [rng_fits m hm, rng_size m hm]
    obtain ⟨ln, M, q⟩ := M
    exact ⟨_, _, _, rfl, ⟨_, Mem.alloc M rfl, q.cons _⟩, _, rfl, rfl, rfl⟩
  · rintro r' news' tok' ⟨a, rfl, rfl, rfl⟩
    have := K a
    unfold Eff.news smRi at this
    dsimp only at this
    rw [setAll_nil] at this
    exact this
theorem su_lgetI (N : Nice3 Z) {D : Addr} {L : List Value} {v : Value} {i : Int} (j : Nat) (hi : i = Int.ofNat j) (hj : j < 6) (hv : L[j]? = some v) : Su Z (smR "list.__getitem__" [.ref D, .int i 0] [(D, lstO L)] v) := by
  subst hi
  exact su_lget N j hj hv
end

section
variable {prog : Program} {w : World} {A : Around} {R : Result → Shared → Prop} {h₀ : Heap} {d : Drawn} {os : OsState} {vs : Array Value} {hh : A.handled = none} {t : Nat} {p : Setting} {chg : List (Addr × Obj)} {Y : Calc h₀ [(125, tableObj vs)] p} {Z : Calc h₀ chg p}
structure SzP (x y y' : Str) (kp : List Nat) (k : Nat) (m s b : Nat) (F : CnS) : Prop where
  hk : k = 0 ∨ k = 1
  hy : y.cps.toList = ov k y'.cps.toList
  h2 : 2 ≤ y'.cps.toList.count 34
  hsg : ∀ c ∈ y'.cps.toList, Sg c
  hlen : y'.cps.toList.length ≤ 400
  hm : m = (ov k y'.cps.toList).count 34
  hs : s = (ov k y'.cps.toList).count 92
  hb : b = (un (ov k y'.cps.toList) false).count [34]
  hkp : kp.length ≤ 5
  hx : ∀ c ∈ x.cps.toList, Sg c
  hm1 : (cntO x (Str.ofString "\"")).natAbs < 2 ^ 64
  hs1 : (cntO x (Str.ofString "\\")).natAbs < 2 ^ 64
  hok : ∀ D es L It, cnOK ⟨x, D, L, It, es, cntO x (Str.ofString "\\"), cntO x (Str.ofString "\""), kp.count 1, kp.count 0⟩ kp ⟨0, 0, 0, 0, hidF x.cps.toList 0 0, none⟩
  hF : ∀ D es L It, kp.foldl (cnStep ⟨x, D, L, It, es, cntO x (Str.ofString "\\"), cntO x (Str.ofString "\""), kp.count 1, kp.count 0⟩) ⟨0, 0, 0, 0, hidF x.cps.toList 0 0, none⟩ = F
  e1 : cntO x (Str.ofString "\"") * 2 ^ kp.count 0 = Int.ofNat m
  e2 : cntO x (Str.ofString "\\") * 2 ^ kp.count 1 + cntO x (Str.ofString "\"") * F.more = Int.ofNat s
  e3 : Int.ofNat m - F.hid = Int.ofNat b
noncomputable def szU (q : SzA) (n : Nat) (left : Int) (y : Str) (es : List DictEntry) : VL := (true, q.Iz, rItO (Int.ofNat (n + 1) + -1) (left - 1) (-1)) :: szW q y (dE (Str.ofString "size") (.int (Int.ofNat (n + 1)) 0) :: es)
def tkL : Option (Int × Addr) → List DictEntry | none => [] | some (_, T) => [dE (Str.ofString "taken") (.ref T)]
theorem sz_turn {g : Array GenState} {fs : List Fr} {cB : Code} {kB : Result → Sem PySem.Fin} (hR : (wpC prog w A R h₀ d os hh [(125, tableObj vs)] g).Rm (⟨cB, kB, false⟩ :: fs) 343) (X : (heapK w.params).In h₀) (hB : BI h₀) {own : List (Addr × Obj)} (hTB : TB vs own) (hM : ∃ sl, h₀.get? 4 = some ⟨.type "module", some 0, .plain, sl⟩) (hg0 : Bare g) (q : SzA) (n k m s b : Nat) (left : Int) (hleft : ¬ left ≤ 0) (y y' : Str) (last : Option (Int × Addr)) (ks : List Nat) (hkl : ks.length ≤ 5) (he : q.a.ek.toList.map vv = ks.map intV) (hn : n < ks.length) (hkn : ks[n]? = some k) (ts : List Str) (hte : q.te.toList.map vv = ts.map strV) (htn : ts[n]? = some y') {F : CnS} (P : SzP q.a.x y y' (ks.take (n + 1)) k m s b F) {rest : List (Addr × Obj)}
  (ih : ∀ g' cc ca ct cl T J tok, Bare g' → (wpC prog w A R h₀ d os hh [(125, tableObj (tb1 cc))] g').C (⟨cB, kB, false⟩ :: fs) (szC ⟨prog, w.params⟩ q.Iz q.a.L q.a.Co) (led J (szV q ⟨Int.ofNat (n + 1) + -1, left - 1, y', some (Int.ofNat (n + 1), T)⟩) ((cc, codO ca ct cl) :: rest)) tok)
  : ∀ J tok, (wpC prog w A R h₀ d os hh [(125, tableObj vs)] g).C (⟨cB, kB, false⟩ :: fs) (szC ⟨prog, w.params⟩ q.Iz q.a.L q.a.Co) (led J (szV q ⟨Int.ofNat (n + 1), left, y, last⟩) (own ++ rest)) tok := by
  intro J tok
  obtain ⟨⟨S, L, Co, Dd, Dc, Dk, It, x, ek⟩, Dt, k0, te, Iz⟩ := q
  dsimp only at he hte P ih
  have N := nice_wp prog w A R h₀ d os hh [(125, tableObj vs)] g
  have N3 := nice3_wp prog w A R h₀ d os hh [(125, tableObj vs)] g
  have hsz : (ek.toList.map vv).length ≤ 16777216 := by rw [he, List.length_map]; omega
  apply g_code
  have S1 := sus1 (su_rnext (Z := wpC prog w A R h₀ d os hh [(125, tableObj vs)] g) (It := Iz) (x := Int.ofNat (n + 1)) (left := left) (step := -1) hleft) sus0
  have hi1 : Int.ofNat (n + 1) - 1 = Int.ofNat n := by show ((n + 1 : Nat) : Int) - 1 = (n : Int); omega
  rcases last with _ | ⟨n0, T0⟩
  · skip
    apply run1 X S1 [.s,.l 0,.u 0 [0] 0,.s,.s,.s,.s,.l 3,.l 3,.s,.s,.s,.s,.s,.l 3,.s,.s,.s,.l 3,.s,.l 3,.s,.l 3,.a] rfl; intro b0 _; apply ok_run; kernel_rfl!
    have S2 := sus1 (su_lslice N3 (D := Dk) (b := b0) (L := ek.toList.map vv) (lo := none) (hi := some (Int.ofNat (n + 1))) (st := none) (by decide) hsz) sus0
    apply run1 X S2 [.s,.l 2,.l 2,.l 2,.u 1 [2,0] 0,.s,.s,.s,.cE] rfl; intro c0 _
    refine ok_call1 [2, 0, 1, 2, 2, 1] (f := .ref 144) (args := [.str x 0, .ref c0]) (fs := ⟨cB, kB, false⟩ :: fs) (V := (false, c0, listE (slicePick ek none (some (Int.ofNat (n + 1))) none) 0) :: szU ⟨⟨S, L, Co, Dd, Dc, Dk, It, x, ek⟩, Dt, k0, te, Iz⟩ n left y []) (rest := own ++ rest) ?_ (fun tks J tok => ?_) (by intro h; cases h)
    kernel_rfl!
    refine gc_perm (news' := led J [(false, c0, listE (slicePick ek none (some (Int.ofNat (n + 1))) none) 0)] (led (fun i => J (i + 1)) (szU ⟨⟨S, L, Co, Dd, Dc, Dk, It, x, ek⟩, Dt, k0, te, Iz⟩ n left y []) (own ++ rest))) (List.Perm.of_eq rfl) ?_
    refine counts_ok N N3 (rm_of 1 hR rfl ?_) X hB x _ P.hx c0 _ (ks.take (n + 1)) ?_ P.hkp F P.hm1 P.hs1 (P.hok _ _) (P.hF _ _) ?_ J
    kernel_rfl!
    · rw [pick_any, List.map_take, he, List.map_take]
    intro T J' t'
    rw [P.e1, P.e2, P.e3]
    refine gb_cons ?_
    clear S1 S2
    apply run0 X sus0 [.s,.s,.s,.cE] rfl; intro _
    refine ok_call1 [1, 0, 1, 2, 2, 1] (f := .ref 154) (args := [.str y 0, .ref T]) (fs := ⟨cB, kB, false⟩ :: fs) (V := (true, T, cntT m s b) :: szU ⟨⟨S, L, Co, Dd, Dc, Dk, It, x, ek⟩, Dt, k0, te, Iz⟩ n left y []) (rest := own ++ rest) ?_ (fun tks J tok => ?_) (by intro h; cases h)
    kernel_rfl!
    refine gc_perm (List.Perm.cons _ (List.perm_append_comm_assoc _ _ _)) ?_
    refine taken_ok (rm_of 1 hR rfl ?_) X hB hTB hM hg0 y _ T k y'.cps.toList P.hk P.hy P.h2 P.hsg P.hlen m s b P.hm P.hs P.hb ?_
    kernel_rfl!
    intro g' cc ca ct cl T2 nm J2 t2 hb2 hnm
    obtain rfl : nm = y' := str_eq hnm
    clear N N3
    refine gb_cons ?_
    refine gen_swap (own := [(cc, codO ca ct cl)]) (J := fun i => J (i + 1)) (V := szU ⟨⟨S, L, Co, Dd, Dc, Dk, It, x, ek⟩, Dt, k0, te, Iz⟩ n left y []) (rest := rest) ?_
    have N3 := nice3_wp prog w A R h₀ d os hh [(125, tableObj (tb1 cc))] g'
    have S1 := sus1 (su_lgetI N3 (D := Dk) (L := ek.toList.map vv) (v := intV k) (i := Int.ofNat (n + 1) - 1) n hi1 (by omega) (by rw [he, List.getElem?_map, hkn]; rfl)) (sus1 (su_lgetI N3 (D := Dt) (L := te.toList.map vv) (v := strV nm) (i := Int.ofNat (n + 1) - 1) n hi1 (by omega) (by rw [hte, List.getElem?_map, htn]; rfl)) sus0)
    apply run5 X S1 [.s,.s,.s,.s,.s,.l 4,.l 4,.s,.s,.s,.l 4,.s,.s,.l 4,.s,.l 4,.s,.s,.c,.g,.s,.p,.s,.l 2,.l 2,.l 2,.u 2 [2] 0,.s,.l 4,.s,.l 4,.s,.s,.c,.g,.s,.p,.s,.l 3,.l 3,.l 3,.u 2 [3] 1,.a,.s] rfl; intro e0 e1 e2 e3 e4 _; apply ok_run; kernel_rfl!
    k_places
    apply run0 X S1 [] rfl; intro _; apply ok_run; kernel_rfl!
    k_subL
    clear S1
    have S1 := sus1 (su_tupne N3 (a := T2) (b := e4) (V := [intV k, strV nm]) (by intro v hv; simp at hv; rcases hv with rfl | rfl <;> rfl)) sus0
    apply run2 X S1 [.l 1,.l 0,.l 1,.m,.u 2 [1,0] 0,.s,.s,.s,.l 5,.s,.s,.l 1,.l 1,.l 1,.c,.l 1,.g,.l 1,.p,.s,.s,.s,.s,.l 5,.l 5,.s,.gE] rfl; intro i0 i1 _
    refine ok_code [0, 0, 1, 2, 2, 1] (V := szV ⟨⟨S, L, Co, Dd, Dc, Dk, It, x, ek⟩, Dt, k0, te, Iz⟩ ⟨Int.ofNat (n + 1) + -1, left - 1, nm, some (Int.ofNat (n + 1), T2)⟩) (rest := (cc, codO ca ct cl) :: rest) ?_ (fun J tok => ih g' cc ca ct cl T2 J tok hb2)
    kernel_rfl!
  · skip
    apply run1 X S1 [.s,.l 0,.u 0 [0] 0,.s,.s,.s,.s,.l 3,.l 3,.s,.s,.s,.s,.s,.l 3,.s,.s,.s,.l 3,.s,.l 3,.s,.l 3,.a] rfl; intro b0 _; apply ok_run; kernel_rfl!
    have S2 := sus1 (su_lslice N3 (D := Dk) (b := b0) (L := ek.toList.map vv) (lo := none) (hi := some (Int.ofNat (n + 1))) (st := none) (by decide) hsz) sus0
    apply run1 X S2 [.s,.l 2,.l 2,.l 2,.u 1 [2,0] 0,.s,.s,.s,.cE] rfl; intro c0 _
    refine ok_call1 [2, 0, 1, 2, 2, 1] (f := .ref 144) (args := [.str x 0, .ref c0]) (fs := ⟨cB, kB, false⟩ :: fs) (V := (false, c0, listE (slicePick ek none (some (Int.ofNat (n + 1))) none) 0) :: szU ⟨⟨S, L, Co, Dd, Dc, Dk, It, x, ek⟩, Dt, k0, te, Iz⟩ n left y [dE (Str.ofString "taken") (.ref T0)]) (rest := own ++ rest) ?_ (fun tks J tok => ?_) (by intro h; cases h)
    kernel_rfl!
    refine gc_perm (news' := led J [(false, c0, listE (slicePick ek none (some (Int.ofNat (n + 1))) none) 0)] (led (fun i => J (i + 1)) (szU ⟨⟨S, L, Co, Dd, Dc, Dk, It, x, ek⟩, Dt, k0, te, Iz⟩ n left y [dE (Str.ofString "taken") (.ref T0)]) (own ++ rest))) (List.Perm.of_eq rfl) ?_
    refine counts_ok N N3 (rm_of 1 hR rfl ?_) X hB x _ P.hx c0 _ (ks.take (n + 1)) ?_ P.hkp F P.hm1 P.hs1 (P.hok _ _) (P.hF _ _) ?_ J
    kernel_rfl!
    · rw [pick_any, List.map_take, he, List.map_take]
    intro T J' t'
    rw [P.e1, P.e2, P.e3]
    refine gb_cons ?_
    clear S1 S2
    apply run0 X sus0 [.s,.s,.s,.cE] rfl; intro _
    refine ok_call1 [1, 0, 1, 2, 2, 1] (f := .ref 154) (args := [.str y 0, .ref T]) (fs := ⟨cB, kB, false⟩ :: fs) (V := (true, T, cntT m s b) :: szU ⟨⟨S, L, Co, Dd, Dc, Dk, It, x, ek⟩, Dt, k0, te, Iz⟩ n left y [dE (Str.ofString "taken") (.ref T0)]) (rest := own ++ rest) ?_ (fun tks J tok => ?_) (by intro h; cases h)
    kernel_rfl!
    refine gc_perm (List.Perm.cons _ (List.perm_append_comm_assoc _ _ _)) ?_
    refine taken_ok (rm_of 1 hR rfl ?_) X hB hTB hM hg0 y _ T k y'.cps.toList P.hk P.hy P.h2 P.hsg P.hlen m s b P.hm P.hs P.hb ?_
    kernel_rfl!
    intro g' cc ca ct cl T2 nm J2 t2 hb2 hnm
    obtain rfl : nm = y' := str_eq hnm
    clear N N3
    refine gb_cons ?_
    refine gen_swap (own := [(cc, codO ca ct cl)]) (J := fun i => J (i + 1)) (V := szU ⟨⟨S, L, Co, Dd, Dc, Dk, It, x, ek⟩, Dt, k0, te, Iz⟩ n left y [dE (Str.ofString "taken") (.ref T0)]) (rest := rest) ?_
    have N3 := nice3_wp prog w A R h₀ d os hh [(125, tableObj (tb1 cc))] g'
    have S1 := sus1 (su_lgetI N3 (D := Dk) (L := ek.toList.map vv) (v := intV k) (i := Int.ofNat (n + 1) - 1) n hi1 (by omega) (by rw [he, List.getElem?_map, hkn]; rfl)) (sus1 (su_lgetI N3 (D := Dt) (L := te.toList.map vv) (v := strV nm) (i := Int.ofNat (n + 1) - 1) n hi1 (by omega) (by rw [hte, List.getElem?_map, htn]; rfl)) sus0)
    apply run5 X S1 [.s,.s,.s,.s,.s,.l 4,.l 4,.s,.s,.s,.l 4,.s,.s,.l 4,.s,.l 4,.s,.s,.c,.g,.s,.p,.s,.l 2,.l 2,.l 2,.u 2 [2] 0,.s,.l 4,.s,.l 4,.s,.s,.c,.g,.s,.p,.s,.l 3,.l 3,.l 3,.u 2 [3] 1,.a,.s] rfl; intro e0 e1 e2 e3 e4 _; apply ok_run; kernel_rfl!
    k_places
    apply run0 X S1 [] rfl; intro _; apply ok_run; kernel_rfl!
    k_subL
    clear S1
    have S1 := sus1 (su_tupne N3 (a := T2) (b := e4) (V := [intV k, strV nm]) (by intro v hv; simp at hv; rcases hv with rfl | rfl <;> rfl)) sus0
    apply run2 X S1 [.l 1,.l 0,.l 1,.m,.u 2 [1,0] 0,.s,.s,.s,.l 5,.s,.s,.l 1,.l 1,.l 1,.c,.l 1,.g,.l 1,.p,.s,.s,.s,.s,.l 5,.l 5,.s,.gE] rfl; intro i0 i1 _
    refine ok_code [0, 0, 1, 2, 2, 1] (V := szV ⟨⟨S, L, Co, Dd, Dc, Dk, It, x, ek⟩, Dt, k0, te, Iz⟩ ⟨Int.ofNat (n + 1) + -1, left - 1, nm, some (Int.ofNat (n + 1), T2)⟩) (rest := (cc, codO ca ct cl) :: rest) ?_ (fun J tok => ih g' cc ca ct cl T2 J tok hb2)
    kernel_rfl!
end

section
variable {prog : Program} {w : World} {A : Around} {R : Result → Shared → Prop} {h₀ : Heap} {d : Drawn} {os : OsState} {vs : Array Value} {hh : A.handled = none} {t : Nat} {p : Setting} {chg : List (Addr × Obj)} {Y : Calc h₀ [(125, tableObj vs)] p} {Z : Calc h₀ chg p}
theorem sz_loop {fs : List Fr} {cB : Code} {kB : Result → Sem PySem.Fin} (hR : ∀ g vs, (wpC prog w A R h₀ d os hh [(125, tableObj vs)] g).Rm (⟨cB, kB, false⟩ :: fs) 343) (X : (heapK w.params).In h₀) (hB : BI h₀) (hM : ∃ sl, h₀.get? 4 = some ⟨.type "module", some 0, .plain, sl⟩) (q : SzA) (ks : List Nat) (hkl : ks.length ≤ 5) (he : q.a.ek.toList.map vv = ks.map intV) (ts : List Str) (hte : q.te.toList.map vv = ts.map strV) {rest : List (Addr × Obj)}
  (hT : ∀ n, n < ks.length → ∃ k y y' m s b F, ks[n]? = some k ∧ ts[n]? = some y' ∧ ts[n + 1]? = some y ∧ SzP q.a.x y y' (ks.take (n + 1)) k m s b F)
  (hend : ∀ g' vs' own' y n T J tok, Bare g' → (wpC prog w A R h₀ d os hh [(125, tableObj vs')] g').G fs cB (kB (.ok .next)) (led J (szW q y (szE (some (n, T)))) (own' ++ rest)) tok)
  : ∀ (n : Nat) g vs own left y last, Bare g → TB vs own → n ≤ ks.length → left = Int.ofNat n → ts[n]? = some y → (last = none → 0 < n) → ∀ J tok, (wpC prog w A R h₀ d os hh [(125, tableObj vs)] g).C (⟨cB, kB, false⟩ :: fs) (szC ⟨prog, w.params⟩ q.Iz q.a.L q.a.Co) (led J (szV q ⟨Int.ofNat n, left, y, last⟩) (own ++ rest)) tok
  | 0, g, vs, own, left, y, last, hb, hTB, hn, hl, hy, hl0, J, tok => by
    subst hl
    rcases last with _ | ⟨n0, T0⟩
    · exact absurd (hl0 rfl) (by decide)
    have hq := fun J tok => hend g vs own y n0 T0 J tok hb
    clear hend hT
    obtain ⟨⟨S, L, Co, Dd, Dc, Dk, It, x, ek⟩, Dt, k0, te, Iz⟩ := q
    apply g_code
    apply run2 X sus0 [.s,.l 0,.c,.l 0,.g,.l 0,.l 0,.l 0,.s,.a,.a,.s,.p,.l 0,.g,.p] rfl; intro b0 b1 _
    refine ok_GV [0, 0, 0, 2, 2, 1] (t := kB (.ok .next)) ?_ hq
    kernel_rfl!
  | n + 1, g, vs, own, left, y, last, hb, hTB, hn, hl, hy, hl0, J, tok => by
    obtain ⟨k, y2, y', m, s, b, F, hk, hy', hy2, P⟩ := hT n (by omega)
    obtain rfl : y2 = y := Option.some.inj (hy2.symm.trans hy)
    refine sz_turn (hR g vs) X hB hTB hM hb q n k m s b left (by rw [hl]; show ¬ ((n + 1 : Nat) : Int) ≤ 0; omega) _ y' last ks hkl he (by omega) hk ts hte hy' P ?_ J tok
    intro g' cc ca ct cl T J tok hb'
    have e : Int.ofNat (n + 1) + -1 = Int.ofNat n := by show ((n + 1 : Nat) : Int) + -1 = (n : Int); omega
    rw [e]
    exact sz_loop hR X hB hM q ks hkl he ts hte hT hend n g' (tb1 cc) [(cc, codO ca ct cl)] (left - 1) y' (some (Int.ofNat (n + 1), T)) hb' (.inr ⟨cc, ca, ct, cl, rfl, rfl⟩) (by omega) (by rw [hl]; show ((n + 1 : Nat) : Int) - 1 = (n : Int); omega) hy' (fun h => nomatch h) J tok
theorem law_7 {g : Array GenState} {fs : List Fr} (hR : (wpC prog w A R h₀ d os hh [(125, tableObj vs)] g).Rm fs 330) (X : (heapK w.params).In h₀) (hB : BI h₀) {own : List (Addr × Obj)} (hTB : TB vs own) (hM : ∃ sl, h₀.get? 4 = some ⟨.type "module", some 0, .plain, sl⟩) (hg0 : Bare g) {S L Co Dd Dc Dk It : Addr} (x : Str) {ek : Array Value} (ks : List Nat) (m : Nat) (hm5 : m < 5) (hkm : ks.length = m + 1) (he : ek.toList.map vv = ks.map intV) {Dt : Addr} {te : Array Value} {k : Nat} (ts : List Str) (hte : te.toList.map vv = ts.map strV) (y : Str) (htl : ts.length ≤ 6) (hy : ts[ts.length - 1]? = some y) (hts : ts.length = ks.length + 1) {rest : List (Addr × Obj)}
  (hT : ∀ n, n < ks.length → ∃ k y y' m s b F, ks[n]? = some k ∧ ts[n]? = some y' ∧ ts[n + 1]? = some y ∧ SzP x y y' (ks.take (n + 1)) k m s b F)
  (hK : ∀ g' vs' own' J t', Bare g' → (wpC prog w A R h₀ d os hh [(125, tableObj vs')] g').B fs (.ok (.ret (.bool true))) (led J [] (own' ++ rest)) t')
  : ∀ J tok, (wpC prog w A R h₀ d os hh [(125, tableObj vs)] g).G fs (lwF ⟨prog, w.params⟩ 0 L Co) (lwT ⟨prog, w.params⟩ 7 L Co) (led J [(false, Dk, listE ek 0), (false, Dt, listE te 0), (true, L, lwM ⟨S, L, Co, Dd, Dc, Dk, It, x, ek⟩ Dt k [])] (own ++ rest)) tok := by
  intro J tok
  have N := nice_wp prog w A R h₀ d os hh [(125, tableObj vs)] g
  have N3 := nice3_wp prog w A R h₀ d os hh [(125, tableObj vs)] g
  have hB0 := hB
  obtain ⟨_, e0, cl, dd, es0, ep0, sl, rfl, hL⟩ := hB
  have X0 := X
  replace X := in_cons e0 X
  have S1 := sus1 (su_llast N3 (D := Dt) (L := te.toList.map vv) (v := strV y) (by rw [hte, List.length_map]; omega) (by rw [hte, List.length_map, List.getElem?_map, hy]; rfl) (by rw [hte, List.length_map]; exact (List.getElem?_eq_some_iff.mp hy).1 |> Nat.lt_of_le_of_lt (Nat.zero_le _))) (sus1 (su_llenC (Z := wpC prog w A R h₀ d os hh [(125, tableObj vs)] g) X (D := Dk) (L := ek.toList.map vv) (m := m + 1) (by rw [he, List.length_map, hkm]) (by omega)) sus0)
  apply run2 X S1 [.s,.s,.l 2,.s,.s,.c,.g,.s,.p,.s,.l 1,.l 1,.l 1,.u 2 [1] 0,.s,.s,.s,.s,.l 2,.l 2,.s,.s,.s,.s,.s] rfl; intro b0 b1 _; apply ok_run; kernel_rfl!
  obtain ⟨bh, bk, bq⟩ := hL (Str.ofString "range") (.type "range") (by kernel_rfl!) (by kernel_rfl!)
  k_subL
  apply run0 X S1 [.s,.s,.s] rfl; intro _; apply ok_run; kernel_rfl!
  obtain ⟨bh, bk, bq⟩ := hL (Str.ofString "len") (.builtin "len") (by kernel_rfl!) (by kernel_rfl!)
  k_subL
  apply run3 X S1 [.s,.l 2,.s,.u 2 [0] 1,.s,.s,.s,.s,.c,.g,.s,.p,.s,.c,.g,.c,.g,.a] rfl; intro e0 e1 e2 _; apply ok_run; kernel_rfl!
  have S2 := sus1 (su_riter N3 (r := e2) hm5) sus0
  apply run1 X S2 [.p,.l 0,.l 0,.c,.l 0,.g,.l 0,.p,.p,.s,.s,.l 0,.l 0,.m,.u 1 [0] 0,.l 0,.cE] rfl; intro f0 _
  refine ok_loopf [1, 0, 2, 2, 1] (szC ⟨prog, w.params⟩ f0 L Co) (fs := fs) (V := szV ⟨⟨S, L, Co, Dd, Dc, Dk, It, x, ek⟩, Dt, k, te, f0⟩ ⟨Int.ofNat (m + 1), Int.ofNat (m + 1), y, none⟩) (rest := own ++ rest) ?_ (fun J tok => ?_)
  kernel_rfl!
  refine sz_loop (fun _ _ => rm_of 1 hR rfl ?_) X0 hB0 hM ⟨⟨S, L, Co, Dd, Dc, Dk, It, x, ek⟩, Dt, k, te, f0⟩ ks (by omega) he ts hte hT ?_ (m + 1) g vs own (Int.ofNat (m + 1)) y none hg0 hTB (by omega) rfl (by rw [← hy]; congr 1; omega) (fun _ => Nat.succ_pos _) J tok
  kernel_rfl!
  intro g' vs' own' y2 n2 T2 J tok hb'
  clear S1 S2 N N3
  apply run0 X sus0 [.s,.pE] rfl; intro _
  refine ok_ret [0, 0, 0] (r := .ok (.ret (.bool true))) (V := []) (rest := own' ++ rest) ?_ (fun tk J t' => hK g' vs' own' J t' hb')
  kernel_rfl!
end

section
def TL (ks l : List Nat) : List Nat := ks.foldl (fun l k => ov k l) l
def bare (l : List Nat) : Nat := (un l false).count [34]
theorem cn_fold (a : CnA) (c34 c92 : Nat) (hma : a.ma = (c34 : Nat)) : ∀ (kp : List Nat) (q : CnS) (T : List Nat) (z o : Nat), (∀ k ∈ kp, k = 0 ∨ k = 1) → o + kp.count 1 = a.sh → kp.length + z + o ≤ 5 → q.below = z → q.height = (z : Int) - o → T.count 34 = c34 * 2 ^ z →
    (c34 : Int) * q.more + ((2 ^ (a.sh - o) * (c92 * 2 ^ o) : Nat) : Int) = ((2 ^ (a.sh - o) * T.count 92 : Nat) : Int) → q.hid + (bare T : Nat) = ((c34 * 2 ^ z : Nat) : Int) →
    cnOK a kp q ∧ (TL kp T).count 34 = c34 * 2 ^ (z + kp.count 0) ∧ (c34 : Int) * (kp.foldl (cnStep a) q).more + ((c92 * 2 ^ a.sh : Nat) : Int) = ((TL kp T).count 92 : Nat) ∧ (kp.foldl (cnStep a) q).hid + (bare (TL kp T) : Nat) = ((c34 * 2 ^ (z + kp.count 0) : Nat) : Int)
  | [], q, T, z, o, _, ho, _, _, _, h1, h2, h3 => by
    have ho' : o = a.sh := by simpa using ho
    subst ho'
    refine ⟨trivial, ?_, ?_, ?_⟩
    · simpa [TL] using h1
    · rw [Nat.sub_self, Nat.pow_zero, Nat.one_mul, Nat.one_mul] at h2
      exact h2
    · simpa [TL] using h3
  | k :: kp, q, T, z, o, hk, ho, hl, hz, hh, h1, h2, h3 => by
    rcases hk k (.head _) with rfl | rfl
    · rw [List.count_cons_of_ne (by decide)] at ho
      have hs : cnStep a q 0 = ⟨q.i + 1, q.below + 1, q.more, q.height + 1, q.hid, some 0⟩ := if_pos rfl
      have ih := cn_fold a c34 c92 hma kp (cnStep a q 0) (ov 0 T) (z + 1) o (fun k h => hk k (.tail _ h)) ho (by simp only [List.length_cons] at hl; omega) (by rw [hs, hz]) (by rw [hs]; show q.height + 1 = _; rw [hh]; omega)
        (by rw [c34_ov0, h1, Nat.pow_succ]; rw [Nat.mul_comm 2, Nat.mul_assoc]) (by rw [hs, c92_ov0]; exact h2)
        (by
          have hb : bare (ov 0 T) = T.count 34 + bare T := bare_ov0 T false
          rw [hs, hb, h1, Nat.pow_succ]
          show q.hid + ((c34 * 2 ^ z + bare T : Nat) : Int) = _
          rw [← Nat.mul_assoc]
          generalize c34 * 2 ^ z = u at h3 ⊢
          omega)
      rw [List.count_cons_self]
      refine ⟨⟨.inl rfl, ih.1⟩, ?_, ?_, ?_⟩
      · have := ih.2.1; rw [show z + (kp.count 0 + 1) = z + 1 + kp.count 0 by omega]; exact this
      · exact ih.2.2.1
      · have := ih.2.2.2; rw [show z + (kp.count 0 + 1) = z + 1 + kp.count 0 by omega]; exact this
    · rw [List.count_cons_self] at ho
      have hs : cnStep a q 1 = ⟨q.i + 1, q.below, q.more + 2 ^ ((a.sh : Int) - 1 + q.height).toNat, q.height - 1, a.ma * 2 ^ q.below, some 1⟩ := if_neg (by decide)
      have he : ((a.sh : Int) - 1 + q.height).toNat = a.sh - (o + 1) + z := by rw [hh]; omega
      have ih := cn_fold a c34 c92 hma kp (cnStep a q 1) (ov 1 T) z (o + 1) (fun k h => hk k (.tail _ h)) (by omega) (by simp only [List.length_cons] at hl; omega) (by rw [hs, hz]) (by rw [hs]; show q.height - 1 = _; rw [hh]; omega)
        (by rw [c34_ov1, h1])
        (by
          rw [hs, c92_ov1, h1]
          show (c34 : Int) * (q.more + 2 ^ ((a.sh : Int) - 1 + q.height).toNat) + _ = _
          rw [he]
          have e1 : a.sh - o = a.sh - (o + 1) + 1 := by omega
          rw [e1] at h2
          generalize a.sh - (o + 1) = v at h2 ⊢
          have e2 : (2 : Int) ^ (v + z) = ((2 ^ v * 2 ^ z : Nat) : Int) := by rw [← Nat.pow_add]; exact (Int.natCast_pow 2 (v + z)).symm
          rw [e2, Int.mul_add]
          have e3 : (2 ^ v * (c92 * 2 ^ (o + 1)) : Nat) = 2 ^ (v + 1) * (c92 * 2 ^ o) := by
            rw [Nat.pow_succ, Nat.pow_succ]; simp only [Nat.mul_assoc, Nat.mul_comm, Nat.mul_left_comm]
          have e4 : (2 ^ v * (2 * T.count 92 + c34 * 2 ^ z) : Nat) = 2 ^ (v + 1) * T.count 92 + c34 * (2 ^ v * 2 ^ z) := by
            rw [Nat.pow_succ, Nat.mul_add]; simp only [Nat.mul_assoc, Nat.mul_comm, Nat.mul_left_comm]
          rw [e3, e4, Int.natCast_add, Int.natCast_mul c34]
          omega)
        (by
          have hb : bare (ov 1 T) = 0 := bare_ov1 T
          rw [hs, hb]
          show a.ma * 2 ^ q.below + 0 = _
          rw [hma, hz, Int.add_zero, Int.natCast_mul, Int.natCast_pow]; rfl)
      rw [List.count_cons_of_ne (by decide)]
      simp only [List.length_cons] at hl
      have hc : kp.count 1 ≤ kp.length := List.count_le_length
      exact ⟨⟨.inr ⟨rfl, by rw [hh]; omega, by rw [hh]; omega, by rw [hz]; omega⟩, ih.1⟩, ih.2⟩
theorem ovs_get : ∀ (ks : List Nat) (y : Str) (n : Nat), (∀ k ∈ ks, k = 0 ∨ k = 1) → n ≤ ks.length → ∃ z, (ovs ks y)[n]? = some z ∧ z.cps.toList = TL (ks.take n) y.cps.toList
  | [], y, n, _, hn => by
    obtain rfl : n = 0 := Nat.le_zero.mp hn
    exact ⟨y, rfl, rfl⟩
  | k :: ks, y, 0, _, _ => ⟨y, rfl, rfl⟩
  | k :: ks, y, n + 1, hk, hn => by
    obtain ⟨z, h1, h2⟩ := ovs_get ks (over y k) n (fun j h => hk j (.tail _ h)) (Nat.le_of_succ_le_succ hn)
    refine ⟨z, h1, ?_⟩
    rw [h2, over_eq _ _ (hk k (.head _))]
    rfl
theorem ovs_len : ∀ (ks : List Nat) (y : Str), (ovs ks y).length = ks.length + 1
  | [], _ => rfl
  | k :: ks, y => by show (ovs ks (over y k)).length + 1 = _; rw [ovs_len ks]; rfl
theorem tl_len : ∀ (ks : List Nat) (l : List Nat), (TL ks l).length ≤ 2 ^ ks.length * l.length
  | [], l => by show l.length ≤ 1 * l.length; omega
  | k :: ks, l => by
    have h1 := tl_len ks (ov k l)
    have h2 := ov_len k l
    show (TL ks (ov k l)).length ≤ _
    rw [List.length_cons, Nat.pow_succ]
    exact Nat.le_trans h1 (by rw [Nat.mul_assoc]; exact Nat.mul_le_mul_left _ h2)
theorem tl_sg : ∀ (ks : List Nat) (l : List Nat), (∀ c ∈ l, Sg c) → ∀ c ∈ TL ks l, Sg c
  | [], _, h => h
  | _ :: ks, _, h => tl_sg ks _ (sg_ov h)
theorem szP_of (ks : List Nat) (x : Str) (hk : ∀ k ∈ ks, k = 0 ∨ k = 1) (hkl : ks.length ≤ 5) (hx : ∀ c ∈ x.cps.toList, Sg c) (hxl : x.cps.toList.length ≤ 6) (h2 : 2 ≤ x.cps.toList.count 34) (n : Nat) (hn : n < ks.length) :
    ∃ k y y' m s b F, ks[n]? = some k ∧ (ovs ks x)[n]? = some y' ∧ (ovs ks x)[n + 1]? = some y ∧ SzP x y y' (ks.take (n + 1)) k m s b F := by
  obtain ⟨y', h1, h1'⟩ := ovs_get ks x n hk (Nat.le_of_lt hn)
  obtain ⟨y, h3, h3'⟩ := ovs_get ks x (n + 1) hk hn
  have htk : ks.take (n + 1) = ks.take n ++ [ks[n]] := List.take_succ_eq_append_getElem hn
  have hy : y.cps.toList = ov ks[n] y'.cps.toList := by
    rw [h3', h1', htk, TL, List.foldl_append]; rfl
  have hkp : ∀ k ∈ ks.take (n + 1), k = 0 ∨ k = 1 := fun k h => hk k (List.mem_of_mem_take h)
  have hkp' : ∀ k ∈ ks.take n, k = 0 ∨ k = 1 := fun k h => hk k (List.mem_of_mem_take h)
  have hl5 : (ks.take (n + 1)).length ≤ 5 := by rw [List.length_take]; omega
  have hq34 : cntO x (Str.ofString "\"") = (x.cps.toList.count 34 : Nat) := by rw [str34]; exact cntO_one x 34
  have hq92 : cntO x (Str.ofString "\\") = (x.cps.toList.count 92 : Nat) := cntO_one x 92
  have hb0 : hidF x.cps.toList 0 0 + (bare x.cps.toList : Nat) = ((x.cps.toList.count 34 * 2 ^ 0 : Nat) : Int) := by
    have := hid_un x.cps.toList 0 0 false rfl
    rw [Nat.pow_zero, Nat.mul_one]
    show _ = ((x.cps.toList.count 34 : Nat) : Int)
    rw [Int.zero_add] at this
    exact this
  have key : ∀ (a : CnA) (kp : List Nat), (∀ k ∈ kp, k = 0 ∨ k = 1) → kp.length ≤ 5 → a.ma = (x.cps.toList.count 34 : Nat) → a.sh = kp.count 1 → _ := fun a kp h1 h2 h3 h4 =>
    cn_fold a (x.cps.toList.count 34) (x.cps.toList.count 92) h3 kp ⟨0, 0, 0, 0, hidF x.cps.toList 0 0, none⟩ x.cps.toList 0 0 h1 (by rw [h4, Nat.zero_add]) (by omega) rfl rfl (by rw [Nat.pow_zero, Nat.mul_one])
      (by rw [Int.mul_zero, Int.zero_add, Nat.pow_zero, Nat.mul_one]) hb0
  have hc34 : x.cps.toList.count 34 ≤ 6 := Nat.le_trans List.count_le_length hxl
  have hc92 : x.cps.toList.count 92 ≤ 6 := Nat.le_trans List.count_le_length hxl
  obtain ⟨-, hA, -, -⟩ := key ⟨x, 0, 0, 0, #[], cntO x (Str.ofString "\\"), cntO x (Str.ofString "\""), (ks.take n).count 1, (ks.take n).count 0⟩ (ks.take n) hkp' (by rw [List.length_take]; omega) hq34 rfl
  obtain ⟨-, hB1, hB2, hB3⟩ := key ⟨x, 0, 0, 0, #[], cntO x (Str.ofString "\\"), cntO x (Str.ofString "\""), (ks.take (n + 1)).count 1, (ks.take (n + 1)).count 0⟩ (ks.take (n + 1)) hkp hl5 hq34 rfl
  rw [Nat.zero_add] at hA hB1 hB3
  have hov : ov ks[n] y'.cps.toList = TL (ks.take (n + 1)) x.cps.toList := by rw [← hy, h3']
  refine ⟨ks[n], y, y', (ov ks[n] y'.cps.toList).count 34, (ov ks[n] y'.cps.toList).count 92, (un (ov ks[n] y'.cps.toList) false).count [34], (ks.take (n + 1)).foldl (cnStep ⟨x, 0, 0, 0, #[], cntO x (Str.ofString "\\"), cntO x (Str.ofString "\""), (ks.take (n + 1)).count 1, (ks.take (n + 1)).count 0⟩) ⟨0, 0, 0, 0, hidF x.cps.toList 0 0, none⟩, List.getElem?_eq_getElem hn, h1, h3, ?_⟩
  exact {
    hk := hk _ (List.getElem_mem hn)
    hy := hy
    h2 := by
      rw [h1', hA]
      exact Nat.le_trans h2 (Nat.le_mul_of_pos_right _ (Nat.pow_pos (by decide)))
    hsg := by rw [h1']; exact tl_sg _ _ hx
    hlen := by
      rw [h1']
      refine Nat.le_trans (tl_len _ _) ?_
      have : 2 ^ (ks.take n).length ≤ 2 ^ 5 := Nat.pow_le_pow_right (by decide) (by rw [List.length_take]; omega)
      exact Nat.le_trans (Nat.mul_le_mul this hxl) (by decide)
    hm := rfl
    hs := rfl
    hb := rfl
    hkp := hl5
    hx := hx
    hm1 := by rw [hq34]; exact Nat.lt_of_le_of_lt hc34 (by decide)
    hs1 := by rw [hq92]; exact Nat.lt_of_le_of_lt hc92 (by decide)
    hok := fun D es L It => (key ⟨x, D, L, It, es, cntO x (Str.ofString "\\"), cntO x (Str.ofString "\""), (ks.take (n + 1)).count 1, (ks.take (n + 1)).count 0⟩ (ks.take (n + 1)) hkp hl5 hq34 rfl).1
    hF := fun D es L It => rfl
    e1 := by
      rw [hq34, hov, hB1]
      show _ = ((_ : Nat) : Int)
      rw [Int.natCast_mul, Int.natCast_pow]; rfl
    e2 := by
      clear hB3 hA key
      generalize (List.foldl (cnStep _) _ (ks.take (n + 1))).more = M at hB2 ⊢
      rw [hq34, hq92, hov]
      show _ = ((_ : Nat) : Int)
      rw [← hB2, Int.natCast_mul, Int.natCast_pow, Int.add_comm]; rfl
    e3 := by
      rw [hov, hB1]
      show ((_ : Nat) : Int) - _ = ((_ : Nat) : Int)
      have : (List.count [34] (un (TL (ks.take (n + 1)) x.cps.toList) false)) = bare (TL (ks.take (n + 1)) x.cps.toList) := rfl
      rw [this]
      omega }
end

section
variable {prog : Program} {w : World} {A : Around} {R : Result → Shared → Prop} {h₀ : Heap} {d : Drawn} {os : OsState} {vs : Array Value} {hh : A.handled = none} {t : Nat}
theorem sg_sgn (n : Nat) : Sg (sgn n) := by
  unfold sgn Sg
  have h : n % 8 < 8 := Nat.mod_lt _ (by decide)
  generalize n % 8 = k at h
  match k, h with
  | 0, _ => simp
  | 1, _ => simp
  | 2, _ => simp
  | 3, _ => simp
  | 4, _ => simp
  | 5, _ => simp
  | 6, _ => simp
  | 7, _ => exact .inr (.inr (.inr (.inr (.inr (.inr ⟨_, rfl⟩)))))
theorem txS_sg (cs : List Nat) : ∀ c ∈ (txS cs).cps.toList, Sg c := by
  intro c hc
  rw [txS_l] at hc
  rcases List.mem_append.mp hc with h | h
  · obtain ⟨n, _, rfl⟩ := List.mem_map.mp h
    exact sg_sgn n
  · unfold Sg
    simp at h
    rcases h with rfl | rfl | rfl <;> simp
theorem txS_len (cs : List Nat) : (txS cs).cps.toList.length ≤ 6 := by
  rw [txS_l, List.length_append, List.length_map, List.length_take]
  simp; omega
theorem txS_34 (cs : List Nat) : 2 ≤ (txS cs).cps.toList.count 34 := by
  rw [txS_l, List.count_append]
  exact Nat.le_add_left _ _
theorem kin_01 (od : Nat) : ∀ k ∈ kinK od 5, k = 0 ∨ k = 1 := by
  intro k hk
  obtain ⟨n, _, rfl⟩ := List.mem_map.mp hk
  omega
theorem kin_len (od : Nat) (h : 2 ≤ od) : ∃ m, m < 5 ∧ (kinK od 5).length = m + 1 := by
  have h1 : (kinK od 5).length ≤ 5 := by
    unfold kinK
    rw [List.length_map]
    exact Nat.le_trans (List.length_filter_le _ _) (by decide)
  have h2 : 0 < (kinK od 5).length := by
    unfold kinK
    rw [List.length_map]
    apply List.length_pos_of_mem (a := 0)
    rw [List.mem_filter]
    exact ⟨by decide, by simpa using h⟩
  exact ⟨(kinK od 5).length - 1, by omega, by omega⟩
theorem law_ok {g : Array GenState} {fs : List Fr} (hR : (wpC prog w A R h₀ d os hh [(125, tableObj vs)] g).Rm fs 325) (X : (heapK w.params).In h₀) (hB : BI h₀) {own : List (Addr × Obj)} (hTB : TB vs own) (hM : ∃ sl, h₀.get? 4 = some ⟨.type "module", some 0, .plain, sl⟩) (hg0 : Bare g) {S : Addr} {its : Array Value} {sd : Option Addr} {sn : Nat} {ssl : Array (Option Value)} (hS : h₀.get? S = some ⟨.type "list", sd, .seq its sn, ssl⟩) (hz : its.size ≤ 63) (ns : List Int) (hns : its.toList.map vv = ns.map intI) {rest : List (Addr × Obj)}
  (hK : ∀ g' vs' own' J t', Bare g' → (wpC prog w A R h₀ d os hh [(125, tableObj vs')] g').B fs (.ok (.ret (.bool true))) (led J [] (own' ++ rest)) t')
  : (wpC prog w A R h₀ d os hh [(125, tableObj vs)] g).C fs (.call (.ref 159) ⟨[.ref S], []⟩) (own ++ rest) t := by
  have N := nice_wp prog w A R h₀ d os hh [(125, tableObj vs)] g
  have N3 := nice3_wp prog w A R h₀ d os hh [(125, tableObj vs)] g
  have hR30 : (wpC prog w A R h₀ d os hh [(125, tableObj vs)] g).Rm fs 340 := ⟨Nat.le_trans hR.1 (by decide), Nat.le_trans hR.2 (by decide)⟩
  have hR20 : (wpC prog w A R h₀ d os hh [(125, tableObj vs)] g).Rm fs 330 := ⟨Nat.le_trans hR.1 (by decide), Nat.le_trans hR.2 (by decide)⟩
  have hd4 : ((ns.take 4).map drI).length ≤ 4 := by rw [List.length_map, List.length_take]; omega
  refine law_1 (Y := wpC prog w A R h₀ d os hh [(125, tableObj vs)] g) N N3 hR30 X hB hS hz ns hns ?_
  intro L Co Dd ac J tok hac
  refine law_2 (Y := wpC prog w A R h₀ d os hh [(125, tableObj vs)] g) N N3 X hB ((ns.take 4).map drI) hd4 hac ?_ J tok
  intro Dc ec J tok hec
  generalize hcs : (ns.take 4).map drI ++ [1, 2, 5, 25].drop ((ns.take 4).map drI).length = cs at hec
  have hcl : cs.length = 4 := by rw [← hcs, List.length_append, List.length_drop]; simp; omega
  refine law_3 (Y := wpC prog w A R h₀ d os hh [(125, tableObj vs)] g) N N3 hR30 X hB cs hcl hec ?_ J tok
  intro J tok
  refine law_4 (Y := wpC prog w A R h₀ d os hh [(125, tableObj vs)] g) N N3 X cs hcl hec [] (txS cs) ?_ J tok
  intro J tok
  generalize hod : cs.getD 3 0 % 62 + 2 = od
  have hod2 : 2 ≤ od := by omega
  refine law_5 (Y := wpC prog w A R h₀ d os hh [(125, tableObj vs)] g) N N3 hR30 X hB od (txS cs) ?_ J tok
  intro Dk ek J tok hek
  obtain ⟨m, hm5, hkm⟩ := kin_len od hod2
  refine law_6 (Y := wpC prog w A R h₀ d os hh [(125, tableObj vs)] g) N N3 hR30 X od (txS cs) (kinK od 5) (kin_01 od) (by omega) (by omega) hek (txS_len cs) ?_ J tok
  intro It Dt te k J tok hte
  obtain ⟨y, hy, _⟩ := ovs_get (kinK od 5) (txS cs) (kinK od 5).length (kin_01 od) (Nat.le_refl _)
  refine law_7 hR20 X hB hTB hM hg0 (txS cs) (kinK od 5) m hm5 hkm hek (ovs (kinK od 5) (txS cs)) hte y (by rw [ovs_len]; omega) (by rw [ovs_len]; exact hy) (ovs_len _ _) (szP_of (kinK od 5) (txS cs) (kin_01 od) (by omega) (txS_sg cs) (txS_len cs) (txS_34 cs)) hK J tok
end

section
open PyProof.Rows PySem.Spec
theorem in_ints {vs : List Value} {ns : List Int} (h : IntsAre vs ns) : vs.map vv = ns.map intI := by
  induction h with
  | nil => rfl
  | cons n t _ ih => rw [List.map_cons, List.map_cons, ih]; rfl
theorem caller_rm : callerA.depth ≤ 325 ∧ callerA.units ≤ 325 := by decide
theorem top_tab {w : World} {h : Heap} (KX : (heapK w.params).In h) (KT : h.get? 125 = some (tabObj #[])) : h.TableAt 129 125 #[] := CodeHd.tab (codeHd_of_K KX (by kernel_rfl!)) KT
theorem name_in {name : Str} {v : Value} : ∀ {es : List DictEntry}, (∀ e ∈ es, ∃ n t, e.key = Value.str n t) → (es.find? (fun e => e.key.isStr name)).map (·.val) = some v → ∃ h k, nsNameIn name.cps.size name.cps.toList es false = (some ⟨h, k, v⟩, false)
  | [], _, h => nomatch h
  | e :: es, hk, h => by
    obtain ⟨n, t, he⟩ := hk e (.head _)
    rw [List.find?_cons] at h
    rw [nsNameIn, Value.isStrByCps_eq]
    cases hb : e.key.isStr name with
    | true =>
      rw [hb] at h
      obtain ⟨eh, ek, ev⟩ := e
      have : ev = v := Option.some.inj h
      subst this
      exact ⟨eh, ek, by rw [if_pos rfl]⟩
    | false =>
      rw [hb] at h
      have hr : (false || e.refKey) = false := by unfold DictEntry.refKey; rw [he]; rfl
      rw [if_neg (by decide), hr]
      exact name_in (fun e h => hk e (.tail _ h)) h
theorem top_bi {p : Program} {loose : List Str} {mean : ExcName → Option Value} {mg mb : Str → Option Value} {h : Heap} (T : Top p loose mean mg mb h) : BI h := by
  obtain ⟨o, es, ep, ho, hdt, hk, hf⟩ := T.b
  obtain ⟨cl, dd, dt, sl⟩ := o
  dsimp only at hdt
  subst hdt
  refine ⟨_, ho, cl, dd, es, ep, sl, rfl, fun name v hne hv => ?_⟩
  rw [← ZFast.ze3451499830137702736]
  have h1 := hf name
  rw [T.builtins name (by intro e; rw [e, beq_self_eq_true] at hne; cases hne), hv] at h1
  refine name_in (fun e he => hk e (by simpa using he)) ?_
  unfold nsFind findBy at h1
  rw [← h1, Array.find?_toList]
theorem top_m4 {p : Program} {loose : List Str} {mean : ExcName → Option Value} {mg mb : Str → Option Value} {w : World} {h : Heap} (T : Top p loose mean mg mb h) (KX : (heapK w.params).In h) : ∃ sl, h.get? 4 = some ⟨.type "module", some 0, .plain, sl⟩ := by
  have hm := mg_of (n := Str.ofString "__builtins__") (v := .ref 4) KX T.g (by kernel_rfl!)
  obtain ⟨bm, ob, h1, _, h2, h3, h4, h5⟩ := T.bmain
  rw [hm] at h1
  obtain rfl : 4 = bm := by injection h1 with h1; injection h1
  obtain ⟨c, dd, dt, sl⟩ := ob
  dsimp only at h3 h4 h5
  subst h3 h4 h5
  exact ⟨sl, h2⟩
theorem law_top {w : World} {h₀ : Heap} {d : Drawn} {t : Nat} {os : OsState} {prog : Program} {p : Program} {loose : List Str} {mean : ExcName → Option Value} {mg mb : Str → Option Value} (T : Top p loose mean mg mb h₀) (KX : (heapK w.params).In h₀) (KT : h₀.get? 125 = some (tabObj #[])) {S : Addr} {vals : List Value} {ns : List Int} (hL : h₀.IsList S vals.toArray) (hI : IntsAre vals ns) (hn : ns.length ≤ 63) {Q : Value → Shared → Prop} {E : Value → Shared → Prop}
    (hQ : ∀ h g' vs' own' t', Mem h₀ h [(125, tableObj vs')] own' → AllBare g' → Q (.bool true) ⟨h, g', d, t', os⟩) : wpAny (model prog w) callerA (PySem.call (.ref 159) [.ref S]) Q E ⟨h₀, #[], d, t, os⟩ := by
  obtain ⟨⟨cl, sd, dt, ssl⟩, hS, hc, sn, hdt⟩ := hL
  dsimp only at hc hdt
  subst hc hdt
  have hvn := in_ints hI
  have hl := congrArg List.length hvn
  rw [List.length_map, List.length_map] at hl
  refine wpAny_call ?_
  have hC := law_ok (prog := prog) (w := w) (A := callerA) (R := fun r s' => match r with | .ok (.ret v) => Q v s' | .ok _ => False | .error e => E e s') (h₀ := h₀) (d := d) (os := os) (vs := #[]) (hh := rfl) (t := t) (g := #[]) (fs := []) caller_rm KX (top_bi T) (.inl ⟨rfl, rfl⟩) (top_m4 T KX) (fun _ h => by simp at h) hS (by simp; omega) ns hvn (rest := []) ?_
  · exact hC h₀ ⟨[], ⟨fun _ _ e _ => e, fun p hp => by
      rw [List.mem_singleton.mp hp]
      exact ⟨KT, 129, #[], #[], top_tab KX KT, rfl⟩, by simp, fun _ hp => (nomatch hp), List.Pairwise.nil⟩, .refl _⟩
  · intro g' vs' own' J t' hb h D
    obtain ⟨l, D, _⟩ := D
    exact hQ h g' vs' l t' D hb
theorem top_try : PySem.Challenge.rw_tl0003_01.Holds := hd (by
  k_fill
  intro w s₀ s₁ mg mb G Y fa o pm cd doc dV kV ho hdd hcd hD hmg hg args vals las hpre hlay hrd hwl hlo
  have KX := km_in_of Y
  have KT := km_tabs_of Y 125 (.head _)
  have X := (Ground.X G).1
  have V := (Ground.X G).2
  refine Ground.open G ?_
  intro T B D TE TW
  wrow_args hpre hlay hrd hwl hlo
  x_fa T KX hmg
  obtain ⟨h₀, g, d, t, os⟩ := s₁
  dsimp only at hg
  subst hg
  refine law_top T KX KT (by assumption) (by assumption) (by omega) ?_
  intro h g' vs' own' t' D hb
  refine x_endG D (fun _ => rfl) ?_ hb
  first | rfl | wrow_post)
end

end Mine

theorem PySem.Challenge.cw_tl0003_01_holds : PySem.Challenge.rw_tl0003_01.Holds :=
  Mine.top_try
