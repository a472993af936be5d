import PyProof.Rows.All
import Wide.All
import OpenK.AllK
import Wide.FinOn
import PySem.Challenge.RW_wf0087_01
open PySem PySem.W PySem.Calls PyProof.Rows
set_option Elab.async false
set_option linter.unusedVariables false
set_option linter.unusedSimpArgs false
noncomputable section
namespace Mine

/-! the program's parts, by place -/
noncomputable abbrev pw : Program := PySem.Challenge.pw_wf0087_01
noncomputable abbrev MM (w : World) : Model := model pw w
noncomputable def fB (k : Nat) : List Stmt := match pw.main.body.drop k with | .FunctionDef _ _ b _ _ _ _ _ _ _ :: _ => b | _ => []
noncomputable def fS (k : Nat) : Scope := match pw.main.body.drop k with | .FunctionDef _ _ _ _ _ _ sc _ _ _ :: _ => sc | _ => default
noncomputable def fA (k : Nat) : Arguments := match pw.main.body.drop k with | .FunctionDef _ a _ _ _ _ _ _ _ _ :: _ => a | _ => ⟨[], [], none, [], [], none, []⟩

/-! the names of the text's locals, by number: 0 a, 1 x, 2 lo, 3 hi, 4 key, 5 mid, 6 addr, 7 pos, 8 escape, 9 ch, 10 start, 11 open_pos, 12 result, 13 opens, 14 s, 15 parts, 16 code, 17 r, 18 letters, 19 which, 20 unseen, 21 v, 22 ahead, 23 behind, 24 memory, 25 leaves, 26 depth, 27 word, 28 place, 29 unit, 30 cells, 31 size, 32 k, 33 rest, 34 half, 35 script, 36 numbers, 37 pairs, 38 left, 39 raws, 40 told, 41 words, 42 given, 43 dots, 44 free, 45 dot, 46 sizes, 47 at, 48 block, 49 spot, 50 text, 51 raw, 52 meant, 53 sign, 54 owner, 55 width, 56 letter -/
noncomputable def nms : List Str := [⟨#[97]⟩, ⟨#[120]⟩, ⟨#[108, 111]⟩, ⟨#[104, 105]⟩, ⟨#[107, 101, 121]⟩, ⟨#[109, 105, 100]⟩, ⟨#[97, 100, 100, 114]⟩, ⟨#[112, 111, 115]⟩, ⟨#[101, 115, 99, 97, 112, 101]⟩, ⟨#[99, 104]⟩, ⟨#[115, 116, 97, 114, 116]⟩, ⟨#[111, 112, 101, 110, 95, 112, 111, 115]⟩, ⟨#[114, 101, 115, 117, 108, 116]⟩, ⟨#[111, 112, 101, 110, 115]⟩, ⟨#[115]⟩, ⟨#[112, 97, 114, 116, 115]⟩, ⟨#[99, 111, 100, 101]⟩, ⟨#[114]⟩, ⟨#[108, 101, 116, 116, 101, 114, 115]⟩, ⟨#[119, 104, 105, 99, 104]⟩, ⟨#[117, 110, 115, 101, 101, 110]⟩, ⟨#[118]⟩, ⟨#[97, 104, 101, 97, 100]⟩, ⟨#[98, 101, 104, 105, 110, 100]⟩, ⟨#[109, 101, 109, 111, 114, 121]⟩, ⟨#[108, 101, 97, 118, 101, 115]⟩, ⟨#[100, 101, 112, 116, 104]⟩, ⟨#[119, 111, 114, 100]⟩, ⟨#[112, 108, 97, 99, 101]⟩, ⟨#[117, 110, 105, 116]⟩, ⟨#[99, 101, 108, 108, 115]⟩, ⟨#[115, 105, 122, 101]⟩, ⟨#[107]⟩, ⟨#[114, 101, 115, 116]⟩, ⟨#[104, 97, 108, 102]⟩, ⟨#[115, 99, 114, 105, 112, 116]⟩, ⟨#[110, 117, 109, 98, 101, 114, 115]⟩, ⟨#[112, 97, 105, 114, 115]⟩, ⟨#[108, 101, 102, 116]⟩, ⟨#[114, 97, 119, 115]⟩, ⟨#[116, 111, 108, 100]⟩, ⟨#[119, 111, 114, 100, 115]⟩, ⟨#[103, 105, 118, 101, 110]⟩, ⟨#[100, 111, 116, 115]⟩, ⟨#[102, 114, 101, 101]⟩, ⟨#[100, 111, 116]⟩, ⟨#[115, 105, 122, 101, 115]⟩, ⟨#[97, 116]⟩, ⟨#[98, 108, 111, 99, 107]⟩, ⟨#[115, 112, 111, 116]⟩, ⟨#[116, 101, 120, 116]⟩, ⟨#[114, 97, 119]⟩, ⟨#[109, 101, 97, 110, 116]⟩, ⟨#[115, 105, 103, 110]⟩, ⟨#[111, 119, 110, 101, 114]⟩, ⟨#[119, 105, 100, 116, 104]⟩, ⟨#[108, 101, 116, 116, 101, 114]⟩]
theorem nms_nodup : nms.Nodup := by decide +kernel
noncomputable def ky (x : Str) : Nat := nms.idxOf x
theorem ky_get {x : Str} {k : Nat} (h : ky x = k) (hk : k < 57) : nms[k]? = some x := by
  subst h
  rw [List.getElem?_eq_getElem (h := hk)]
  exact congrArg some (List.getElem_idxOf hk)
theorem nms_inj {j k : Nat} {x : Str} (h1 : nms[j]? = some x) (h2 : nms[k]? = some x) : j = k := by
  obtain ⟨hj, e1⟩ := List.getElem?_eq_some_iff.mp h1
  obtain ⟨hk, e2⟩ := List.getElem?_eq_some_iff.mp h2
  exact (List.getElem_inj nms_nodup).mp (e1.trans e2.symm)
theorem ky_a : ky "a" = 0 := by decide +kernel
theorem ky_x : ky "x" = 1 := by decide +kernel
theorem ky_lo : ky "lo" = 2 := by decide +kernel
theorem ky_hi : ky "hi" = 3 := by decide +kernel
theorem ky_key : ky "key" = 4 := by decide +kernel
theorem ky_mid : ky "mid" = 5 := by decide +kernel
theorem ky_addr : ky "addr" = 6 := by decide +kernel
theorem ky_pos : ky "pos" = 7 := by decide +kernel
theorem ky_escape : ky "escape" = 8 := by decide +kernel
theorem ky_ch : ky "ch" = 9 := by decide +kernel
theorem ky_start : ky "start" = 10 := by decide +kernel
theorem ky_open_pos : ky "open_pos" = 11 := by decide +kernel
theorem ky_result : ky "result" = 12 := by decide +kernel
theorem ky_opens : ky "opens" = 13 := by decide +kernel
theorem ky_s : ky "s" = 14 := by decide +kernel
theorem ky_parts : ky "parts" = 15 := by decide +kernel
theorem ky_code : ky "code" = 16 := by decide +kernel
theorem ky_r : ky "r" = 17 := by decide +kernel
theorem ky_letters : ky "letters" = 18 := by decide +kernel
theorem ky_which : ky "which" = 19 := by decide +kernel
theorem ky_unseen : ky "unseen" = 20 := by decide +kernel
theorem ky_v : ky "v" = 21 := by decide +kernel
theorem ky_ahead : ky "ahead" = 22 := by decide +kernel
theorem ky_behind : ky "behind" = 23 := by decide +kernel
theorem ky_memory : ky "memory" = 24 := by decide +kernel
theorem ky_leaves : ky "leaves" = 25 := by decide +kernel
theorem ky_depth : ky "depth" = 26 := by decide +kernel
theorem ky_word : ky "word" = 27 := by decide +kernel
theorem ky_place : ky "place" = 28 := by decide +kernel
theorem ky_unit : ky "unit" = 29 := by decide +kernel
theorem ky_cells : ky "cells" = 30 := by decide +kernel
theorem ky_size : ky "size" = 31 := by decide +kernel
theorem ky_k : ky "k" = 32 := by decide +kernel
theorem ky_rest : ky "rest" = 33 := by decide +kernel
theorem ky_half : ky "half" = 34 := by decide +kernel
theorem ky_script : ky "script" = 35 := by decide +kernel
theorem ky_numbers : ky "numbers" = 36 := by decide +kernel
theorem ky_pairs : ky "pairs" = 37 := by decide +kernel
theorem ky_left : ky "left" = 38 := by decide +kernel
theorem ky_raws : ky "raws" = 39 := by decide +kernel
theorem ky_told : ky "told" = 40 := by decide +kernel
theorem ky_words : ky "words" = 41 := by decide +kernel
theorem ky_given : ky "given" = 42 := by decide +kernel
theorem ky_dots : ky "dots" = 43 := by decide +kernel
theorem ky_free : ky "free" = 44 := by decide +kernel
theorem ky_dot : ky "dot" = 45 := by decide +kernel
theorem ky_sizes : ky "sizes" = 46 := by decide +kernel
theorem ky_at : ky "at" = 47 := by decide +kernel
theorem ky_block : ky "block" = 48 := by decide +kernel
theorem ky_spot : ky "spot" = 49 := by decide +kernel
theorem ky_text : ky "text" = 50 := by decide +kernel
theorem ky_raw : ky "raw" = 51 := by decide +kernel
theorem ky_meant : ky "meant" = 52 := by decide +kernel
theorem ky_sign : ky "sign" = 53 := by decide +kernel
theorem ky_owner : ky "owner" = 54 := by decide +kernel
theorem ky_width : ky "width" = 55 := by decide +kernel
theorem ky_letter : ky "letter" = 56 := by decide +kernel

/-! data and what bears it on the heap; O: the lists that a frame is still filling -/
inductive PV where
  | none
  | bool (b : Bool)
  | int (i : Int)
  | str (x : Str)
  | list (xs : List PV)
  | tup (xs : List PV)

mutual
inductive Rep (O : Addr → Prop) (h : Heap) : Value → PV → Prop
  | none : Rep O h .none .none
  | bool (b : Bool) : Rep O h (.bool b) (.bool b)
  | int (i : Int) (t : Tok) : Rep O h (.int i t) (.int i)
  | str (x : Str) (t : Tok) : Rep O h (.str x t) (.str x)
  | list {a : Addr} {vs : List Value} {xs : List PV} : ¬ O a → h.IsList a vs.toArray → Reps O h vs xs → Rep O h (.ref a) (.list xs)
  | tup {a : Addr} {vs : List Value} {xs : List PV} : ¬ O a → IsTup h a vs.toArray → Reps O h vs xs → Rep O h (.ref a) (.tup xs)
inductive Reps (O : Addr → Prop) (h : Heap) : List Value → List PV → Prop
  | nil : Reps O h [] []
  | cons {v : Value} {x : PV} {vs : List Value} {xs : List PV} : Rep O h v x → Reps O h vs xs → Reps O h (v :: vs) (x :: xs)
end

mutual
theorem Rep.mono {O O' : Addr → Prop} {h h' : Heap} (ho : ∀ a, O' a → O a) (hk : ∀ b o, ¬ O b → h.get? b = some o → h'.get? b = some o) : ∀ {v : Value} {x : PV}, Rep O h v x → Rep O' h' v x
  | _, _, .none => .none
  | _, _, .bool b => .bool b
  | _, _, .int i t => .int i t
  | _, _, .str x t => .str x t
  | _, _, .list n g r => .list (fun q => n (ho _ q)) (let ⟨o, e, c⟩ := g; ⟨o, hk _ _ n e, c⟩) (Reps.mono ho hk r)
  | _, _, .tup n g r => .tup (fun q => n (ho _ q)) (let ⟨o, e, c⟩ := g; ⟨o, hk _ _ n e, c⟩) (Reps.mono ho hk r)
theorem Reps.mono {O O' : Addr → Prop} {h h' : Heap} (ho : ∀ a, O' a → O a) (hk : ∀ b o, ¬ O b → h.get? b = some o → h'.get? b = some o) : ∀ {vs : List Value} {xs : List PV}, Reps O h vs xs → Reps O' h' vs xs
  | _, _, .nil => .nil
  | _, _, .cons a r => .cons (Rep.mono ho hk a) (Reps.mono ho hk r)
end

namespace Reps
variable {O : Addr → Prop} {h : Heap} {vs ws : List Value} {xs ys : List PV} {v : Value} {x : PV}
theorem length : ∀ {vs : List Value} {xs : List PV}, Reps O h vs xs → vs.length = xs.length
  | _, _, .nil => rfl
  | _, _, .cons _ r => by rw [List.length_cons, List.length_cons, r.length]
theorem append : ∀ {vs : List Value} {xs : List PV}, Reps O h vs xs → Reps O h ws ys → Reps O h (vs ++ ws) (xs ++ ys)
  | _, _, .nil, r' => r'
  | _, _, .cons a r, r' => .cons a (r.append r')
theorem get : ∀ {vs : List Value} {xs : List PV}, Reps O h vs xs → ∀ {k : Nat} {x : PV}, xs[k]? = some x → ∃ v, vs[k]? = some v ∧ Rep O h v x
  | _, _, .nil, k, x, e => by simp at e
  | _, _, .cons a r, 0, x, e => by simp at e; subst e; exact ⟨_, rfl, a⟩
  | _, _, .cons a r, k + 1, x, e => by simp at e; obtain ⟨v, e1, e2⟩ := r.get e; exact ⟨v, by simpa using e1, e2⟩
theorem take : ∀ {vs : List Value} {xs : List PV}, Reps O h vs xs → ∀ k, Reps O h (vs.take k) (xs.take k)
  | _, _, .nil, k => by simpa using Reps.nil
  | _, _, .cons a r, 0 => .nil
  | _, _, .cons a r, k + 1 => .cons a (r.take k)
theorem drop : ∀ {vs : List Value} {xs : List PV}, Reps O h vs xs → ∀ k, Reps O h (vs.drop k) (xs.drop k)
  | _, _, .nil, k => by simpa using Reps.nil
  | _, _, .cons a r, 0 => .cons a r
  | _, _, .cons a r, k + 1 => r.drop k
theorem one (a : Rep O h v x) : Reps O h [v] [x] := .cons a .nil
theorem insert (r : Reps O h vs xs) (a : Rep O h v x) (k : Nat) : Reps O h (vs.take k ++ v :: vs.drop k) (xs.take k ++ x :: xs.drop k) := (r.take k).append (.cons a (r.drop k))
end Reps

/-! what goes on around: room, what is kept -/
noncomputable def Rm (n : Nat) (A : Around) : Prop := A.handled = none ∧ A.depth + n ≤ 500 ∧ A.units + 20 * n ≤ 5000
theorem Rm.deeper {n : Nat} {A : Around} (h : Rm (n + 1) A) (env : Env) : Rm n (A.deeper env) := ⟨h.1, by have := h.2.1; show A.depth + 1 + n ≤ 500; omega, by have := h.2.2; show A.units + 3 + 20 * n ≤ 5000; omega⟩
theorem Rm.depth {n : Nat} {A : Around} (h : Rm n A) : A.depth < recursionLimit := by have := h.2.1; show A.depth < 1000; omega
theorem Rm.units {n : Nat} {A : Around} (h : Rm n A) : A.units < cLine := by have := h.2.2; show A.units < 9900; omega
theorem Rm.in1 {n : Nat} {A : Around} (h : Rm (n + 1) A) : Rm n A.in1 := ⟨h.1, by have := h.2.1; show A.depth + n ≤ 500; omega, by have := h.2.2; show A.units + 1 + 20 * n ≤ 5000; omega⟩
theorem Rm.less {n k : Nat} {A : Around} (h : Rm n A) (hk : k ≤ n) : Rm k A := ⟨h.1, by have := h.2.1; omega, by have := h.2.2; omega⟩

structure Ext (s s' : Shared) : Prop where
  heap : ∀ b o, s.heap.get? b = some o → s'.heap.get? b = some o
  gens : ∀ (i : Nat) x, s.gens[i]? = some x → s'.gens[i]? = some x
  bare : AllBare s.gens → AllBare s'.gens
  os : s'.os = s.os
theorem Ext.refl (s : Shared) : Ext s s := ⟨fun _ _ e => e, fun _ _ e => e, fun e => e, rfl⟩
theorem Ext.trans {s s' s'' : Shared} (x : Ext s s') (y : Ext s' s'') : Ext s s'' :=
  ⟨fun b o e => y.heap b o (x.heap b o e), fun i z e => y.gens i z (x.gens i z e), fun e => y.bare (x.bare e), y.os.trans x.os⟩
theorem Ext.of {s : Shared} {h' : Heap} {tk : Nat} (hk : ∀ b o, s.heap.get? b = some o → h'.get? b = some o) : Ext s { s with heap := h', toks := tk } := ⟨hk, fun _ _ e => e, fun e => e, rfl⟩
theorem Ext.tok {s : Shared} {tk : Nat} : Ext s { s with toks := tk } := .of fun _ _ e => e
theorem Rep.ext {O : Addr → Prop} {s s' : Shared} {v : Value} {x : PV} (r : Rep O s.heap v x) (e : Ext s s') : Rep O s'.heap v x := r.mono (fun _ q => q) fun b o _ => e.heap b o
theorem Reps.ext {O : Addr → Prop} {s s' : Shared} {v : List Value} {x : List PV} (r : Reps O s.heap v x) (e : Ext s s') : Reps O s'.heap v x := r.mono (fun _ q => q) fun b o _ => e.heap b o

/-! the text's own world: functions, names -/
structure FnAt (h : Heap) (a : Addr) (k : Nat) (dV kV : Value) : Prop where
  is : ∃ o name qual doc pm an cd ct, h.get? a = some o ∧ o.data = .func ({ name := name, qualname := qual, params := fA k, body := .stmts (fB k), scope := fS k, globals := mainGlobals, closure := [], defaults := dV, kwdefaults := kV, doc := doc, pyModule := pm, annotations := an, code := cd, closureTuple := ct, builtins := builtinsNs } : FuncData) ∧ h.CodeRec cd qual

noncomputable def Fn0 (h : Heap) (mg : Str → Option Value) (x : Str) (k : Nat) : Prop := ∃ a, mg x = some (.ref a) ∧ FnAt h a k .none .none
noncomputable def FnD (h : Heap) (mg : Str → Option Value) (x : Str) (k : Nat) : Prop := ∃ a T K, mg x = some (.ref a) ∧ FnAt h a k (.ref T) (.ref K) ∧
  (∃ o n t, h.get? T = some o ∧ o.data = .seq #[.int 0 t, .none] n) ∧ ∃ mk, h.Ns K mk ∧ mk "key" = some .none
noncomputable def FnK (h : Heap) (mg : Str → Option Value) (x : Str) (k : Nat) : Prop := FnD h mg x k

/-- the code points of table B.1 that the law uses, and the others -/
noncomputable def unseenCodes : List Int := [173, 847, 6150, 6155, 6156, 6157, 8203, 8204, 8205, 8288, 65279] ++ (List.range 16).map fun k => ((65024 + k : Nat) : Int)
noncomputable def greatCodes : List Int := (List.range 26).map fun k => ((65 + k : Nat) : Int)
noncomputable def oddCodes : List (Int × Str) := [(223, "ss"), (64256, "ff"), (8360, "rs"), (8470, "no"), (64259, "ffi"), (64260, "ffl"), (8481, "tel"), (13227, "mpa")]
structure B1 (h : Heap) (mg : Str → Option Value) : Prop where
  is : ∃ a n S, mg "b1_set" = some (.ref a) ∧ (∀ w, h.SetOf (intKind pw w) a S n) ∧ (∀ k ∈ unseenCodes, S k = true) ∧ (∀ k ∈ greatCodes ++ oddCodes.map (·.1), S k = false)
structure B3 (h : Heap) (mg : Str → Option Value) : Prop where
  is : ∃ a f, mg "b3_exceptions" = some (.ref a) ∧ (a == sysModules) = false ∧ (∀ w, h.MapOf (intKind pw w) a f) ∧ (∀ k ∈ greatCodes, f k = none) ∧ (∀ p ∈ oddCodes, ∃ t, f p.1 = some (.str p.2 t))
theorem B1.keeps {h h' : Heap} {mg : Str → Option Value} (z : B1 h mg) (hk : ∀ b o, h.get? b = some o → h'.get? b = some o) : B1 h' mg :=
  ⟨let ⟨a, n, S, e, c, r⟩ := z.is; ⟨a, n, S, e, fun w => let ⟨o, es, ep, t, e, q⟩ := c w; ⟨o, es, ep, t, hk _ _ e, q⟩, r⟩⟩
theorem B3.keeps {h h' : Heap} {mg : Str → Option Value} (z : B3 h mg) (hk : ∀ b o, h.get? b = some o → h'.get? b = some o) : B3 h' mg :=
  ⟨let ⟨a, f, e, x, c, r⟩ := z.is; ⟨a, f, e, x, fun w => let ⟨o, es, ep, e, q⟩ := c w; ⟨o, es, ep, hk _ _ e, q⟩, r⟩⟩
/-- what the walk asks of the state behind the top -/
structure GF (h : Heap) : Prop where
  lim : h.NoLimit
  g : ∃ mg, h.Ns mainGlobals mg ∧ FnD h mg "insort_right" 1 ∧ FnD h mg "bisect_right" 2 ∧ FnD h mg "bisect_left" 3 ∧
    Fn0 h mg "_iter_escaped_chars" 6 ∧ Fn0 h mg "_strip_quoted_realnames" 7 ∧ Fn0 h mg "_check_parenthesis" 8 ∧ Fn0 h mg "decode_rfc2231" 9 ∧
    Fn0 h mg "in_table_b1" 12 ∧ Fn0 h mg "map_table_b3" 14 ∧ Fn0 h mg "ISTERMINAL" 18 ∧ Fn0 h mg "ISNONTERMINAL" 19 ∧ Fn0 h mg "ISEOF" 20 ∧
    Fn0 h mg "_law_item" 22 ∧ Fn0 h mg "_law_word" 23 ∧ Fn0 h mg "_law_leaves" 24 ∧ Fn0 h mg "_law_first_fit" 25 ∧ B1 h mg ∧ B3 h mg ∧
    (∃ t, mg "TICK" = some (.str "'" t)) ∧ (∃ t, mg "ENDMARKER" = some (.int 0 t)) ∧ (∃ t, mg "NT_OFFSET" = some (.int 256 t)) ∧
    mg "len" = none ∧ mg "ord" = none ∧ mg "chr" = none ∧ mg "list" = none ∧ mg "range" = none ∧ mg "enumerate" = none ∧ mg "divmod" = none
  b : ∃ mb, h.Ns builtinsNs mb ∧ mb "len" = some (.builtin "len") ∧ mb "ord" = some (.builtin "ord") ∧ mb "chr" = some (.builtin "chr") ∧ mb "divmod" = some (.builtin "divmod") ∧
    mb "list" = some (.type "list") ∧ mb "range" = some (.type "range") ∧ mb "enumerate" = some (.type "enumerate")

theorem FnAt.keeps {h h' : Heap} {a : Addr} {k : Nat} {dV kV : Value} (x : FnAt h a k dV kV) (hk : ∀ b o, h.get? b = some o → h'.get? b = some o) : FnAt h' a k dV kV :=
  let ⟨o, n, q, d, p, an, cd, ct, e, e', c⟩ := x.is; ⟨o, n, q, d, p, an, cd, ct, hk _ _ e, e', let ⟨c1, o1, vs, t, x1, x2, x3⟩ := c; ⟨c1, o1, vs, t, x1, hk _ _ x2, x3⟩⟩
theorem Fn0.keeps {h h' : Heap} {mg : Str → Option Value} {x : Str} {k : Nat} (z : Fn0 h mg x k) (hk : ∀ b o, h.get? b = some o → h'.get? b = some o) : Fn0 h' mg x k :=
  let ⟨a, e, f⟩ := z; ⟨a, e, f.keeps hk⟩
theorem ns_keeps {h h' : Heap} {a : Addr} {m : Str → Option Value} (z : h.Ns a m) (hk : ∀ b o, h.get? b = some o → h'.get? b = some o) : h'.Ns a m :=
  let ⟨o, es, ep, e, r⟩ := z; ⟨o, es, ep, hk _ _ e, r⟩
theorem FnD.keeps {h h' : Heap} {mg : Str → Option Value} {x : Str} {k : Nat} (z : FnD h mg x k) (hk : ∀ b o, h.get? b = some o → h'.get? b = some o) : FnD h' mg x k :=
  let ⟨a, T, K, e, f, ⟨o, n, t, e1, e2⟩, mk, e3, e4⟩ := z; ⟨a, T, K, e, f.keeps hk, ⟨o, n, t, hk _ _ e1, e2⟩, mk, ns_keeps e3 hk, e4⟩
theorem GF.keeps {h h' : Heap} (z : GF h) (hk : ∀ b o, h.get? b = some o → h'.get? b = some o) : GF h' where
  lim := let ⟨m, a, b⟩ := z.lim; ⟨m, ns_keeps a hk, b⟩
  g := z.g.imp fun _ y => ⟨ns_keeps y.1 hk, y.2.1.keeps hk, y.2.2.1.keeps hk, y.2.2.2.1.keeps hk, y.2.2.2.2.1.keeps hk, y.2.2.2.2.2.1.keeps hk, y.2.2.2.2.2.2.1.keeps hk, y.2.2.2.2.2.2.2.1.keeps hk, y.2.2.2.2.2.2.2.2.1.keeps hk, y.2.2.2.2.2.2.2.2.2.1.keeps hk, y.2.2.2.2.2.2.2.2.2.2.1.keeps hk, y.2.2.2.2.2.2.2.2.2.2.2.1.keeps hk, y.2.2.2.2.2.2.2.2.2.2.2.2.1.keeps hk, y.2.2.2.2.2.2.2.2.2.2.2.2.2.1.keeps hk, y.2.2.2.2.2.2.2.2.2.2.2.2.2.2.1.keeps hk, y.2.2.2.2.2.2.2.2.2.2.2.2.2.2.2.1.keeps hk, y.2.2.2.2.2.2.2.2.2.2.2.2.2.2.2.2.1.keeps hk, y.2.2.2.2.2.2.2.2.2.2.2.2.2.2.2.2.2.1.keeps hk, y.2.2.2.2.2.2.2.2.2.2.2.2.2.2.2.2.2.2.1.keeps hk, y.2.2.2.2.2.2.2.2.2.2.2.2.2.2.2.2.2.2.2⟩
  b := z.b.imp fun _ y => ⟨ns_keeps y.1 hk, y.2⟩
theorem GF.ext {s s' : Shared} (z : GF s.heap) (e : Ext s s') : GF s'.heap := z.keeps e.heap

theorem gf_f1 : ∀ h, GF h → ∃ mg, h.Ns mainGlobals mg ∧ FnD h mg "insort_right" 1 := fun h G => G.g.imp fun _ z => ⟨z.1, z.2.1⟩
theorem gf_f2 : ∀ h, GF h → ∃ mg, h.Ns mainGlobals mg ∧ FnD h mg "bisect_right" 2 := fun h G => G.g.imp fun _ z => ⟨z.1, z.2.2.1⟩
theorem gf_f3 : ∀ h, GF h → ∃ mg, h.Ns mainGlobals mg ∧ FnD h mg "bisect_left" 3 := fun h G => G.g.imp fun _ z => ⟨z.1, z.2.2.2.1⟩
theorem gf_f6 : ∀ h, GF h → ∃ mg, h.Ns mainGlobals mg ∧ Fn0 h mg "_iter_escaped_chars" 6 := fun h G => G.g.imp fun _ z => ⟨z.1, z.2.2.2.2.1⟩
theorem gf_f7 : ∀ h, GF h → ∃ mg, h.Ns mainGlobals mg ∧ Fn0 h mg "_strip_quoted_realnames" 7 := fun h G => G.g.imp fun _ z => ⟨z.1, z.2.2.2.2.2.1⟩
theorem gf_f8 : ∀ h, GF h → ∃ mg, h.Ns mainGlobals mg ∧ Fn0 h mg "_check_parenthesis" 8 := fun h G => G.g.imp fun _ z => ⟨z.1, z.2.2.2.2.2.2.1⟩
theorem gf_f9 : ∀ h, GF h → ∃ mg, h.Ns mainGlobals mg ∧ Fn0 h mg "decode_rfc2231" 9 := fun h G => G.g.imp fun _ z => ⟨z.1, z.2.2.2.2.2.2.2.1⟩
theorem gf_f12 : ∀ h, GF h → ∃ mg, h.Ns mainGlobals mg ∧ Fn0 h mg "in_table_b1" 12 := fun h G => G.g.imp fun _ z => ⟨z.1, z.2.2.2.2.2.2.2.2.1⟩
theorem gf_f14 : ∀ h, GF h → ∃ mg, h.Ns mainGlobals mg ∧ Fn0 h mg "map_table_b3" 14 := fun h G => G.g.imp fun _ z => ⟨z.1, z.2.2.2.2.2.2.2.2.2.1⟩
theorem gf_f18 : ∀ h, GF h → ∃ mg, h.Ns mainGlobals mg ∧ Fn0 h mg "ISTERMINAL" 18 := fun h G => G.g.imp fun _ z => ⟨z.1, z.2.2.2.2.2.2.2.2.2.2.1⟩
theorem gf_f19 : ∀ h, GF h → ∃ mg, h.Ns mainGlobals mg ∧ Fn0 h mg "ISNONTERMINAL" 19 := fun h G => G.g.imp fun _ z => ⟨z.1, z.2.2.2.2.2.2.2.2.2.2.2.1⟩
theorem gf_f20 : ∀ h, GF h → ∃ mg, h.Ns mainGlobals mg ∧ Fn0 h mg "ISEOF" 20 := fun h G => G.g.imp fun _ z => ⟨z.1, z.2.2.2.2.2.2.2.2.2.2.2.2.1⟩
theorem gf_f22 : ∀ h, GF h → ∃ mg, h.Ns mainGlobals mg ∧ Fn0 h mg "_law_item" 22 := fun h G => G.g.imp fun _ z => ⟨z.1, z.2.2.2.2.2.2.2.2.2.2.2.2.2.1⟩
theorem gf_f23 : ∀ h, GF h → ∃ mg, h.Ns mainGlobals mg ∧ Fn0 h mg "_law_word" 23 := fun h G => G.g.imp fun _ z => ⟨z.1, z.2.2.2.2.2.2.2.2.2.2.2.2.2.2.1⟩
theorem gf_f24 : ∀ h, GF h → ∃ mg, h.Ns mainGlobals mg ∧ Fn0 h mg "_law_leaves" 24 := fun h G => G.g.imp fun _ z => ⟨z.1, z.2.2.2.2.2.2.2.2.2.2.2.2.2.2.2.1⟩
theorem gf_f25 : ∀ h, GF h → ∃ mg, h.Ns mainGlobals mg ∧ Fn0 h mg "_law_first_fit" 25 := fun h G => G.g.imp fun _ z => ⟨z.1, z.2.2.2.2.2.2.2.2.2.2.2.2.2.2.2.2.1⟩
theorem gf_b1 : ∀ h, GF h → ∃ mg, h.Ns mainGlobals mg ∧ B1 h mg := fun h G => G.g.imp fun _ z => ⟨z.1, z.2.2.2.2.2.2.2.2.2.2.2.2.2.2.2.2.2.1⟩
theorem gf_b3 : ∀ h, GF h → ∃ mg, h.Ns mainGlobals mg ∧ B3 h mg := fun h G => G.g.imp fun _ z => ⟨z.1, z.2.2.2.2.2.2.2.2.2.2.2.2.2.2.2.2.2.2.1⟩
theorem gf_TICK : ∀ h, GF h → ∃ mg v, h.Ns mainGlobals mg ∧ mg "TICK" = some v ∧ ∀ O, Rep O h v (.str "'") := fun h G => G.g.imp fun _ z => z.2.2.2.2.2.2.2.2.2.2.2.2.2.2.2.2.2.2.2.1.elim fun t e => ⟨_, z.1, e, fun O => .str _ t⟩
theorem gf_ENDMARKER : ∀ h, GF h → ∃ mg v, h.Ns mainGlobals mg ∧ mg "ENDMARKER" = some v ∧ ∀ O, Rep O h v (.int 0) := fun h G => G.g.imp fun _ z => z.2.2.2.2.2.2.2.2.2.2.2.2.2.2.2.2.2.2.2.2.1.elim fun t e => ⟨_, z.1, e, fun O => .int _ t⟩
theorem gf_NT : ∀ h, GF h → ∃ mg v, h.Ns mainGlobals mg ∧ mg "NT_OFFSET" = some v ∧ ∀ O, Rep O h v (.int 256) := fun h G => G.g.imp fun _ z => z.2.2.2.2.2.2.2.2.2.2.2.2.2.2.2.2.2.2.2.2.2.1.elim fun t e => ⟨_, z.1, e, fun O => .int _ t⟩
theorem gfb_len : ∀ h, GF h → ∃ mg mb, h.Ns mainGlobals mg ∧ mg "len" = Option.none ∧ h.Ns builtinsNs mb ∧ mb "len" = some (.builtin "len") := fun h G => G.g.imp fun _ z => G.b.imp fun _ y => ⟨z.1, z.2.2.2.2.2.2.2.2.2.2.2.2.2.2.2.2.2.2.2.2.2.2.1, y.1, y.2.1⟩
theorem gfb_ord : ∀ h, GF h → ∃ mg mb, h.Ns mainGlobals mg ∧ mg "ord" = Option.none ∧ h.Ns builtinsNs mb ∧ mb "ord" = some (.builtin "ord") := fun h G => G.g.imp fun _ z => G.b.imp fun _ y => ⟨z.1, z.2.2.2.2.2.2.2.2.2.2.2.2.2.2.2.2.2.2.2.2.2.2.2.1, y.1, y.2.2.1⟩
theorem gfb_chr : ∀ h, GF h → ∃ mg mb, h.Ns mainGlobals mg ∧ mg "chr" = Option.none ∧ h.Ns builtinsNs mb ∧ mb "chr" = some (.builtin "chr") := fun h G => G.g.imp fun _ z => G.b.imp fun _ y => ⟨z.1, z.2.2.2.2.2.2.2.2.2.2.2.2.2.2.2.2.2.2.2.2.2.2.2.2.1, y.1, y.2.2.2.1⟩
theorem gfb_divmod : ∀ h, GF h → ∃ mg mb, h.Ns mainGlobals mg ∧ mg "divmod" = Option.none ∧ h.Ns builtinsNs mb ∧ mb "divmod" = some (.builtin "divmod") := fun h G => G.g.imp fun _ z => G.b.imp fun _ y => ⟨z.1, z.2.2.2.2.2.2.2.2.2.2.2.2.2.2.2.2.2.2.2.2.2.2.2.2.2.2.2.2, y.1, y.2.2.2.2.1⟩
theorem gfb_list : ∀ h, GF h → ∃ mg mb, h.Ns mainGlobals mg ∧ mg "list" = Option.none ∧ h.Ns builtinsNs mb ∧ mb "list" = some (.type "list") := fun h G => G.g.imp fun _ z => G.b.imp fun _ y => ⟨z.1, z.2.2.2.2.2.2.2.2.2.2.2.2.2.2.2.2.2.2.2.2.2.2.2.2.2.1, y.1, y.2.2.2.2.2.1⟩
theorem gfb_range : ∀ h, GF h → ∃ mg mb, h.Ns mainGlobals mg ∧ mg "range" = Option.none ∧ h.Ns builtinsNs mb ∧ mb "range" = some (.type "range") := fun h G => G.g.imp fun _ z => G.b.imp fun _ y => ⟨z.1, z.2.2.2.2.2.2.2.2.2.2.2.2.2.2.2.2.2.2.2.2.2.2.2.2.2.2.1, y.1, y.2.2.2.2.2.2.1⟩
theorem gfb_enumerate : ∀ h, GF h → ∃ mg mb, h.Ns mainGlobals mg ∧ mg "enumerate" = Option.none ∧ h.Ns builtinsNs mb ∧ mb "enumerate" = some (.type "enumerate") := fun h G => G.g.imp fun _ z => G.b.imp fun _ y => ⟨z.1, z.2.2.2.2.2.2.2.2.2.2.2.2.2.2.2.2.2.2.2.2.2.2.2.2.2.2.2.1, y.1, y.2.2.2.2.2.2.2⟩
/-- a frame of the text's own -/
structure EnvOk (env : Env) (sc : Scope) : Prop where
  scope : env.scope = sc
  kind : env.scope.kind = .function
  globals : env.globals = mainGlobals
  builtins : env.builtins = builtinsNs
  one : env.cells.length ≤ 1
  has : ∀ x, sc.names.lookup x = some .cell → ∃ c, env.cells.lookup x = some c

noncomputable def Own (O : Addr → Prop) (s : Shared) : Prop := ∀ a, O a → ∃ o, s.heap.get? a = some o
theorem Own.step {O : Addr → Prop} {s s' : Shared} (h : Own O s) (e : Ext s s') : Own O s' := fun a ha => let ⟨o, x⟩ := h a ha; ⟨o, e.heap _ _ x⟩
theorem Own.new {O : Addr → Prop} {s : Shared} {a : Addr} (h : Own O s) (e : s.heap.get? a = none) : ¬ O a := fun q => by obtain ⟨o, x⟩ := h a q; rw [e] at x; cases x
theorem Own.size {O : Addr → Prop} {s : Shared} (h : Own O s) : ¬ O s.heap.objs.size := fun q => by obtain ⟨o, x⟩ := h _ q; exact Nat.lt_irrefl _ (Heap.lt_size x)
/-- a variable's value: a local, or a cell -/
noncomputable def Var (env : Env) (h : Heap) (m : Str → Option Value) (x : Str) (v : Value) : Prop :=
  (env.kindOf x = some .local ∧ m x = some v) ∨ (env.kindOf x = some .cell ∧ ∃ c, env.cells.lookup x = some c ∧ h.IsCell c (some v))
theorem Var.keeps {env : Env} {h h' : Heap} {m : Str → Option Value} {x : Str} {v : Value} (z : Var env h m x v) (hk : ∀ b o, h.get? b = some o → h'.get? b = some o) : Var env h' m x v := by
  rcases z with z | ⟨a, c, b, d⟩
  · exact .inl z
  · exact .inr ⟨a, c, b, d.keeps hk⟩
/-- within a call that began at s₀: the frame's locals bear ρ -/
structure Loc (s₀ : Shared) (env : Env) (O : Addr → Prop) (ρ : List (Nat × PV)) (s : Shared) : Prop where
  ext : Ext s₀ s
  fresh : s₀.heap.get? env.locals = none
  own : Own O s
  ns : ∃ m, s.heap.Ns env.locals m ∧ ∀ p ∈ ρ, ∀ x, nms[p.1]? = some x → ∃ v, Var env s.heap m x v ∧ Rep O s.heap v p.2
theorem Loc.step {s₀ s s' : Shared} {env : Env} {O : Addr → Prop} {ρ : List (Nat × PV)} (l : Loc s₀ env O ρ s) (e : Ext s s') : Loc s₀ env O ρ s' :=
  ⟨l.ext.trans e, l.fresh, l.own.step e, let ⟨m, a, b⟩ := l.ns; ⟨m, ns_keeps a e.heap, fun p hp x hx => let ⟨v, c, d⟩ := b p hp x hx; ⟨v, c.keeps e.heap, d.ext e⟩⟩⟩
theorem Loc.sub {s₀ s : Shared} {env : Env} {O : Addr → Prop} {ρ ρ' : List (Nat × PV)} (l : Loc s₀ env O ρ s) (h : ∀ p ∈ ρ', p ∈ ρ) : Loc s₀ env O ρ' s :=
  ⟨l.ext, l.fresh, l.own, let ⟨m, a, b⟩ := l.ns; ⟨m, a, fun p hp => b p (h p hp)⟩⟩

/-- an expression's value, whatever the state -/
noncomputable def Ev (n : Nat) (sc : Scope) (ρ : List (Nat × PV)) (e : Expr) (x : PV) : Prop :=
  ∀ (w : World) (A : Around) (env : Env) (O : Addr → Prop) (s₀ s : Shared), Rm n A → EnvOk env sc → GF s.heap → Loc s₀ env O ρ s →
    ∀ (Q : Value → Shared → Prop) (E : Value → Shared → Prop), (∀ v s', Ext s s' → Rep O s'.heap v x → Q v s') → wpAny (MM w) A (eval e env) Q E s

section
variable {n : Nat} {sc : Scope} {ρ : List (Nat × PV)}
theorem Ev.int {i : Int} {k : Nat} {pos : Pos} : Ev n sc ρ (.Constant (.int i) k pos) (.int i) :=
  fun _ _ _ _ _ _ _ _ _ _ _ _ q => wpAny_Constant_int (q _ _ .tok (.int _ _))
theorem Ev.str {x : Str} {k : Nat} {pos : Pos} : Ev n sc ρ (.Constant (.str x) k pos) (.str x) :=
  fun _ _ _ _ _ _ _ _ _ _ _ _ q => Calls.Constant_str (q _ _ .tok (.str _ _))
theorem Ev.bool {b : Bool} {k : Nat} {pos : Pos} : Ev n sc ρ (.Constant (.bool b) k pos) (.bool b) :=
  fun _ _ _ _ _ _ _ _ _ _ _ _ q => wpAny_pure (q _ _ (.refl _) (.bool _))
theorem Ev.none {k : Nat} {pos : Pos} : Ev n sc ρ (.Constant .none k pos) .none :=
  fun _ _ _ _ _ _ _ _ _ _ _ _ q => wpAny_pure (q _ _ (.refl _) .none)
theorem lookup_mem {α : Type} : ∀ {l : List (Nat × α)} {k : Nat} {v : α}, l.lookup k = some v → (k, v) ∈ l
  | [], _, _, e => by cases e
  | (j, u) :: r, k, v, e => by
    rw [List.lookup_cons] at e
    split at e
    · rename_i q; cases e; rw [beq_iff_eq.mp q]; exact .head _
    · exact .tail _ (lookup_mem e)
theorem Ev.name {x : Str} {pos : Pos} {v : PV} (hx : ρ.lookup (ky x) = some v) (hk : decide (ky x < 57) = true) (hd : (x == ("__debug__" : Str)) = false) : Ev n sc ρ (.Name x pos) v := by
  intro w A env O s₀ s hA he hG hL Q E q
  obtain ⟨m, hn, hr⟩ := hL.ns
  obtain ⟨u, hu, hv⟩ := hr (ky x, v) (lookup_mem hx) x (ky_get rfl (of_decide_eq_true hk))
  rcases hu with ⟨h1, h2⟩ | ⟨h1, c, h2, h3⟩
  · exact wpAny_Name (wpAny_loadName_local he.kind h1 hn h2 (q _ _ (.refl _) hv)) hd
  · exact wpAny_Name (wpAny_loadName_cell he.kind h1 h2 h3 (q _ _ (.refl _) hv)) hd
end

end Mine
namespace Mine

/-! operators -/
noncomputable def Bop (op : Operator) (x y z : PV) : Prop :=
  ∀ (w : World) (A : Around) (O : Addr → Prop) (s : Shared) (u v : Value), Rm 0 A → Own O s → Rep O s.heap u x → Rep O s.heap v y →
    ∀ (Q : Value → Shared → Prop) (E : Value → Shared → Prop), (∀ r s', Ext s s' → Rep O s'.heap r z → Q r s') → wpAny (MM w) A (binaryOp op u v) Q E s
noncomputable def Cop (op : CmpOp) (x y : PV) (b : Bool) : Prop :=
  ∀ (w : World) (A : Around) (O : Addr → Prop) (s : Shared) (u v : Value), Rm 0 A → Own O s → Rep O s.heap u x → Rep O s.heap v y →
    ∀ (Q : Value → Shared → Prop) (E : Value → Shared → Prop), (∀ s', Ext s s' → Q (.bool b) s') → wpAny (MM w) A (compareOp op u v) Q E s

theorem Bop.add_int {a b : Int} : Bop .Add (.int a) (.int b) (.int (a + b)) := by
  rintro w A O s _ _ hA hO (_ | _) (_ | _) Q E q
  exact PyProof.Rows.add_int (q _ _ .tok (.int _ _))
theorem Bop.sub_int {a b : Int} : Bop .Sub (.int a) (.int b) (.int (a - b)) := by
  rintro w A O s _ _ hA hO (_ | _) (_ | _) Q E q
  exact PyProof.Rows.sub_int (q _ _ .tok (.int _ _))
theorem Bop.mul_int {a b : Int} (h : IntMulOk a b) : Bop .Mult (.int a) (.int b) (.int (a * b)) := by
  rintro w A O s _ _ hA hO (_ | _) (_ | _) Q E q
  exact PyProof.Rows.mul_int (q _ _ .tok (.int _ _)) h
theorem Bop.fdiv_int {a b : Int} (h : b ≠ 0) (hs : b.natAbs.log2 < 9000) : Bop .FloorDiv (.int a) (.int b) (.int (a.fdiv b)) := by
  rintro w A O s _ _ hA hO (_ | _) (_ | _) Q E q
  exact floordiv_int h (q _ _ .tok (.int _ _)) (.inl (PyProof.noPylong_of_log2 hs))
theorem Bop.mod_int {a b : Int} (h : b ≠ 0) : Bop .Mod (.int a) (.int b) (.int (a.fmod b)) := by
  rintro w A O s _ _ hA hO (_ | _) (_ | _) Q E q
  exact PyProof.Rows.mod_int h (q _ _ .tok (.int _ _))
theorem Bop.pow_int {a b : Int} (h0 : 0 ≤ b) (h1 : b ≤ 1000000) (ha : a.natAbs < 2 ^ 64) : Bop .Pow (.int a) (.int b) (.int (a ^ b.toNat)) := by
  rintro w A O s _ _ hA hO (_ | _) (_ | _) Q E q
  exact pow_int_small h0 h1 ha (q _ _ .tok (.int _ _))
theorem Bop.add_str {x y : Str} (h : x.length + y.length ≤ sizeLine) : Bop .Add (.str x) (.str y) (.str (x ++ y)) := by
  rintro w A O s _ _ hA hO (_ | _) (_ | _) Q E q
  exact PyProof.Rows.add_str (fun t k => q _ _ .tok (.str _ _)) h

theorem Cop.eq_int {a b : Int} : Cop .Eq (.int a) (.int b) (a == b) := by
  rintro w A O s _ _ hA hO (_ | _) (_ | _) Q E q
  exact PyProof.Rows.eq_int (q _ (.refl _))
theorem Cop.lt_int {a b : Int} : Cop .Lt (.int a) (.int b) (decide (a < b)) := by
  rintro w A O s _ _ hA hO (_ | _) (_ | _) Q E q
  exact PyProof.Rows.lt_int (q _ (.refl _))
theorem Cop.gt_int {a b : Int} : Cop .Gt (.int a) (.int b) (decide (b < a)) := by
  rintro w A O s _ _ hA hO (_ | _) (_ | _) Q E q
  exact PyProof.Rows.gt_int (q _ (.refl _))
theorem Cop.le_int {a b : Int} : Cop .LtE (.int a) (.int b) (decide (a ≤ b)) := by
  rintro w A O s _ _ hA hO (_ | _) (_ | _) Q E q
  exact PyProof.Rows.le_int (q _ (.refl _))
theorem Cop.ge_int {a b : Int} : Cop .GtE (.int a) (.int b) (decide (b ≤ a)) := by
  rintro w A O s _ _ hA hO (_ | _) (_ | _) Q E q
  exact PyProof.Rows.ge_int (q _ (.refl _))
theorem Cop.eq_str {x y : Str} : Cop .Eq (.str x) (.str y) (x == y) := by
  rintro w A O s _ _ hA hO (_ | _) (_ | _) Q E q
  exact PyProof.Rows.eq_str (q _ (.refl _))
theorem Cop.is_bool {b c : Bool} : Cop .Is (.bool b) (.bool c) (b == c) := by
  rintro w A O s _ _ hA hO (_ | _) (_ | _) Q E q
  exact PyProof.Rows.is_bool (q _ (.refl _))
theorem Cop.isnot_bool {b c : Bool} : Cop .IsNot (.bool b) (.bool c) (b != c) := by
  rintro w A O s _ _ hA hO (_ | _) (_ | _) Q E q
  exact PyProof.Rows.isnot_bool (q _ (.refl _))
noncomputable def PV.isNone : PV → Bool
  | .none => true
  | _ => false
theorem Rep.isNone {O : Addr → Prop} {h : Heap} {v : Value} {x : PV} (r : Rep O h v x) : (v == Value.none) = x.isNone := by
  cases r <;> rfl
theorem Cop.is_none {x : PV} : Cop .Is x .none x.isNone := by
  rintro w A O s u v hA hO hu hv Q E q
  cases hv
  exact is_none_gen (by rw [hu.isNone]; exact q _ (.refl _))
theorem Cop.isnot_none {x : PV} : Cop .IsNot x .none (!x.isNone) := by
  rintro w A O s u v hA hO hu hv Q E q
  cases hv
  exact isnot_none_gen (by rw [hu.isNone]; exact q _ (.refl _))

section
variable {n : Nat} {sc : Scope} {ρ : List (Nat × PV)}
theorem Rm.zero {n : Nat} {A : Around} (h : Rm n A) : Rm 0 A := h.less (Nat.zero_le _)
theorem Ev.bin {op : Operator} {a b : Expr} {pos : Pos} {x y z : PV} (ha : Ev n sc ρ a x) (hb : Ev n sc ρ b y) (h : Bop op x y z) : Ev n sc ρ (.BinOp a op b pos) z :=
  fun w A env O s₀ s hA he hG hL Q E q => wpAny_BinOp (ha w A env O s₀ s hA he hG hL _ _ fun u s₁ e₁ r₁ => hb w A env O s₀ s₁ hA he (hG.ext e₁) (hL.step e₁) _ _ fun v s₂ e₂ r₂ =>
    h w A O s₂ u v hA.zero ((hL.own.step e₁).step e₂) (r₁.ext e₂) r₂ _ _ fun r s₃ e₃ r₃ => q r s₃ ((e₁.trans e₂).trans e₃) r₃)
theorem Ev.cmp {op : CmpOp} {a b : Expr} {pos : Pos} {x y : PV} {c : Bool} (ha : Ev n sc ρ a x) (hb : Ev n sc ρ b y) (h : Cop op x y c) (hm : behindInMarks op b = false) : Ev n sc ρ (.Compare a [op] [b] pos) (.bool c) :=
  fun w A env O s₀ s hA he hG hL Q E q => wpAny_Compare1 (ha w A env O s₀ s hA he hG hL _ _ fun u s₁ e₁ r₁ => hb w A env O s₀ s₁ hA he (hG.ext e₁) (hL.step e₁) _ _ fun v s₂ e₂ r₂ =>
    h w A O s₂ u v hA.zero ((hL.own.step e₁).step e₂) (r₁.ext e₂) r₂ _ _ fun s₃ e₃ => q _ s₃ ((e₁.trans e₂).trans e₃) (.bool _)) hm

/-- a test's outcome -/
noncomputable def EvT (n : Nat) (sc : Scope) (ρ : List (Nat × PV)) (e : Expr) (b : Bool) : Prop :=
  ∀ (w : World) (A : Around) (env : Env) (O : Addr → Prop) (s₀ s : Shared), Rm n A → EnvOk env sc → GF s.heap → Loc s₀ env O ρ s →
    ∀ (Q : Bool → Shared → Prop) (E : Value → Shared → Prop), (∀ s', Ext s s' → Q b s') → wpAny (MM w) A (isTrue e env (eval e env)) Q E s
theorem EvT.cmp {op : CmpOp} {a b : Expr} {pos : Pos} {x y : PV} {c : Bool} (ha : Ev n sc ρ a x) (hb : Ev n sc ρ b y) (h : Cop op x y c) (hm : behindInMarks op b = false) : EvT n sc ρ (.Compare a [op] [b] pos) c :=
  fun w A env O s₀ s hA he hG hL Q E q => wpAny_isTrue_Compare1 (ha w A env O s₀ s hA he hG hL _ _ fun u s₁ e₁ r₁ => hb w A env O s₀ s₁ hA he (hG.ext e₁) (hL.step e₁) _ _ fun v s₂ e₂ r₂ =>
    h w A O s₂ u v hA.zero ((hL.own.step e₁).step e₂) (r₁.ext e₂) r₂ _ _ fun s₃ e₃ => wpAny_truthy_bool (q s₃ ((e₁.trans e₂).trans e₃))) hm
theorem EvT.not {a : Expr} {pos : Pos} {c : Bool} (h : EvT n sc ρ a c) : EvT n sc ρ (.UnaryOp .Not a pos) (!c) :=
  fun w A env O s₀ s hA he hG hL Q E q => isTrue_not (h w A env O s₀ s hA he hG hL _ _ fun s₁ e₁ => q s₁ e₁)
theorem EvT.bool {e : Expr} {c : Bool} (h : Ev n sc ρ e (.bool c)) (hp : ∀ env whole, isTrue e env whole = (do let v ← whole; standAt e.pos; holding [v] (truthy v))) : EvT n sc ρ e c :=
  fun w A env O s₀ s hA he hG hL Q E q => isTrue_plain (h w A env O s₀ s hA he hG hL _ _ fun v s₁ e₁ r₁ => by cases r₁; exact wpAny_truthy_bool (q s₁ e₁)) (hp _ _)
theorem EvT.and2 {a b : Expr} {pos : Pos} {c d : Bool} (ha : EvT n sc ρ a c) (hb : c = true → EvT n sc ρ b d) : EvT n sc ρ (.BoolOp .And [a, b] pos) (c && d) :=
  fun w A env O s₀ s hA he hG hL Q E q => isTrue_and (ha w A env O s₀ s hA he hG hL _ _ fun s₁ e₁ => by
    cases c with
    | false => exact q s₁ e₁
    | true => exact isTrue_and (hb rfl w A env O s₀ s₁ hA he (hG.ext e₁) (hL.step e₁) _ _ fun s₂ e₂ => by
        cases d with
        | false => exact q s₂ (e₁.trans e₂)
        | true => exact isTrue_and_nil (q s₂ (e₁.trans e₂))))
/-- or: all false -/
theorem EvT.or_nil {pos : Pos} : EvT n sc ρ (.BoolOp .Or [] pos) false :=
  fun w A env O s₀ s hA he hG hL Q E q => isTrue_or_nil (q s (.refl _))
theorem EvT.or_cons {a : Expr} {rest : List Expr} {pos : Pos} {d : Bool} (ha : EvT n sc ρ a false) (hb : EvT n sc ρ (.BoolOp .Or rest pos) d) : EvT n sc ρ (.BoolOp .Or (a :: rest) pos) d :=
  fun w A env O s₀ s hA he hG hL Q E q => isTrue_or (ha w A env O s₀ s hA he hG hL _ _ fun s₁ e₁ => hb w A env O s₀ s₁ hA he (hG.ext e₁) (hL.step e₁) _ _ fun s₂ e₂ => q s₂ (e₁.trans e₂))

/-- arguments, items of a display -/
noncomputable def Evs (n : Nat) (sc : Scope) (ρ : List (Nat × PV)) (es : List Expr) (xs : List PV) : Prop :=
  ∀ (w : World) (A : Around) (env : Env) (O : Addr → Prop) (s₀ s : Shared) (pos : Pos), Rm n A → EnvOk env sc → GF s.heap → Loc s₀ env O ρ s →
    ∀ (Q : List Value → Shared → Prop) (E : Value → Shared → Prop), (∀ vs s', Ext s s' → Reps O s'.heap vs xs → Q vs s') → wpAny (MM w) A (spliced (backTo pos (starEach es env))) Q E s
theorem Evs.nil : Evs n sc ρ [] [] := fun _ _ _ _ _ s _ _ _ _ _ _ _ q => spliced_nil (q _ _ (.refl s) .nil)
theorem Evs.cons {e : Expr} {es : List Expr} {x : PV} {xs : List PV} (h : Ev n sc ρ e x) (hs : Evs n sc ρ es xs) (hp : ∀ env, starEach (e :: es) env = (false, eval e env) :: starEach es env) : Evs n sc ρ (e :: es) (x :: xs) := by
  intro w A env O s₀ s pos hA he hG hL Q E q
  rw [hp]
  exact spliced_cons (h w A env O s₀ s hA he hG hL _ _ fun v s₁ e₁ r₁ => hs w A env O s₀ s₁ pos hA he (hG.ext e₁) (hL.step e₁) _ _ fun vs s₂ e₂ r₂ => q _ s₂ (e₁.trans e₂) (.cons (r₁.ext e₂) r₂))
theorem newTuple_rep {M : Model} {A : Around} {E : Value → Shared → Prop} {O : Addr → Prop} {s : Shared} {vs : List Value} {xs : List PV} {Q : Value → Shared → Prop} (hO : Own O s) (r : Reps O s.heap vs xs) (hl : xs.length ≤ 1000000)
    (q : ∀ v s', Ext s s' → Rep O s'.heap v (.tup xs) → Q v s') : wpAny M A (newTuple vs) Q E s := by
  have e : Ext s { s with heap := s.heap.push { cls := .type "tuple", data := .seq vs.toArray } } := .of (tk := s.toks) fun b o => Heap.get?_push_of_some _
  refine wpAny_newObj_type (q _ _ e (.tup hO.size ⟨_, Heap.get?_push_size _ rfl, rfl, 0, rfl⟩ (r.ext e))) ?_
  show vs.toArray.size ≤ sizeLine
  rw [sizeLine_eq, List.size_toArray, r.length]; omega
theorem newList_rep {M : Model} {A : Around} {E : Value → Shared → Prop} {O : Addr → Prop} {s : Shared} {vs : List Value} {xs : List PV} {Q : Value → Shared → Prop} (hO : Own O s) (r : Reps O s.heap vs xs) (hl : xs.length ≤ 1000000)
    (q : ∀ v s', Ext s s' → Rep O s'.heap v (.list xs) → Q v s') : wpAny M A (newList vs) Q E s := by
  have e : Ext s { s with heap := s.heap.push { cls := .type "list", data := .seq vs.toArray } } := .of (tk := s.toks) fun b o => Heap.get?_push_of_some _
  refine wpAny_newObj_type (q _ _ e (.list hO.size ⟨_, Heap.get?_push_size _ rfl, rfl, 0, rfl⟩ (r.ext e))) ?_
  show vs.toArray.size ≤ sizeLine
  rw [sizeLine_eq, List.size_toArray, r.length]; omega
theorem Ev.tup {es : List Expr} {k : Nat} {pos : Pos} {xs : List PV} (h : Evs n sc ρ es xs) (hl : xs.length ≤ 1000000) : Ev n sc ρ (.Tuple es k pos) (.tup xs) := by
  intro w A env O s₀ s hA he hG hL Q E q
  show wpAny _ _ (do standAt pos; newTuple (← spliced (backTo pos (starEach es env)))) Q E s
  exact wpAny_bind (wpAny_standAt (wpAny_bind (h w A env O s₀ s pos hA he hG hL _ _ fun vs s₁ e₁ r₁ => newTuple_rep (hL.own.step e₁) r₁ hl fun v s₂ e₂ r₂ => q v s₂ (e₁.trans e₂) r₂)))
theorem Ev.list {es : List Expr} {pos : Pos} {xs : List PV} (h : Evs n sc ρ es xs) (hl : xs.length ≤ 1000000) : Ev n sc ρ (.List es pos) (.list xs) := by
  intro w A env O s₀ s hA he hG hL Q E q
  show wpAny _ _ (do standAt pos; newList (← spliced (backTo pos (starEach es env)))) Q E s
  exact wpAny_bind (wpAny_standAt (wpAny_bind (h w A env O s₀ s pos hA he hG hL _ _ fun vs s₁ e₁ r₁ => newList_rep (hL.own.step e₁) r₁ hl fun v s₂ e₂ r₂ => q v s₂ (e₁.trans e₂) r₂)))
end
end Mine
namespace Mine

/-- the list that the frame is filling, and its name -/
structure OwnL (s₀ : Shared) (env : Env) (O : Addr → Prop) (x : Nat) (xs : List PV) (s : Shared) (D : Addr) : Prop where
  new : s₀.heap.get? D = none
  out : ¬ O D
  ns : ∃ m, s.heap.Ns env.locals m ∧ ∀ y, nms[x]? = some y → env.kindOf y = some .local ∧ m y = some (.ref D)
  has : ∃ vs : List Value, s.heap.PlainList D vs.toArray ∧ Reps (fun a => O a ∨ some a = some D) s.heap vs xs
theorem OwnL.step {s₀ s s' : Shared} {env : Env} {O : Addr → Prop} {x : Nat} {xs : List PV} {D : Addr} (z : OwnL s₀ env O x xs s D) (e : Ext s s') : OwnL s₀ env O x xs s' D :=
  ⟨z.new, z.out, let ⟨m, a, b⟩ := z.ns; ⟨m, ns_keeps a e.heap, b⟩, let ⟨vs, a, b⟩ := z.has; ⟨vs, a.at (e.heap D), b.ext e⟩⟩
/-- what is not to be leant on: the outer frames' lists and this one's -/
noncomputable abbrev within (O : Addr → Prop) (D : Option Addr) : Addr → Prop := fun a => O a ∨ some a = D
noncomputable def Fills (s₀ : Shared) (env : Env) (O : Addr → Prop) (s : Shared) : Option (Nat × List PV) → Option Addr → Prop
  | none, none => True
  | some (x, xs), some D => OwnL s₀ env O x xs s D
  | _, _ => False
structure St (s₀ : Shared) (env : Env) (O : Addr → Prop) (ρ : List (Nat × PV)) (ω : Option (Nat × List PV)) (D : Option Addr) (s : Shared) : Prop where
  cell : ∀ x c, env.cells.lookup x = some c → s₀.heap.get? c = none ∧ ∃ v, s.heap.IsCell c v
  loc : Loc s₀ env (within O D) ρ s
  fill : Fills s₀ env O s ω D
theorem Fills.step {s₀ s s' : Shared} {env : Env} {O : Addr → Prop} {ω : Option (Nat × List PV)} {D : Option Addr} (z : Fills s₀ env O s ω D) (e : Ext s s') : Fills s₀ env O s' ω D := by
  cases ω with
  | none => cases D <;> exact z
  | some p => cases D with
    | none => exact z
    | some d => exact OwnL.step z e
theorem St.step {s₀ s s' : Shared} {env : Env} {O : Addr → Prop} {ρ : List (Nat × PV)} {ω : Option (Nat × List PV)} {D : Option Addr} (z : St s₀ env O ρ ω D s) (e : Ext s s') : St s₀ env O ρ ω D s' :=
  ⟨fun x c hc => let ⟨a, v, b⟩ := z.cell x c hc; ⟨a, v, b.keeps e.heap⟩, z.loc.step e, z.fill.step e⟩
theorem St.sub {s₀ s : Shared} {env : Env} {O : Addr → Prop} {ρ ρ' : List (Nat × PV)} {ω : Option (Nat × List PV)} {D : Option Addr} (z : St s₀ env O ρ ω D s) (h : ∀ p ∈ ρ', p ∈ ρ) : St s₀ env O ρ' ω D s := ⟨z.cell, z.loc.sub h, z.fill⟩
theorem Rep.inner {O : Addr → Prop} {D : Option Addr} {h : Heap} {v : Value} {x : PV} (r : Rep (within O D) h v x) : Rep O h v x := r.mono (fun a h => .inl h) fun _ _ _ e => e
theorem Reps.inner {O : Addr → Prop} {D : Option Addr} {h : Heap} {v : List Value} {x : List PV} (r : Reps (within O D) h v x) : Reps O h v x := r.mono (fun a h => .inl h) fun _ _ _ e => e

noncomputable def notFill (ω : Option (Nat × List PV)) (x : Str) : Bool := match ω with | none => true | some (y, _) => !(y == ky x)
inductive Fl where
  | next (ρ : List (Nat × PV)) (ω : Option (Nat × List PV))
  | ret (x : PV)
noncomputable def Fl.post (t : Bool) (s₀ : Shared) (env : Env) (O : Addr → Prop) (D : Option Addr) (Q : Flow → Shared → Prop) : Fl → Prop
  | .next ρ ω => ∀ s' D', (t = true → D' = D) → St s₀ env O ρ ω D' s' → Q .next s'
  | .ret x => ∀ v s', Ext s₀ s' → Rep O s'.heap v x → Q (.ret v) s'

/-- statements: what they lead to (t: the list being filled stays the same one) -/
noncomputable def Xs (t : Bool) (n : Nat) (sc : Scope) (ρ : List (Nat × PV)) (ω : Option (Nat × List PV)) (sts : List Stmt) (out : Fl) : Prop :=
  ∀ (w : World) (A : Around) (env : Env) (O : Addr → Prop) (D : Option Addr) (s₀ s : Shared), Rm n A → EnvOk env sc → GF s₀.heap → St s₀ env O ρ ω D s →
    ∀ (Q : Flow → Shared → Prop) (E : Value → Shared → Prop), out.post t s₀ env O D Q → wpAny (MM w) A (execs sts env) Q E s

noncomputable def drp (k : Nat) : List (Nat × PV) → List (Nat × PV)
  | [] => []
  | p :: r => bif p.1 == k then drp k r else p :: drp k r
theorem drp_mem {k : Nat} : ∀ {ρ : List (Nat × PV)} {p : Nat × PV}, p ∈ drp k ρ → p ∈ ρ ∧ p.1 ≠ k
  | p₀ :: r, p, h => by
    unfold drp at h
    cases e : p₀.1 == k with
    | true => rw [e] at h; have := drp_mem (ρ := r) h; exact ⟨.tail _ this.1, this.2⟩
    | false =>
      rw [e] at h
      rcases List.mem_cons.mp h with rfl | h
      · exact ⟨.head _, by simpa using e⟩
      · have := drp_mem h; exact ⟨.tail _ this.1, this.2⟩
theorem names_ne {j k : Nat} {x y : Str} (hk : nms[k]? = some x) (hj : nms[j]? = some y) (h : j ≠ k) : y ≠ x := fun e => h (nms_inj (x := x) (e ▸ hj) hk)

mutual
theorem Rep.off {O : Addr → Prop} {h : Heap} {L : Addr} (hL : ∀ o its k, h.get? L = some o → o.data ≠ .seq its k) : ∀ {v : Value} {x : PV}, Rep O h v x → Rep (fun a => O a ∨ a = L) h v x
  | _, _, .none => .none
  | _, _, .bool b => .bool b
  | _, _, .int i t => .int i t
  | _, _, .str x t => .str x t
  | _, _, .list n g r => .list (fun q => q.elim n fun e => by subst e; obtain ⟨o, e, _, k, d⟩ := g; exact hL o _ k e d) g (Reps.off hL r)
  | _, _, .tup n g r => .tup (fun q => q.elim n fun e => by subst e; obtain ⟨o, e, _, k, d⟩ := g; exact hL o _ k e d) g (Reps.off hL r)
theorem Reps.off {O : Addr → Prop} {h : Heap} {L : Addr} (hL : ∀ o its k, h.get? L = some o → o.data ≠ .seq its k) : ∀ {vs : List Value} {xs : List PV}, Reps O h vs xs → Reps (fun a => O a ∨ a = L) h vs xs
  | _, _, .nil => .nil
  | _, _, .cons a r => .cons (Rep.off hL a) (Reps.off hL r)
end
theorem Rep.but {O : Addr → Prop} {h h' : Heap} {L : Addr} {v : Value} {x : PV} (hL : ∀ o its k, h.get? L = some o → o.data ≠ .seq its k) (r : Rep O h v x) (hs : ∀ b o, b ≠ L → h.get? b = some o → h'.get? b = some o) : Rep O h' v x :=
  (r.off hL).mono (fun a q => .inl q) fun b o hb e => hs b o (fun q => hb (.inr q)) e
theorem Reps.but {O : Addr → Prop} {h h' : Heap} {L : Addr} {v : List Value} {x : List PV} (hL : ∀ o its k, h.get? L = some o → o.data ≠ .seq its k) (r : Reps O h v x) (hs : ∀ b o, b ≠ L → h.get? b = some o → h'.get? b = some o) : Reps O h' v x :=
  (r.off hL).mono (fun a q => .inl q) fun b o hb e => hs b o (fun q => hb (.inr q)) e
theorem ns_noSeq {h : Heap} {L : Addr} {m : Str → Option Value} (hm : h.Ns L m) : ∀ o its k, h.get? L = some o → o.data ≠ .seq its k := by
  obtain ⟨oL, es, ep, ho, hd, _⟩ := hm
  intro o its k e
  rw [ho] at e; cases e; rw [hd]; exact fun q => by cases q
theorem ns_uniq {h : Heap} {L : Addr} {m m' : Str → Option Value} (x : h.Ns L m) (y : h.Ns L m') : m = m' := by
  obtain ⟨o, es, ep, ho, hd, _, hf⟩ := x
  obtain ⟨o', es', ep', ho', hd', _, hf'⟩ := y
  rw [ho] at ho'; cases ho'; rw [hd] at hd'; cases hd'
  funext z; rw [← hf z, ← hf' z]
theorem Ext.but {s₀ s : Shared} {L : Addr} {h' : Heap} {tk : Nat} (e : Ext s₀ s) (hf : s₀.heap.get? L = none) (hs : ∀ b o, b ≠ L → s.heap.get? b = some o → h'.get? b = some o) : Ext s₀ { s with heap := h', toks := tk } :=
  ⟨fun b o q => hs b o (fun z => by rw [z, hf] at q; cases q) (e.heap b o q), e.gens, e.bare, e.os⟩
theorem Own.but {O : Addr → Prop} {s : Shared} {L : Addr} {h' : Heap} {tk : Nat} (h : Own O s) (hs : Heap.SameBut L s.heap h') (hL : ∃ o, h'.get? L = some o) : Own O { s with heap := h', toks := tk } := fun a ha => by
  obtain ⟨o, e⟩ := h a ha
  by_cases q : a = L
  · exact q ▸ hL
  · exact ⟨o, (hs.2 a q).trans e⟩

section
variable {t : Bool} {n : Nat} {sc : Scope} {ρ ρ' : List (Nat × PV)} {ω : Option (Nat × List PV)} {out : Fl} {rest : List Stmt}
theorem Loc.store {s₀ s : Shared} {env : Env} {O : Addr → Prop} {x : Str} {v : Value} {u : PV} {h' : Heap} {m : Str → Option Value} (l : Loc s₀ env O ρ s) (r : Rep O s.heap v u) (hk : env.kindOf x = some .local) (hxg : nms[ky x]? = some x)
    (hc : ∀ y c, env.cells.lookup y = some c → c ≠ env.locals) (hm : s.heap.Ns env.locals m) (hn' : h'.Ns env.locals fun y => if y = x then some v else m y) (hs' : Heap.SameBut env.locals s.heap h') :
    Loc s₀ env O ((ky x, u) :: drp (ky x) ρ) { s with heap := h', toks := s.toks + 1 } := by
  have nl := ns_noSeq hm
  have kp : ∀ b o, b ≠ env.locals → s.heap.get? b = some o → h'.get? b = some o := fun b o hb e => (hs'.2 b hb).trans e
  have hex : ∃ o, h'.get? env.locals = some o := let ⟨o, _, _, e, _⟩ := hn'; ⟨o, e⟩
  refine ⟨l.ext.but l.fresh kp, l.fresh, l.own.but hs' hex, _, hn', fun p hp y hy => ?_⟩
  rcases List.mem_cons.mp hp with rfl | hp
  · obtain rfl : y = x := by rw [hxg] at hy; exact (Option.some.inj hy).symm
    exact ⟨v, .inl ⟨hk, if_pos rfl⟩, r.but nl kp⟩
  · obtain ⟨hp, hne⟩ := drp_mem hp
    obtain ⟨m₁, hm₁, hr⟩ := l.ns
    obtain ⟨v', hv', r'⟩ := hr p hp y hy
    have hyx : y ≠ x := names_ne hxg hy hne
    obtain rfl := ns_uniq hm₁ hm
    rcases hv' with ⟨a, b⟩ | ⟨a, c, b, d⟩
    · exact ⟨v', .inl ⟨a, by dsimp only; rw [if_neg hyx]; exact b⟩, r'.but nl kp⟩
    · exact ⟨v', .inr ⟨a, c, b, let ⟨o, e, f⟩ := d; ⟨o, kp c o (hc y c b) e, f⟩⟩, r'.but nl kp⟩
theorem OwnL.store {s₀ s : Shared} {env : Env} {O : Addr → Prop} {x : Str} {v : Value} {y : Nat} {xs : List PV} {D : Addr} {h' : Heap} {m : Str → Option Value} (z : OwnL s₀ env O y xs s D) (hxg : nms[ky x]? = some x) (hne : y ≠ ky x)
    (hm : s.heap.Ns env.locals m) (hn' : h'.Ns env.locals fun y => if y = x then some v else m y) (hs' : Heap.SameBut env.locals s.heap h') : OwnL s₀ env O y xs { s with heap := h', toks := s.toks + 1 } D := by
  have nl := ns_noSeq hm
  have kp : ∀ b o, b ≠ env.locals → s.heap.get? b = some o → h'.get? b = some o := fun b o hb e => (hs'.2 b hb).trans e
  refine ⟨z.new, z.out, ⟨_, hn', fun y' hy' => ?_⟩, ?_⟩
  · obtain ⟨m₁, hm₁, h1⟩ := z.ns
    obtain rfl := ns_uniq hm₁ hm
    have := h1 y' hy'
    exact ⟨this.1, by rw [if_neg (names_ne hxg hy' hne)]; exact this.2⟩
  · obtain ⟨vs, ⟨k, e⟩, r⟩ := z.has
    refine ⟨vs, ⟨k, kp D _ ?_ e⟩, r.but nl kp⟩
    rintro rfl
    exact nl _ _ k e rfl
theorem St.cells {s₀ s : Shared} {env : Env} {O : Addr → Prop} {D : Option Addr} (hS : St s₀ env O ρ ω D s) : ∀ y c, env.cells.lookup y = some c → c ≠ env.locals := by
  intro y c hc e
  obtain ⟨_, v, ⟨o, ho, hd⟩⟩ := hS.cell y c hc
  obtain ⟨m, ⟨oL, es, ep, hoL, hdL, _⟩, _⟩ := hS.loc.ns
  rw [e, hoL] at ho; cases ho; rw [hdL] at hd; cases hd
theorem St.gf {s₀ s : Shared} {env : Env} {O : Addr → Prop} {D : Option Addr} (z : St s₀ env O ρ ω D s) (g : GF s₀.heap) : GF s.heap := g.ext z.loc.ext
theorem St.ext {s₀ s : Shared} {env : Env} {O : Addr → Prop} {D : Option Addr} (z : St s₀ env O ρ ω D s) : Ext s₀ s := z.loc.ext

/-- a local's store -/
theorem St.store {s₀ s : Shared} {env : Env} {O : Addr → Prop} {D : Option Addr} {x : Str} {v : Value} {u : PV} {h' : Heap} {m : Str → Option Value} (hS : St s₀ env O ρ ω D s) (r : Rep (within O D) s.heap v u)
    (hk : env.kindOf x = some .local) (hx : decide (ky x < 57) = true) (hω : notFill ω x = true)
    (hm : s.heap.Ns env.locals m) (hn' : h'.Ns env.locals fun y => if y = x then some v else m y) (hs' : Heap.SameBut env.locals s.heap h') :
    St s₀ env O ((ky x, u) :: drp (ky x) ρ) ω D { s with heap := h', toks := s.toks + 1 } := by
  have hxg := ky_get rfl (of_decide_eq_true hx)
  refine ⟨fun y c hc => ?_, hS.loc.store r hk hxg hS.cells hm hn' hs', ?_⟩
  · obtain ⟨a, v, b⟩ := hS.cell y c hc
    exact ⟨a, v, b.sameBut hs' (hS.cells y c hc)⟩
  · have z := hS.fill
    cases ω with
    | none => cases D <;> exact z
    | some p => cases D with
      | none => exact z
      | some d => exact OwnL.store z hxg (by simpa [notFill] using hω) hm hn' hs'
theorem wp_store {M : Model} {A : Around} {E : Value → Shared → Prop} {s₀ s : Shared} {env : Env} {O : Addr → Prop} {D : Option Addr} {x : Str} {v : Value} {u : PV} {Q : Unit → Shared → Prop} (he : EnvOk env sc) (hS : St s₀ env O ρ ω D s) (r : Rep (within O D) s.heap v u)
    (hx : decide (ky x < 57) = true) (hl : sc.names.lookup x = some .local) (hω : notFill ω x = true)
    (q : ∀ s', St s₀ env O ((ky x, u) :: drp (ky x) ρ) ω D s' → (∀ b o, b ≠ env.locals → s.heap.get? b = some o → s'.heap.get? b = some o) → s'.gens = s.gens → Q () s') : wpAny M A (storeName env x v) Q E s := by
  have hk : env.kindOf x = some .local := by unfold Env.kindOf; rw [he.scope]; exact hl
  obtain ⟨m, hm, _⟩ := hS.loc.ns
  exact wpAny_storeName_local hk hm (fun h' hn' hs' => q _ (hS.store r hk hx hω hm hn' hs') (fun b o hb e => (hs'.2 b hb).trans e) rfl) (by rw [he.kind]; rfl)

theorem Xs.nil : Xs t n sc ρ ω [] (.next ρ ω) := fun _ _ _ _ _ _ _ _ _ _ hS _ _ q => wpAny_execs_nil (q _ _ (fun _ => rfl) hS)
theorem Xs.sub (h : Xs t n sc ρ' ω rest out) (hr : ∀ p ∈ ρ', p ∈ ρ) : Xs t n sc ρ ω rest out := fun w A env O D s₀ s hA he hG hS Q E q => h w A env O D s₀ s hA he hG (hS.sub hr) Q E q
theorem Xs.assign {e : Expr} {x : Str} {p pos : Pos} {u : PV} (h : Ev n sc ρ e u) (hx : decide (ky x < 57) = true) (hl : sc.names.lookup x = some .local)
    (hω : notFill ω x = true) (hs : ∀ env : Env, swapsWith e (some (.Name x p)) pos.line env = pure false)
    (k : Xs t n sc ((ky x, u) :: drp (ky x) ρ) ω rest out) : Xs t n sc ρ ω (.Assign [.Name x p] e pos :: rest) out :=
  fun w A env O D s₀ s hA he hG hS Q E q => wpAny_execs_cons (wpAny_Assign_Name (h w A env _ s₀ s hA he (hS.gf hG) hS.loc _ _ fun v s₁ e₁ r₁ =>
    wp_store he (hS.step e₁) r₁ hx hl hω fun s₂ S₂ _ _ => k w A env O D s₀ s₂ hA he hG S₂ Q E q) (hs env))
theorem Xs.aug {e : Expr} {x : Str} {op : Operator} {p pos : Pos} {a b u : PV} (h0 : ρ.lookup (ky x) = some a) (h : Ev n sc ρ e b) (hop : ∀ (w : World) (A : Around) (O : Addr → Prop) (s : Shared) (y z : Value), Rm 0 A → Own O s → Rep O s.heap y a → Rep O s.heap z b →
      ∀ (Q : Value → Shared → Prop) (E : Value → Shared → Prop), (∀ r s', Ext s s' → Rep O s'.heap r u → Q r s') → wpAny (MM w) A (inplaceOp op y z) Q E s)
    (hx : decide (ky x < 57) = true) (hl : sc.names.lookup x = some .local) (hω : notFill ω x = true)
    (k : Xs t n sc ((ky x, u) :: drp (ky x) ρ) ω rest out) : Xs t n sc ρ ω (.AugAssign (.Name x p) op e pos :: rest) out := by
  intro w A env O D s₀ s hA he hG hS Q E q
  have hk : env.kindOf x = some .local := by unfold Env.kindOf; rw [he.scope]; exact hl
  obtain ⟨m, hn, hr⟩ := hS.loc.ns
  obtain ⟨y, hu, hv⟩ := hr (ky x, a) (lookup_mem h0) x (ky_get rfl (of_decide_eq_true hx))
  have hm : m x = some y := by
    rcases hu with ⟨_, h2⟩ | ⟨h1, _⟩
    · exact h2
    · rw [hk] at h1; cases h1
  exact wpAny_execs_cons (wpAny_AugAssign_Name (wpAny_loadName_local he.kind hk hn hm (h w A env _ s₀ s hA he (hS.gf hG) hS.loc _ _ fun z s₁ e₁ r₁ =>
    hop w A _ s₁ y z hA.zero (hS.loc.own.step e₁) (hv.ext e₁) r₁ _ _ fun r s₂ e₂ r₂ => wp_store he ((hS.step e₁).step e₂) r₂ hx hl hω fun s₃ S₃ _ _ => k w A env O D s₀ s₃ hA he hG S₃ Q E q)))
theorem Xs.ret {e : Expr} {pos : Pos} {u : PV} (h : Ev n sc ρ e u) : Xs t n sc ρ ω (.Return (some e) pos :: rest) (.ret u) :=
  fun w A env O D s₀ s hA he hG hS Q E q => wpAny_execs_cons (wpAny_Return_some (h w A env _ s₀ s hA he (hS.gf hG) hS.loc _ _ fun v s₁ e₁ r₁ => q v s₁ (hS.ext.trans e₁) r₁.inner))
theorem Xs.if_next {test : Expr} {body orelse : List Stmt} {pos : Pos} {b : Bool} {ρ₁ : List (Nat × PV)} {ω₁ : Option (Nat × List PV)} (ht : EvT n sc ρ test b) (hb : Xs t n sc ρ ω (bif b then body else orelse) (.next ρ₁ ω₁)) (k : Xs t n sc ρ₁ ω₁ rest out) :
    Xs t n sc ρ ω (.If test body orelse pos :: rest) out := by
  intro w A env O D s₀ s hA he hG hS Q E q
  refine wpAny_execs_cons (wpAny_If (ht w A env _ s₀ s hA he (hS.gf hG) hS.loc _ _ fun s₁ e₁ => ?_))
  have := hb w A env O D s₀ s₁ hA he hG (hS.step e₁) (fun f s' => match f with | .next => wpAny (MM w) A (execs rest env) Q E s' | f => Q f s') E fun s₂ D₂ hD₂ S₂ => k w A env O D₂ s₀ s₂ hA he hG S₂ Q E (by
    cases out with
    | next ρ ω => exact fun s' D' hD' => q s' D' fun ht => (hD' ht).trans (hD₂ ht)
    | ret x => exact q)
  cases b <;> exact this
theorem Xs.if_ret {test : Expr} {body orelse : List Stmt} {pos : Pos} {b : Bool} {u : PV} (ht : EvT n sc ρ test b) (hb : Xs t n sc ρ ω (bif b then body else orelse) (.ret u)) :
    Xs t n sc ρ ω (.If test body orelse pos :: rest) (.ret u) := by
  intro w A env O D s₀ s hA he hG hS Q E q
  refine wpAny_execs_cons (wpAny_If (ht w A env _ s₀ s hA he (hS.gf hG) hS.loc _ _ fun s₁ e₁ => ?_))
  have := hb w A env O D s₀ s₁ hA he hG (hS.step e₁) (fun f s' => match f with | .next => wpAny (MM w) A (execs rest env) Q E s' | f => Q f s') E fun v s₂ e₂ r₂ => q v s₂ e₂ r₂
  cases b <;> exact this
/-- the list that was being filled is filled -/
theorem Xs.freeze {x : Nat} {xs : List PV} {sts : List Stmt} (k : Xs false n sc ((x, .list xs) :: ρ) none sts out) : Xs false n sc ρ (some (x, xs)) sts out := by
  intro w A env O D s₀ s hA he hG hS Q E q
  cases D with
  | none => exact hS.fill.elim
  | some D =>
    have z : OwnL s₀ env O x xs s D := hS.fill
    obtain ⟨vs, g, r⟩ := z.has
    obtain ⟨m, hm, h1⟩ := z.ns
    have hO : ∀ a, within O none a → O a := fun a h => h.elim id fun e => by cases e
    refine k w A env O none s₀ s hA he hG ⟨hS.cell, ⟨hS.loc.ext, hS.loc.fresh, fun a ha => hS.loc.own a (.inl (hO a ha)), ?_⟩, trivial⟩ Q E (by
      cases out with
      | next ρ ω => exact fun s' D' _ => q s' D' fun h => by cases h
      | ret x => exact q)
    obtain ⟨m', hm', h2⟩ := hS.loc.ns
    obtain rfl := ns_uniq hm hm'
    refine ⟨m, hm, fun p hp y hy => ?_⟩
    rcases List.mem_cons.mp hp with rfl | hp
    · exact ⟨_, .inl (h1 y hy), .list (fun ho => z.out (hO _ ho)) g.isList (r.mono (fun a h => .inl (hO a h)) fun _ _ _ e => e)⟩
    · obtain ⟨v, a, b⟩ := h2 p hp y hy
      exact ⟨v, a, b.mono (fun a h => .inl (hO a h)) fun _ _ _ e => e⟩
end
end Mine
namespace Mine

/-! calls of the text's own functions -/
noncomputable def Fsp (n k : Nat) (args : List PV) (x : PV) : Prop :=
  ∀ (w : World) (A : Around) (O : Addr → Prop) (s : Shared) (a : Addr) (vs : List Value), Rm n A → Own O s → GF s.heap → FnAt s.heap a k .none .none → Reps O s.heap vs args →
    ∀ (Q : Value → Shared → Prop) (E : Value → Shared → Prop), (∀ v s', Ext s s' → Rep O s'.heap v x → Q v s') → wpAny (MM w) A (call (.ref a) vs) Q E s

theorem lookup_rev {β : Type} {x : Str} {v : β} : ∀ {l : List (Str × β)}, (x, v) ∈ l → (l.map (·.1)).Nodup → l.reverse.lookup x = some v := by
  intro l hm hn
  have h1 : (l.reverse.map (·.1)).Nodup := by rw [List.map_reverse]; exact (List.reverse_perm _).nodup_iff.mpr hn
  have h2 : (x, v) ∈ l.reverse := List.mem_reverse.mpr hm
  revert h1 h2
  generalize l.reverse = l'
  induction l' with
  | nil => intro _ h; cases h
  | cons p r ih =>
    obtain ⟨y, u⟩ := p
    intro h1 h2
    rw [List.lookup_cons]
    rcases List.mem_cons.mp h2 with e | h3
    · cases e; simp
    · have hne : x ≠ y := by
        rintro rfl
        have := (List.nodup_cons.mp h1).1
        exact this (List.mem_map.mpr ⟨_, h3, rfl⟩)
      rw [show (x == y) = false from beq_eq_false_iff_ne.mpr hne]
      exact ih (List.nodup_cons.mp h1).2 h3

theorem zip_keys {α β : Type} : ∀ {ps : List α} {vs : List β}, vs.length = ps.length → (ps.zip vs).map (·.1) = ps
  | [], [], _ => rfl
  | p :: ps, v :: vs, h => by simp only [List.zip_cons_cons, List.map_cons]; rw [zip_keys (by simpa using h)]
theorem zip_reps {O : Addr → Prop} {h : Heap} {f : Str → Nat} {ps : List Str} : ∀ {vs : List Value} {xs : List PV}, Reps O h vs xs → xs.length = ps.length → ∀ q ∈ (ps.map f).zip xs, ∃ p v, p ∈ ps ∧ f p = q.1 ∧ (p, v) ∈ ps.zip vs ∧ Rep O h v q.2 := by
  induction ps with
  | nil => intro vs xs r e q hq; cases hq
  | cons p ps ih =>
    intro vs xs r e q hq
    cases r with
    | nil => cases hq
    | cons a r =>
      rcases List.mem_cons.mp hq with rfl | hq
      · exact ⟨p, _, .head _, rfl, .head _, a⟩
      · obtain ⟨p', v', h1, h2, h3, h4⟩ := ih r (by simpa using e) q hq
        exact ⟨p', v', .tail _ h1, h2, .tail _ h3, h4⟩

theorem lookup_in {β : Type} {x : Str} {v : β} : ∀ {l : List (Str × β)}, l.lookup x = some v → (x, v) ∈ l
  | [], e => by cases e
  | (j, u) :: r, e => by
    rw [List.lookup_cons] at e
    split at e
    · rename_i q; cases e; rw [beq_iff_eq.mp q]; exact .head _
    · exact .tail _ (lookup_in e)
theorem Fsp.mk {n k : Nat} {ps : List Str} {args : List PV} {x : PV}
    (hb : ∀ (fd : FuncData) (vs : List Value), fd.params = fA k → fd.defaults = .none → vs.length = ps.length → bindArgs fd ⟨vs, []⟩ = pure (ps.zip vs))
    (hcell : ∀ y ∈ (fS k).names, y.2 ≠ .cell) (hloc : ∀ p ∈ ps, (fS k).names.lookup p = some .local) (hnd : ps.Nodup) (hky : ∀ p ∈ ps, ky p < 57)
    (hl : args.length = ps.length) (hX : Xs false n (fS k) ((ps.map ky).zip args) none (fB k) (.ret x))
    (hco : (fS k).isCoroutine = false) (hgen : (fS k).isGenerator = false) (hk : (fS k).kind = .function) : Fsp (n + 1) k args x := by
  intro w A O s a vs hA hO hG hf hr Q E q
  obtain ⟨o, name, qual, doc, pm, an, cd, ct, ho, hd, hc⟩ := hf.is
  have hlen : vs.length = ps.length := hr.length.trans hl
  refine wpAny_call (codeAny_call_def (binds := ps.zip vs) hA.depth ho hd hG.lim hc rfl (.of_eq (hb _ vs rfl rfl hlen)) hcell (fun p hp => hloc _ ?_) (fun h₁ hn hk₁ => ?_) hco hgen hk)
  · have : p.1 ∈ (ps.zip vs).map (·.1) := List.mem_map.mpr ⟨p, hp, rfl⟩
    rwa [zip_keys hlen] at this
  · have hex : Ext s { s with heap := h₁, toks := s.toks + (ps.zip vs).length } := .of hk₁
    refine hX w _ _ O none s _ (hA.deeper _) ⟨rfl, hk, rfl, rfl, Nat.zero_le _, fun x hx => absurd rfl (hcell _ (lookup_in hx))⟩ hG ⟨fun y c hc => (by simp [callEnv, newEnv] at hc), ⟨hex, ?_, ?_, _, hn, ?_⟩, trivial⟩ _ _ ?_
    · cases e : s.heap.get? s.heap.objs.size with
      | none => exact e
      | some o => exact absurd (Heap.lt_size e) (Nat.lt_irrefl _)
    · exact Own.step (fun a ha => hO a (ha.elim id fun e => by cases e)) hex
    · intro p hp y hy
      obtain ⟨z, v, h1, h2, h3, h4⟩ := zip_reps (f := ky) hr hl p hp
      have hzy : z = y := by
        have := ky_get h2 (h2 ▸ hky z h1)
        rw [hy] at this; exact (Option.some.inj this).symm
      subst hzy
      refine ⟨v, .inl ⟨hloc z h1, ?_⟩, ?_⟩
      · exact lookup_rev h3 (by rw [zip_keys hlen]; exact hnd)
      · exact (h4.ext hex).mono (fun a ha => ha.elim id fun e => by cases e) fun _ _ _ e => e
    · exact fun v s' e r => q v s' e r

section
variable {n : Nat} {sc : Scope} {ρ : List (Nat × PV)}
/-- a call of a function of the text's own, by its plain name -/
theorem Ev.call {f : Str} {k : Nat} {e : Expr} {es : List Expr} {p pos : Pos} {xs : List PV} {x : PV} (hf : ∀ h, GF h → ∃ mg, h.Ns mainGlobals mg ∧ Fn0 h mg f k) (hsp : Fsp n k xs x) (ha : Evs n sc ρ (e :: es) xs)
    (hg : sc.names.lookup f = some .globalImplicit) (hd : (f == ("__debug__" : Str)) = false) (hp : ∀ env, starEach (e :: es) env = (false, eval e env) :: starEach es env) :
    Ev n sc ρ (.Call (.Name f p) (e :: es) [] pos) x := by
  intro w A env O s₀ s hA he hG hL Q E q
  obtain ⟨mg, hmg, a, hfa, hfn⟩ := hf _ hG
  refine Call_ (Calls.Name_function_global he.kind (by unfold Env.kindOf; rw [he.scope]; exact hg) (Calls.loadGlobal_global (by rw [he.globals]; exact hmg) hfa ?_) hd)
  obtain ⟨o, name, qual, doc, pm, an, cd, ct, ho, hdat, hc⟩ := hfn.is
  refine callWith_def hdat (ha w A env O s₀ s pos hA he hG hL _ _ fun vs s₁ e₁ r₁ => ⟨e₁.heap _ _ ho, ?_⟩) (hp env)
  exact hsp w A O s₁ a vs hA (hL.own.step e₁) (hG.ext e₁) (hfn.keeps e₁.heap) r₁ _ _ fun v s₂ e₂ r₂ => q v s₂ (e₁.trans e₂) r₂

/-- a call of a built-in function of the start-up's, by its plain name -/
noncomputable def Bsp (id : String) (xs : List PV) (x : PV) : Prop :=
  ∀ (w : World) (A : Around) (O : Addr → Prop) (s : Shared) (vs : List Value), Rm 0 A → Own O s → Reps O s.heap vs xs →
    ∀ (Q : Value → Shared → Prop) (E : Value → Shared → Prop), (∀ v s', Ext s s' → Rep O s'.heap v x → Q v s') → wpAny (MM w) A (call (.builtin id) vs) Q E s
theorem Ev.callB {f : Str} {id : String} {e : Expr} {es : List Expr} {p pos : Pos} {xs : List PV} {x : PV}
    (hf : ∀ h, GF h → ∃ mg mb, h.Ns mainGlobals mg ∧ mg f = Option.none ∧ h.Ns builtinsNs mb ∧ mb f = some (.builtin id)) (hsp : Bsp id xs x) (ha : Evs n sc ρ (e :: es) xs)
    (hg : sc.names.lookup f = some .globalImplicit) (hd : (f == ("__debug__" : Str)) = false) (hp : ∀ env, starEach (e :: es) env = (false, eval e env) :: starEach es env)
    (hpl : ∀ env, (backTo pos (starEach es env)).any (·.1) = false) :
    Ev n sc ρ (.Call (.Name f p) (e :: es) [] pos) x := by
  intro w A env O s₀ s hA he hG hL Q E q
  obtain ⟨mg, mb, hmg, hno, hmb, hyes⟩ := hf _ hG
  refine Call_ (Calls.Name_function_global he.kind (by unfold Env.kindOf; rw [he.scope]; exact hg) (Calls.loadGlobal_builtin (by rw [he.globals]; exact hmg) hno (by rw [he.builtins]; exact hmb) hyes ?_) hd)
  refine PyProof.Rows.callWith_builtin1 (ha w A env O s₀ s pos hA he hG hL _ _ fun vs s₁ e₁ r₁ => ?_) (hp env) (hpl env)
  exact hsp w A O s₁ vs hA.zero (hL.own.step e₁) r₁ _ _ fun v s₂ e₂ r₂ => q v s₂ (e₁.trans e₂) r₂
theorem Ev.glob {f : Str} {pos : Pos} {x : PV} (hf : ∀ h, GF h → ∃ mg v, h.Ns mainGlobals mg ∧ mg f = some v ∧ ∀ O, Rep O h v x) (hg : sc.names.lookup f = some .globalImplicit) (hd : (f == ("__debug__" : Str)) = false) : Ev n sc ρ (.Name f pos) x := by
  intro w A env O s₀ s hA he hG hL Q E q
  obtain ⟨mg, v, hmg, hv, r⟩ := hf _ hG
  exact Calls.Name_function_global he.kind (by unfold Env.kindOf; rw [he.scope]; exact hg) (Calls.loadGlobal_global (by rw [he.globals]; exact hmg) hv (q v s (.refl _) (r O))) hd

theorem Bsp.len_str {x : Str} (h : x.length < 2 ^ 62) : Bsp "len" [.str x] (.int x.length) := by
  intro w A O s vs hA hO hr Q E q
  obtain _ | ⟨_ | _, _ | _⟩ := hr
  exact PySem.P.len_str (by omega) (q _ _ .tok (.int _ _))
end
end Mine
namespace Mine

/-! items -/
theorem seqIndex_in {k : Int} {n : Nat} (h0 : 0 ≤ k) (h1 : k < n) : seqIndex? k n = some k.toNat := by
  have e : (0 ≤ k && k < (n : Int)) = true := by simp; omega
  unfold seqIndex?
  simp only [if_neg (show ¬ (k < 0) by omega), e, if_true]
noncomputable def Gop (o i r : PV) : Prop :=
  ∀ (w : World) (A : Around) (O : Addr → Prop) (s : Shared) (u v : Value), Rm 0 A → Own O s → Rep O s.heap u o → Rep O s.heap v i →
    ∀ (Q : Value → Shared → Prop) (E : Value → Shared → Prop), (∀ r' s', Ext s s' → Rep O s'.heap r' r → Q r' s') →
      ∃ T id, s.TypeIs u T ∧ typeLookup (.type T) "__getitem__" = pure (some (.builtin id)) ∧ wpAny (MM w) A (getItem u v) Q E s
theorem Gop.list {xs : List PV} {k : Int} {y : PV} (h0 : 0 ≤ k) (h1 : k < 1000000) (hy : xs[k.toNat]? = some y) : Gop (.list xs) (.int k) y := by
  rintro w A O s _ _ hA hO hu hv Q E q
  obtain _ | _ := hv
  cases hu with
  | list n g r =>
    obtain ⟨v, e, rv⟩ := r.get hy
    exact ⟨"list", _, g.typeIs, slot_list_getitem.lookup, wpAny_getItem_list g h0 (by omega) (by simpa using e) (q _ _ (.refl _) rv)⟩
theorem Gop.tup {xs : List PV} {k : Int} {y : PV} (h0 : 0 ≤ k) (h1 : k < 1000000) (hy : xs[k.toNat]? = some y) : Gop (.tup xs) (.int k) y := by
  rintro w A O s _ _ hA hO hu hv Q E q
  obtain _ | _ := hv
  cases hu with
  | tup n g r =>
    rename_i a vs
    obtain ⟨v, e, rv⟩ := r.get hy
    have hk : k.toNat < vs.length := (List.getElem?_eq_some_iff.mp e).1
    refine ⟨"tuple", _, IsTup.typeIs g, slot_tuple_getitem.lookup, PyProof.Rows.getItem_tuple g (by omega) (by omega) (j := k.toNat) ?_ (by simpa using e) (q _ _ (.refl _) rv)⟩
    exact seqIndex_in h0 (by rw [List.size_toArray]; omega)
theorem Gop.str {x : Str} {k : Int} {c : Nat} (h0 : 0 ≤ k) (h1 : k < 1000000) (hy : x.cps[k.toNat]? = some c) : Gop (.str x) (.int k) (.str ⟨#[c]⟩) := by
  rintro w A O s _ _ hA hO hu hv Q E q
  obtain _ | _ := hv
  obtain _ | _ := hu
  refine ⟨"str", _, typeIs_str _ _ _, slot_str_getitem.lookup, PyProof.Rows.getItem_str ?_ ?_ (q _ _ .tok (.str _ _))⟩
  · simp; omega
  · have hk : k.toNat < x.cps.size := (Array.getElem?_eq_some_iff.mp hy).1
    rw [seqIndex_in h0 (by show k < (x.cps.size : Int); omega)]
    exact hy

section
variable {n : Nat} {sc : Scope} {ρ : List (Nat × PV)}
theorem Ev.sub {value slice : Expr} {pos : Pos} {o i r : PV} (hv : Ev n sc ρ value o) (hi : Ev n sc ρ slice i) (hg : Gop o i r) (hs : ∀ o i, ∃ ops, subscripted slice false o i = operate ops (getItem o i)) : Ev n sc ρ (.Subscript value slice pos) r := by
  intro w A env O s₀ s hA he hG hL Q E q
  refine Subscript_ (hv w A env O s₀ s hA he hG hL _ _ fun u s₁ e₁ r₁ => hi w A env O s₀ s₁ hA he (hG.ext e₁) (hL.step e₁) _ _ fun v s₂ e₂ r₂ => ?_)
  obtain ⟨T, id, hT, hl, hw⟩ := hg w A O s₂ u v hA.zero ((hL.own.step e₁).step e₂) (r₁.ext e₂) r₂ Q E fun r' s' e r => q r' s' ((e₁.trans e₂).trans e) r
  obtain ⟨ops, hops⟩ := hs u v
  exact tail_any hT hl hw hops

noncomputable def Part (n : Nat) (sc : Scope) (ρ : List (Nat × PV)) : Option Expr → Option Int → Prop
  | none, none => True
  | some e, some i => Ev n sc ρ e (.int i)
  | _, _ => False
/-- a slice of u (the slice object made last) -/
noncomputable def Sop (o : PV) (lo hi : Option Int) (r : PV) : Prop :=
  ∀ (w : World) (A : Around) (O : Addr → Prop) (s : Shared) (u vl vu : Value), Rm 0 A → Own O s → Rep O s.heap u o → IsPart vl lo → IsPart vu hi →
    ∀ (Q : Value → Shared → Prop) (E : Value → Shared → Prop), (∀ r' s', Ext s s' → Rep O s'.heap r' r → Q r' s') →
      ∃ T id, ({ s with heap := s.heap.push { cls := .type "slice", data := .fields #[vl, vu, .none] } } : Shared).TypeIs u T ∧ typeLookup (.type T) "__getitem__" = pure (some (.builtin id)) ∧
        wpAny (MM w) A (getItem u (.ref s.heap.objs.size)) Q E { s with heap := s.heap.push { cls := .type "slice", data := .fields #[vl, vu, .none] } }
theorem Part.ev {w : World} {A : Around} {env : Env} {O : Addr → Prop} {s₀ s : Shared} {e : Option Expr} {i : Option Int} (hp : Part n sc ρ e i) (hA : Rm n A) (he : EnvOk env sc) (hG : GF s.heap) (hL : Loc s₀ env O ρ s)
    {Q : Value → Shared → Prop} {E : Value → Shared → Prop} (q : ∀ v s', Ext s s' → IsPart v i → Q v s') : wpAny (MM w) A (evalPart e env) Q E s := by
  cases e with
  | none => cases i with
    | none => exact wpAny_pure (q _ _ (.refl _) .none)
    | some i => exact hp.elim
  | some e => cases i with
    | none => exact hp.elim
    | some i => exact hp w A env O s₀ s hA he hG hL _ _ fun v s₁ e₁ r₁ => by cases r₁; exact q _ _ e₁ (.int _ _)
theorem Ev.slice {value : Expr} {lower upper : Option Expr} {p pos : Pos} {o r : PV} {lo hi : Option Int} (hv : Ev n sc ρ value o) (hl : Part n sc ρ lower lo) (hu : Part n sc ρ upper hi) (hg : Sop o lo hi r) : Ev n sc ρ (.Subscript value (.Slice lower upper Option.none p) pos) r := by
  intro w A env O s₀ s hA he hG hL Q E q
  refine Subscript_ (hv w A env O s₀ s hA he hG hL _ _ fun u s₁ e₁ r₁ => wpAny_Slice (hl.ev hA he (hG.ext e₁) (hL.step e₁) fun vl s₂ e₂ p₂ => hu.ev hA he ((hG.ext e₁).ext e₂) ((hL.step e₁).step e₂) fun vu s₃ e₃ p₃ => ?_))
  rw [evalPart_none]
  refine wpAny_pure ?_
  have e : Ext s s₃ := (e₁.trans e₂).trans e₃
  obtain ⟨T, id, hT, hlk, hw⟩ := hg w A O s₃ u vl vu hA.zero (hL.own.step e) ((r₁.ext e₂).ext e₃) p₂ p₃ Q E fun r' s' e' r => q r' s' (e.trans e') r
  exact tail_any hT hlk hw (ops := [.ref s₃.heap.objs.size, u]) (by rfl)
end

theorem reps_drop_take {O : Addr → Prop} {h : Heap} {vs : List Value} {xs : List PV} (r : Reps O h vs xs) (a b : Nat) : Reps O h ((vs.drop a).take b) ((xs.drop a).take b) := (r.drop a).take b
theorem Sop.list_of {xs ys : List PV} {lo hi : Option Int} {a b : Nat} (hb : sliceBounds lo hi none xs.length = ((a : Int), (b : Int), 1)) (hy : (xs.drop a).take (b - a) = ys) (hz : xs.length ≤ 1000000) : Sop (.list xs) lo hi (.list ys) := by
  rintro w A O s _ vl vu hA hO hu pl pu Q E q
  cases hu with
  | list n g r =>
    rename_i l vs
    refine ⟨"list", _, (g.push _).typeIs, list_getitem_lookup, wpAny_getItem_list_slice (g.push _) (Heap.IsSliceOf.new ..) pl pu .none (by simp) ?_ (by rw [sizeLine_eq, List.size_toArray, r.length]; omega)⟩
    rw [Heap.size_push]
    have e : Ext s { s with heap := (s.heap.push { cls := .type "slice", data := .fields #[vl, vu, .none] }).push { cls := .type "list", data := .seq (slicePick vs.toArray lo hi none) } } :=
      .of (tk := s.toks) fun b o x => Heap.get?_push_of_some _ (Heap.get?_push_of_some _ x)
    have hsz : vs.toArray.size = xs.length := by rw [List.size_toArray, r.length]
    have hp : slicePick vs.toArray lo hi none = ((vs.drop a).take (b - a)).toArray := by
      rw [kmk_pick_nat _ (by rw [hsz]; exact hb)]
    subst hy
    have e1 := Heap.get?_push_size (s.heap.push { cls := .type "slice", data := .fields #[vl, vu, .none] }) (o := { cls := .type "list", data := .seq (slicePick vs.toArray lo hi none) }) rfl
    rw [Heap.size_push] at e1
    refine q _ _ e (.list (vs := (vs.drop a).take (b - a)) (fun ho => ?_) ⟨_, e1, rfl, 0, by rw [hp]⟩ ((reps_drop_take r a (b - a)).ext e))
    · obtain ⟨o, x⟩ := hO _ ho
      exact Nat.not_succ_lt_self (Heap.lt_size x)
theorem Sop.list_to {xs : List PV} {k : Int} (h0 : 0 ≤ k) (hz : xs.length ≤ 1000000) : Sop (.list xs) none (some k) (.list (xs.take k.toNat)) := by
  refine Sop.list_of (a := 0) (b := min k.toNat xs.length) ?_ ?_ hz
  · simp only [sliceBounds, Option.getD_none, show (1 : Int) > 0 by decide, if_true, if_neg (show ¬ (k < 0) by omega)]
    congr 1; congr 1; omega
  · rw [List.drop_zero, Nat.sub_zero, kmk_take_min]
theorem Sop.list_from {xs : List PV} {k : Int} (h0 : 0 ≤ k) (hz : xs.length ≤ 1000000) : Sop (.list xs) (some k) none (.list (xs.drop k.toNat)) := by
  refine Sop.list_of (a := min k.toNat xs.length) (b := xs.length) ?_ ?_ hz
  · simp only [sliceBounds, Option.getD_none, show (1 : Int) > 0 by decide, if_true, if_neg (show ¬ (k < 0) by omega)]
    congr 1; omega
  · rw [kmk_drop_min, List.take_of_length_le]; rw [List.length_drop]; omega

noncomputable def keptExt (s : Shared) (h : Heap) : Prop := ∀ b o, s.heap.get? b = some o → h.get? b = some o
theorem keptExt_kept (s : Shared) : KeptH (keptExt s) := fun h ob k b o e => Heap.get?_push_of_some _ (k b o e)
theorem slice_from {x : Str} {k : Int} (h0 : 0 ≤ k) (h1 : k ≤ x.length) : Txt.slice x (some k) none = ⟨(x.cps.toList.drop k.toNat).toArray⟩ := by
  rw [slice_from_eq (b := (x.length : Int)) h0 h1 rfl, List.take_of_length_le]
  rw [List.length_drop, Array.length_toList]; simp only [Str.length]; omega
theorem slice_to {x : Str} {k : Int} (h0 : 0 ≤ k) (h1 : k ≤ x.length) : Txt.slice x none (some k) = ⟨(x.cps.toList.take k.toNat).toArray⟩ := by
  rw [beq_iff_eq.mp (slice_closes_toL h0 h1)]
  simp
theorem Sop.str_to {x : Str} {k : Int} (h0 : 0 ≤ k) (h1 : k ≤ x.length) (hz : x.length ≤ 1000000) : Sop (.str x) none (some k) (.str ⟨(x.cps.toList.take k.toNat).toArray⟩) := by
  rintro w A O s _ vl vu hA hO hu pl pu Q E q
  obtain _ | _ := hu
  obtain _ | _ := pl
  obtain _ | _ := pu
  obtain ⟨T, id, g1, g2, g3⟩ := SBH.sliceItem_ns (w := w) (prog := pw) (A := A) (E := E) (Q := Q) (keptExt_kept s) (s := s) (x := x) (fun _ _ e => e) (fun h' t' k a => q _ _ (.of a) (by rw [slice_to h0 h1]; exact .str _ _)) (by rw [sizeLine_eq]; omega)
  exact ⟨T, id, g2, g1, g3⟩
theorem Sop.str_from {x : Str} {k : Int} (h0 : 0 ≤ k) (h1 : k ≤ x.length) (hz : x.length ≤ 1000000) : Sop (.str x) (some k) none (.str ⟨(x.cps.toList.drop k.toNat).toArray⟩) := by
  rintro w A O s _ vl vu hA hO hu pl pu Q E q
  obtain _ | _ := hu
  obtain _ | _ := pl
  obtain _ | _ := pu
  obtain ⟨T, id, g1, g2, g3⟩ := SBH.sliceItem_sn (w := w) (prog := pw) (A := A) (E := E) (Q := Q) (keptExt_kept s) (s := s) (x := x) (fun _ _ e => e) (fun h' t' k a => q _ _ (.of a) (by rw [slice_from h0 h1]; exact .str _ _)) (by rw [sizeLine_eq]; omega)
  exact ⟨T, id, g2, g1, g3⟩
end Mine
namespace Mine

/-! equality of data -/
mutual
noncomputable def PV.toP : PV → PyData
  | .none => .none
  | .bool b => .bool b
  | .int i => .int i
  | .str x => .str x
  | .list xs => .list (PV.toPs xs)
  | .tup xs => .tuple (PV.toPs xs)
noncomputable def PV.toPs : List PV → List PyData
  | [] => []
  | x :: xs => PV.toP x :: PV.toPs xs
end
mutual
theorem Rep.reads {O : Addr → Prop} {h : Heap} : ∀ {v : Value} {x : PV}, Rep O h v x → ∃ as, Reads h v x.toP as
  | _, _, .none => ⟨_, .none⟩
  | _, _, .bool b => ⟨_, .bool b⟩
  | _, _, .int i t => ⟨_, .int i t⟩
  | _, _, .str x t => ⟨_, .str x t⟩
  | _, _, .list n g r => by
    obtain ⟨o, e, c, k, d⟩ := g
    obtain ⟨as, q⟩ := Reps.reads r
    exact ⟨_, by rw [PV.toP]; exact .list e c d (by simpa using q)⟩
  | _, _, .tup n g r => by
    obtain ⟨o, e, c, k, d⟩ := g
    obtain ⟨as, q⟩ := Reps.reads r
    exact ⟨_, by rw [PV.toP]; exact .tuple e c d (by simpa using q)⟩
theorem Reps.reads {O : Addr → Prop} {h : Heap} : ∀ {vs : List Value} {xs : List PV}, Reps O h vs xs → ∃ as, ReadsAll h vs (PV.toPs xs) as
  | _, _, .nil => ⟨_, .nil⟩
  | _, _, .cons a r => by
    obtain ⟨as, q⟩ := Rep.reads a
    obtain ⟨bs, p⟩ := Reps.reads r
    exact ⟨_, by rw [PV.toPs]; exact .cons q p⟩
end
mutual
/-- fit to be compared: signs below the last one, at most n deep -/
noncomputable def PV.ok : Nat → PV → Bool
  | _, .none => true
  | _, .bool _ => true
  | _, .int _ => true
  | _, .str x => PyData.strOk x
  | n + 1, .list xs => PV.oks n xs
  | n + 1, .tup xs => PV.oks n xs
  | 0, _ => false
noncomputable def PV.oks : Nat → List PV → Bool
  | _, [] => true
  | n, x :: xs => PV.ok n x && PV.oks n xs
end
mutual
theorem PV.ok_lay : ∀ (n : Nat) (x : PV), x.ok n = true → x.toP.canLay0 = true ∧ x.toP.depth ≤ n
  | n, .none, _ => by simp [PV.toP, PyData.canLay0, PyData.depth]
  | n, .bool _, _ => by simp [PV.toP, PyData.canLay0, PyData.depth]
  | n, .int _, _ => by simp [PV.toP, PyData.canLay0, PyData.depth]
  | n, .str x, h => by
    cases n <;> (simp only [PV.ok] at h; simp [PV.toP, PyData.canLay0, PyData.depth, h])
  | n + 1, .list xs, h => by
    have := PV.oks_lay n xs (by simpa [PV.ok] using h)
    simp only [PV.toP, PyData.canLay0, PyData.depth]
    exact ⟨this.1, by omega⟩
  | n + 1, .tup xs, h => by
    have := PV.oks_lay n xs (by simpa [PV.ok] using h)
    simp only [PV.toP, PyData.canLay0, PyData.depth]
    exact ⟨this.1, by omega⟩
  | 0, .list xs, h => by simp [PV.ok] at h
  | 0, .tup xs, h => by simp [PV.ok] at h
theorem PV.oks_lay : ∀ (n : Nat) (xs : List PV), PV.oks n xs = true → PyData.canLayAll0 (PV.toPs xs) = true ∧ PyData.depthAll (PV.toPs xs) ≤ n
  | n, [], _ => by simp [PV.toPs, PyData.canLayAll0, PyData.depthAll]
  | n, x :: xs, h => by
    simp only [PV.oks, Bool.and_eq_true] at h
    have a := PV.ok_lay n x h.1
    have b := PV.oks_lay n xs h.2
    simp only [PV.toPs, PyData.canLayAll0, PyData.depthAll, Bool.and_eq_true]
    exact ⟨⟨a.1, b.1⟩, by omega⟩
end
mutual
theorem PV.eqv_refl : ∀ (n : Nat) (x : PV), x.ok n = true → PyData.eqv x.toP x.toP = true
  | n, .none, _ => by simp [PV.toP, PyData.eqv]
  | n, .bool _, _ => by simp [PV.toP, PyData.eqv]
  | n, .int _, _ => by simp [PV.toP, PyData.eqv]
  | n, .str x, h => by simp [PV.toP, PyData.eqv]
  | n + 1, .list xs, h => by
    simp only [PV.toP, PyData.eqv]
    exact PV.eqvs_refl n xs (by simpa [PV.ok] using h)
  | n + 1, .tup xs, h => by
    simp only [PV.toP, PyData.eqv]
    exact PV.eqvs_refl n xs (by simpa [PV.ok] using h)
  | 0, .list xs, h => by simp [PV.ok] at h
  | 0, .tup xs, h => by simp [PV.ok] at h
theorem PV.eqvs_refl : ∀ (n : Nat) (xs : List PV), PV.oks n xs = true → PyData.eqvAll (PV.toPs xs) (PV.toPs xs) = true
  | n, [], _ => by simp [PV.toPs, PyData.eqvAll]
  | n, x :: xs, h => by
    simp only [PV.oks, Bool.and_eq_true] at h
    simp only [PV.toPs, PyData.eqvAll, Bool.and_eq_true]
    exact ⟨PV.eqv_refl n x h.1, PV.eqvs_refl n xs h.2⟩
end
theorem ok_shaped {x : PV} (h : x.ok 9 = true) : SeqAt.shaped x.toP = true := by
  have := PV.ok_lay 9 x h
  unfold SeqAt.shaped; rw [this.1, Bool.true_and]; exact decide_eq_true (by omega)
theorem Rm.room {n : Nat} {A : Around} (h : Rm n A) : A.units + 64 < cLine := by have := h.2.2; show A.units + 64 < 9900; omega
theorem Cop.eq_data {x y : PV} {b : Bool} (hx : x.ok 9 = true) (hy : y.ok 9 = true) (hb : PyData.eqv x.toP y.toP = b) : Cop .Eq x y b := by
  subst hb
  intro w A O s u v hA hO hu hv Q E q
  obtain ⟨as, ra⟩ := hu.reads
  obtain ⟨bs, rb⟩ := hv.reads
  exact eq_dataH ra rb (ok_shaped hx) (ok_shaped hy) hA.room (q _ (.refl _))
theorem Cop.ne_data {x y : PV} {b : Bool} (hx : x.ok 9 = true) (hy : y.ok 9 = true) (hb : (!PyData.eqv x.toP y.toP) = b) : Cop .NotEq x y b := by
  subst hb
  intro w A O s u v hA hO hu hv Q E q
  obtain ⟨as, ra⟩ := hu.reads
  obtain ⟨bs, rb⟩ := hv.reads
  exact ne_dataH ra rb (ok_shaped hx) (ok_shaped hy) hA.room (q _ (.refl _))
theorem Cop.ne_same {x : PV} (hx : x.ok 9 = true) : Cop .NotEq x x false := Cop.ne_data hx hx (by rw [PV.eqv_refl 9 x hx]; rfl)

/-! lists joined -/
theorem Bop.add_list {xs ys : List PV} (h : xs.length + ys.length ≤ 1000000) : Bop .Add (.list xs) (.list ys) (.list (xs ++ ys)) := by
  rintro w A O s _ _ hA hO hu hv Q E q
  cases hu with
  | list n1 g1 r1 =>
    cases hv with
    | list n2 g2 r2 =>
      rename_i l vs b ws
      obtain ⟨⟨cls, dd, data, sl⟩, ho, hc, n, hd⟩ := id g1
      obtain ⟨⟨cls2, dd2, data2, sl2⟩, ho2, hc2, n2, hd2⟩ := id g2
      simp only at hc hd hc2 hd2
      subst hc hd hc2 hd2
      have e : vs.toArray ++ ws.toArray = (vs ++ ws).toArray := by simp
      have hsz : vs.length + ws.length ≤ sizeLine := by rw [sizeLine_eq, r1.length, r2.length]; omega
      refine concat_meets ⟨_, ho, rfl⟩ ⟨_, ho2, rfl⟩ noFill_list_add seq_list_add PySem.F.slot_list_add PySem.F.entry_list_add (PySem.F.args_list_add_2 _ _) (list_addW l b vs.toArray ws.toArray n n2 dd dd2 sl sl2 (by simpa using hsz)) ⟨ho, ho2, ?_⟩
      rw [e]
      have ex : Ext s { s with heap := s.heap.push { cls := .type "list", data := .seq (vs ++ ws).toArray } } := .of (tk := s.toks) fun b o => Heap.get?_push_of_some _
      exact q _ _ ex (.list hO.size ⟨_, Heap.get?_push_size _ rfl, rfl, 0, rfl⟩ ((r1.append r2).ext ex))

/-! built-in functions -/
theorem Bsp.len_list {xs : List PV} (h : xs.length < 2 ^ 62) : Bsp "len" [.list xs] (.int xs.length) := by
  intro w A O s vs hA hO hr Q E q
  cases hr with
  | cons a r =>
    cases r
    cases a with
    | list n g r =>
      refine Calls.call_len_list g (by rw [List.size_toArray, r.length]; omega) ?_
      rw [List.size_toArray, r.length]
      exact q _ _ .tok (.int _ _)
theorem Bsp.ord {c : Nat} : Bsp "ord" [.str ⟨#[c]⟩] (.int c) := by
  intro w A O s vs hA hO hr Q E q
  obtain _ | ⟨_ | _, _ | _⟩ := hr
  exact PySem.P.ord_of_char (q _ _ .tok (.int _ _))
theorem Bsp.chr {i : Int} (h0 : 0 ≤ i) (h1 : i ≤ 0x10FFFF) : Bsp "chr" [.int i] (.str ⟨#[i.toNat]⟩) := by
  intro w A O s vs hA hO hr Q E q
  obtain _ | ⟨_ | _, _ | _⟩ := hr
  exact PySem.P.chr_of_int (by simp; omega) (q _ _ .tok (.str _ _))
theorem Bsp.divmod {a b : Int} (hb : b ≠ 0) (hs : b.natAbs.log2 < 9000) : Bsp "divmod" [.int a, .int b] (.tup [.int (a.fdiv b), .int (a.fmod b)]) := by
  intro w A O s vs hA hO hr Q E q
  obtain _ | ⟨_ | _, _ | ⟨_ | _, _ | _⟩⟩ := hr
  rename_i t u
  have e : Ext s { s with toks := s.toks + 1 + 1, heap := s.heap.push { cls := .type "tuple", data := .seq #[.int (a.fdiv b) s.toks, .int (a.fmod b) (s.toks + 1)] } } := .of fun b o => Heap.get?_push_of_some _
  exact PyProof.Rows.divmod_int hb (q _ _ e (.tup (vs := [.int (a.fdiv b) s.toks, .int (a.fmod b) (s.toks + 1)]) hO.size ⟨_, Heap.get?_push_size _ rfl, rfl, 0, rfl⟩ (.cons (.int _ _) (.cons (.int _ _) .nil)))) (.inl (PyProof.noPylong_of_log2 hs))

/-! methods -/
section
variable {n : Nat} {sc : Scope} {ρ : List (Nat × PV)}
/-- "sep".join(a list of texts) -/
noncomputable def strsOf (ys : List Str) : List PV := ys.map .str
theorem reps_strs {O : Addr → Prop} {h : Heap} : ∀ {ys : List Str} {vs : List Value}, Reps O h vs (strsOf ys) → StrsAre vs ys
  | [], _, r => by cases r; exact .nil
  | y :: ys, _, r => by
    cases r with
    | cons a r => cases a; exact .cons _ _ (reps_strs r)
theorem Ev.meth0 {o : Expr} {name : Str} {apos pos : Pos} {x : Str} {r : PV} {id : String} (ho : Ev n sc ρ o (.str x))
    (hbase : ∀ env, attributeBase o name env (eval o env) = eval o env) (hline : (apos.endLine == pos.line) = true) (slot : Slot "str" name id) (ty : typeOf (.builtin id) = pure (.type "method_descriptor"))
    (hc : Bsp id [.str x] r) : Ev n sc ρ (.Call (.Attribute o name apos) [] [] pos) r := by
  intro w A env O s₀ s hA he hG hL Q E q
  refine wpAny_Call_method_lateS (hbase env) rfl hline (ho w A env O s₀ s hA he hG hL _ _ fun v s₁ e₁ r₁ => ?_)
  cases r₁
  rename_i t
  refine ⟨"str", id, F.plainAttrs_str, slot, ty, typeIs_str _ _ _, (fun _ e => nomatch e), ?_⟩
  exact Calls.callWith_builtin rfl (PyProof.Rows.evalArgs_none (hc w A O s₁ _ hA.zero (hL.own.step e₁) (.cons (.str _ _) .nil) _ _ fun v s₃ e₃ r₃ => q v s₃ (e₁.trans e₃) r₃))
theorem Ev.meth {o e : Expr} {name : Str} {apos pos : Pos} {es : List Expr} {x : Str} {xs : List PV} {r : PV} {id : String} (ho : Ev n sc ρ o (.str x)) (ha : Evs n sc ρ (e :: es) xs)
    (hbase : ∀ env, attributeBase o name env (eval o env) = eval o env)
    (hfew : ∀ env, ((backTo pos (starEach (e :: es) env)).all (fun x => !x.1) && (backToKw pos (keywordEach [] env)).all (fun x => x.1.isSome)
      && decide ((e :: es).length + ([] : List Keyword).length + (if ([] : List Keyword).isEmpty then 0 else 1) < 30)) = true)
    (hline : (apos.endLine == pos.line) = true) (slot : Slot "str" name id) (ty : typeOf (.builtin id) = pure (.type "method_descriptor"))
    (hplain : ∀ env, (backTo pos (starEach (e :: es) env)).any (·.1) = false) (hp : ∀ env, starEach (e :: es) env = (false, eval e env) :: starEach es env)
    (hc : Bsp id (.str x :: xs) r) : Ev n sc ρ (.Call (.Attribute o name apos) (e :: es) [] pos) r := by
  intro w A env O s₀ s hA he hG hL Q E q
  refine wpAny_Call_method_lateS (hbase env) (hfew env) hline (ho w A env O s₀ s hA he hG hL _ _ fun v s₁ e₁ r₁ => ?_)
  cases r₁
  rename_i t
  refine ⟨"str", id, F.plainAttrs_str, slot, ty, typeIs_str _ _ _, (fun _ e => nomatch e), ?_⟩
  have := ha w A env O s₀ s₁ pos hA he (hG.ext e₁) (hL.step e₁) (fun vs s₂ => wpAny (MM w) A (PySem.call (.builtin id) ([.str x t] ++ vs)) Q E s₂) E fun vs s₂ e₂ r₂ =>
    hc w A O s₂ _ hA.zero ((hL.own.step e₁).step e₂) (.cons (.str _ _) r₂) _ _ fun v s₃ e₃ r₃ => q v s₃ ((e₁.trans e₂).trans e₃) r₃
  refine Calls.callWith_builtin (hplain env) ?_
  rw [hp env] at this ⊢
  exact Calls.evalArgs_plain this
end
theorem Bsp.join {x : Str} {ys : List Str} (hok : (ys.map (·.length)).sum + ys.length * x.length ≤ 1000000) : Bsp "str.join" [.str x, .list (strsOf ys)] (.str (Txt.join x ys)) := by
  intro w A O s vs hA hO hr Q E q
  obtain _ | ⟨a, b⟩ := hr
  cases a
  obtain _ | ⟨c, d⟩ := b
  cases d
  cases c with
  | list n g r => exact join_list g (by simpa using reps_strs r) (by omega) fun t' k => q _ _ .tok (.str _ _)
theorem Bsp.lower {x : Str} (h : x.length ≤ 1000000) : Bsp "str.lower" [.str x] (.str (Txt.lower x)) := by
  intro w A O s vs hA hO hr Q E q
  obtain _ | ⟨_ | _, _ | _⟩ := hr
  exact SCL.lower (by omega) fun _ => q _ _ .tok (.str _ _)
theorem reps_of_strs {O : Addr → Prop} {h : Heap} : ∀ l : List (Str × Tok), Reps O h (strValues l) (strsOf (l.map (·.1)))
  | [] => .nil
  | (x, t) :: l => .cons (.str x t) (reps_of_strs l)
theorem Bsp.split2 {x y : Str} {k : Int} (hy : (y.length == 0) = false) (hk : (decide (k < -(2 ^ 63 : Int)) || decide (k ≥ 2 ^ 63)) = false) (hx : x.length ≤ 1000000) :
    Bsp "str.split" [.str x, .str y, .int k] (.list (strsOf (Txt.splitMax x y k))) := by
  intro w A O s vs hA hO hr Q E q
  obtain _ | ⟨_ | _, _ | ⟨_ | _, _ | ⟨_ | _, _ | _⟩⟩⟩ := hr
  rename_i t u v
  have fin : ∀ (l : List (Str × Tok)) (tk : Nat), l.map (·.1) = Txt.splitMax x y k → Q (.ref s.heap.objs.size) { s with toks := tk, heap := s.heap.push { cls := .type "list", data := .seq (strValues l).toArray } } := by
    intro l tk e
    have ex : Ext s { s with toks := tk, heap := s.heap.push { cls := .type "list", data := .seq (strValues l).toArray } } := .of fun b o => Heap.get?_push_of_some _
    refine q _ _ ex (.list hO.size ⟨_, Heap.get?_push_size _ rfl, rfl, 0, rfl⟩ ?_)
    rw [← e]
    exact reps_of_strs l
  have room : (Builtin.Str.partsBetween x (Builtin.Str.occurrences x y 0 x.length (limitOf x k)) y.length).length ≤ sizeLine := by
    have e1 := StrLaws.occ_length_le_len x y 0 x.length (limitOf x k)
    rw [length_partsBetween, sizeLine_eq]; omega
  by_cases h1 : (decide (x.length < y.length) || decide (Builtin.Str.strKind x < Builtin.Str.strKind y)) = true
  · exact call_meets F.slot_str_split (typeIs_str _ _ _) F.entry_str_split (F.args_str_split_3 _ _ _) (meets_str_split_max_cannot_occur x y k t u v hk h1) (fin [(x, t)] s.toks (if_pos h1).symm)
  · by_cases h2 : (Builtin.Str.occurrences x y 0 x.length (limitOf x k)).isEmpty = true
    · exact call_meets F.slot_str_split (typeIs_str _ _ _) F.entry_str_split (F.args_str_split_3 _ _ _) (meets_str_split_max_not_found x y k t u v hk (Bool.eq_false_iff.mpr h1) hy h2) (fin [(x, t)] s.toks ((if_neg h1).trans (if_pos h2)).symm)
    · refine call_meets F.slot_str_split (typeIs_str _ _ _) F.entry_str_split (F.args_str_split_3 _ _ _) (meets_str_split_sep_max x y k t u v hk (Bool.eq_false_iff.mpr h1) hy (Bool.eq_false_iff.mpr h2) (by rw [sizeLine_eq]; omega) room) ?_
      have := fin (numbered s.toks _) (s.toks + (Builtin.Str.partsBetween x (Builtin.Str.occurrences x y 0 x.length (limitOf x k)) y.length).length) ((numbered_texts _ _).trans ((if_neg h1).trans (if_neg h2)).symm)
      rw [← strsFrom_eq] at this
      exact this
end Mine
namespace Mine

/-! what a step of an iterator may touch -/
structure Mv (fp : List Addr) (gs : List Nat) (s s' : Shared) : Prop where
  heap : ∀ b o, b ∉ fp → s.heap.get? b = some o → s'.heap.get? b = some o
  gens : ∀ (i : Nat) x, i ∉ gs → s.gens[i]? = some x → s'.gens[i]? = some x
  bare : AllBare s.gens → AllBare s'.gens
  os : s'.os = s.os
mutual
theorem Rep.kept {O : Addr → Prop} {h h' : Heap} (hk : ∀ b o its k, ¬ O b → h.get? b = some o → o.data = .seq its k → h'.get? b = some o) : ∀ {v : Value} {x : PV}, Rep O h v x → Rep O h' v x
  | _, _, .none => .none
  | _, _, .bool b => .bool b
  | _, _, .int i t => .int i t
  | _, _, .str x t => .str x t
  | _, _, .list n g r => .list n (let ⟨o, e, c, k, d⟩ := g; ⟨o, hk _ o _ k n e d, c, k, d⟩) (Reps.kept hk r)
  | _, _, .tup n g r => .tup n (let ⟨o, e, c, k, d⟩ := g; ⟨o, hk _ o _ k n e d, c, k, d⟩) (Reps.kept hk r)
theorem Reps.kept {O : Addr → Prop} {h h' : Heap} (hk : ∀ b o its k, ¬ O b → h.get? b = some o → o.data = .seq its k → h'.get? b = some o) : ∀ {vs : List Value} {xs : List PV}, Reps O h vs xs → Reps O h' vs xs
  | _, _, .nil => .nil
  | _, _, .cons a r => .cons (Rep.kept hk a) (Reps.kept hk r)
end
theorem gf_hide {s₀ s : Shared} {fp : List Addr} (hG : GF s₀.heap) (e : Ext s₀ s) (h : ∀ b ∈ fp, s₀.heap.get? b = none) : GF (hideAll s.heap fp) :=
  hG.keeps fun b o eb => hideAll_get _ (e.heap b o eb) fun hb => by rw [h b hb] at eb; cases eb
/-- an iterator over data: fp, gs its own objects and generators -/
structure Itr (w : World) (O : Addr → Prop) (I : Addr) (xs : List PV) (fp : List Addr) (gs : List Nat) (J : Nat → Shared → Prop) : Prop where
  noseq : ∀ i s b o its k, J i s → b ∈ fp → s.heap.get? b = some o → o.data ≠ .seq its k
  cls : ∀ i s, J i s → ∃ o n, s.heap.get? I = some o ∧ o.cls = .type n ∧ ["enumerate", "zip", "dict_itemiterator", "dict_reverseitemiterator", "odict_iterator", "itertools.zip_longest", "itertools.pairwise"].contains n = false
  frame : ∀ i s s', J i s → (∀ b ∈ fp, ∀ o, s.heap.get? b = some o → s'.heap.get? b = some o) → (∀ b o its k, ¬ O b → s.heap.get? b = some o → o.data = .seq its k → s'.heap.get? b = some o) →
    (∀ g ∈ gs, ∀ x, s.gens[g]? = some x → s'.gens[g]? = some x) → GF (hideAll s'.heap fp) → J i s'
  self : ∀ i s A Q E, J i s → Q (.ref I) s → wpAny (MM w) A (pyIter (.ref I)) Q E s
  item : ∀ i s x A Q E, Rm 3 A → J i s → xs[i]? = some x → (∀ v s', Mv fp gs s s' → J (i + 1) s' → Rep O s'.heap v x → Q (some v) s') → wpAny (MM w) A (pyNext (.ref I)) Q E s
  done : ∀ s A Q E, Rm 3 A → J xs.length s → (∀ s', Mv fp gs s s' → Q none s') → wpAny (MM w) A (pyNext (.ref I)) Q E s
/-- the same, under A: what the iterator owns may grow -/
structure ItrG (w : World) (A : Around) (O : Addr → Prop) (I : Addr) (xs : List PV) (gs : List Nat) (J : Nat → List Addr → Shared → Prop) : Prop where
  noseq : ∀ i fp s b o its k, J i fp s → b ∈ fp → s.heap.get? b = some o → o.data ≠ .seq its k
  cls : ∀ i fp s, J i fp s → ∃ o n, s.heap.get? I = some o ∧ o.cls = .type n ∧ ["enumerate", "zip", "dict_itemiterator", "dict_reverseitemiterator", "odict_iterator", "itertools.zip_longest", "itertools.pairwise"].contains n = false
  frame : ∀ i fp s s', J i fp s → (∀ b ∈ fp, ∀ o, s.heap.get? b = some o → s'.heap.get? b = some o) → (∀ b o its k, ¬ O b → s.heap.get? b = some o → o.data = .seq its k → s'.heap.get? b = some o) →
    (∀ g ∈ gs, ∀ x, s.gens[g]? = some x → s'.gens[g]? = some x) → GF (hideAll s'.heap fp) → J i fp s'
  self : ∀ i fp s A Q E, J i fp s → Q (.ref I) s → wpAny (MM w) A (pyIter (.ref I)) Q E s
  item : ∀ i fp s x Q E, Rm 3 A → Own O s → J i fp s → xs[i]? = some x → (∀ v s' fp', (∀ b ∈ fp', b ∈ fp ∨ s.heap.get? b = none) → Mv fp gs s s' → J (i + 1) fp' s' → Rep O s'.heap v x → Q (some v) s') → wpAny (MM w) A (pyNext (.ref I)) Q E s
  done : ∀ fp s Q E, Rm 3 A → Own O s → J xs.length fp s → (∀ s', Mv fp gs s s' → Q none s') → wpAny (MM w) A (pyNext (.ref I)) Q E s
theorem Itr.toG {w : World} {O : Addr → Prop} {I : Addr} {xs : List PV} {fp : List Addr} {gs : List Nat} {J : Nat → Shared → Prop} {A : Around} (it : Itr w O I xs fp gs J) : ItrG w A O I xs gs (fun i fp' s => fp' = fp ∧ J i s) where
  noseq := fun i fp' s b o its k h => by obtain ⟨rfl, h⟩ := h; exact it.noseq i s b o its k h
  cls := fun i fp' s h => it.cls i s h.2
  frame := fun i fp' s s' h h1 h2 h3 h4 => by obtain ⟨rfl, h⟩ := h; exact ⟨rfl, it.frame i s s' h h1 h2 h3 h4⟩
  self := fun i fp' s A Q E h => it.self i s A Q E h.2
  item := fun i fp' s x Q E hA hO h hx q => by obtain ⟨rfl, h⟩ := h; exact it.item i s x A Q E hA h hx fun v s' m J' r => q v s' fp' (fun b hb => .inl hb) m ⟨rfl, J'⟩ r
  done := fun fp' s Q E hA hO h q => by obtain ⟨rfl, h⟩ := h; exact it.done s A Q E hA h q
noncomputable def EvI (n : Nat) (sc : Scope) (ρ : List (Nat × PV)) (iter : Expr) (xs : List PV) : Prop :=
  ∀ (w : World) (A : Around) (env : Env) (O : Addr → Prop) (s₀ s : Shared), Rm n A → EnvOk env sc → GF s.heap → Loc s₀ env O ρ s →
    ∀ (Q : Value → Shared → Prop) (E : Value → Shared → Prop), (∀ I fp gs s', Ext s s' → (∀ O' : Addr → Prop, (∀ a, O a → O' a) → (∀ a, O' a → O a ∨ s'.heap.get? a = none) → ∃ J, ItrG w A O' I xs gs J ∧ J 0 fp s') → (∀ b ∈ fp, s.heap.get? b = none ∧ ∃ o, s'.heap.get? b = some o) → (∀ g ∈ gs, s.gens.size ≤ g) → Q (.ref I) s') →
      wpAny (MM w) A (eval iter env) (fun x s₁ => wpAny (MM w) A (pyIter x) Q E s₁) E s

theorem wp_letOwned {w : World} {A : Around} {E : Value → Shared → Prop} {s : Shared} {target : Expr} {r : Addr} {v : Value} {o : Obj} {n : String} {Q : Unit → Shared → Prop} (ho : s.heap.get? r = some o) (hc : o.cls = .type n)
    (hn : ["enumerate", "zip", "dict_itemiterator", "dict_reverseitemiterator", "odict_iterator", "itertools.zip_longest", "itertools.pairwise"].contains n = false) (q : Q () s) : wpAny (MM w) A (letOwnedTupleGo target (.ref r) v) Q E s := by
  unfold letOwnedTupleGo
  cases target <;> first
    | exact wpAny_pure q
    | (cases v <;> first
        | exact wpAny_pure q
        | (refine wpAny_bind (wpAny_load ho ?_)
           rw [hc]
           cases o.data <;> first
             | exact wpAny_pure q
             | (simp only [hn, Bool.false_and, Bool.false_eq_true, if_false]; exact wpAny_pure q)))

mutual
/-- lists made later may be leant on no more than lists of old -/
theorem Rep.grow {O O' : Addr → Prop} {h : Heap} (hk : ∀ a, O' a → O a ∨ h.get? a = none) : ∀ {v : Value} {x : PV}, Rep O h v x → Rep O' h v x
  | _, _, .none => .none
  | _, _, .bool b => .bool b
  | _, _, .int i t => .int i t
  | _, _, .str x t => .str x t
  | _, _, .list n g r => .list (fun q => (hk _ q).elim n fun z => by obtain ⟨o, e, _⟩ := g; rw [e] at z; cases z) g (Reps.grow hk r)
  | _, _, .tup n g r => .tup (fun q => (hk _ q).elim n fun z => by obtain ⟨o, e, _⟩ := g; rw [e] at z; cases z) g (Reps.grow hk r)
theorem Reps.grow {O O' : Addr → Prop} {h : Heap} (hk : ∀ a, O' a → O a ∨ h.get? a = none) : ∀ {vs : List Value} {xs : List PV}, Reps O h vs xs → Reps O' h vs xs
  | _, _, .nil => .nil
  | _, _, .cons a r => .cons (Rep.grow hk a) (Reps.grow hk r)
end
/-! list iterators -/
theorem itr_list {w : World} {O : Addr → Prop} {I ax : Addr} {vs : List Value} {xs : List PV} (hI : ¬ O ax) (hne : ax ≠ I) :
    Itr w O I xs [I] [] (fun i s => s.heap.IsListIter I ax i ∧ s.heap.IsList ax vs.toArray ∧ Reps O s.heap vs xs) where
  noseq := fun i s b o its k ⟨⟨o', e, _, d⟩, _⟩ hb ho => by
    obtain rfl := List.mem_singleton.mp hb
    rw [e] at ho; cases ho; rw [d]; exact fun q => by cases q
  cls := fun i s ⟨⟨o, e, c, _⟩, _⟩ => ⟨o, _, e, c, by decide⟩
  frame := fun i s s' ⟨⟨o, e, c⟩, ⟨o', e', c', k, d⟩, r⟩ h1 h2 _ _ => ⟨⟨o, h1 I (.head _) o e, c⟩, ⟨o', h2 ax o' _ k hI e' d, c', k, d⟩, r.kept h2⟩
  self := fun i s A Q E ⟨hit, _⟩ q => wpAny_pyIter_listiter hit q
  item := fun i s x A Q E hA ⟨hit, hl, r⟩ hx q => by
    obtain ⟨v, e, rv⟩ := r.get hx
    refine wpAny_pyNext_list_item hit hl (by simpa using e) fun h' hit' hs => ?_
    have nl : ∀ o its k, s.heap.get? I = some o → o.data ≠ .seq its k := fun o its k ho => by
      obtain ⟨o', e', _, d⟩ := hit
      rw [e'] at ho; cases ho; rw [d]; exact fun q => by cases q
    have kp : ∀ b o, b ≠ I → s.heap.get? b = some o → h'.get? b = some o := fun b o hb e => (hs.2 b hb).trans e
    refine q v _ ⟨fun b o hb e => kp b o (fun z => hb (z ▸ List.mem_singleton_self _)) e, fun _ _ _ e => e, fun e => e, rfl⟩ ⟨hit', ?_, r.but nl kp⟩ (rv.but nl kp)
    obtain ⟨o, e, c⟩ := hl; exact ⟨o, kp ax o hne e, c⟩
  done := fun s A Q E hA ⟨hit, hl, r⟩ q => by
    exact wpAny_pyNext_list_end hA.1 hit hl (by simp [r.length]) fun h' hs => q _ ⟨fun b o hb e => hs b o (fun z => hb (z ▸ List.mem_singleton_self _)) e, fun _ _ _ e => e, fun e => e, rfl⟩

section
variable {n : Nat} {sc : Scope} {ρ : List (Nat × PV)}
theorem Loc.fresh' {s₀ s : Shared} {env : Env} {O : Addr → Prop} (l : Loc s₀ env O ρ s) : ∃ o, s.heap.get? env.locals = some o := let ⟨_, ⟨o, _, _, e, _⟩, _⟩ := l.ns; ⟨o, e⟩
theorem EvI.list {iter : Expr} {xs : List PV} (h : Ev n sc ρ iter (.list xs)) : EvI n sc ρ iter xs := by
  intro w A env O s₀ s hA he hG hL Q E q
  refine h w A env O s₀ s hA he hG hL _ _ fun v s₁ e₁ r₁ => ?_
  cases r₁ with
  | list hn g r =>
    rename_i ax vs
    refine wpAny_pyIter_list g ?_
    have e2 : Ext s₁ { s₁ with heap := s₁.heap.push { cls := .type "list_iterator", data := .fields #[.ref ax, .int 0 0] } } := .of (tk := s₁.toks) fun b o => Heap.get?_push_of_some _
    have hax : ax ≠ s₁.heap.objs.size := by
      rintro rfl
      obtain ⟨o, e, _⟩ := g
      exact Nat.lt_irrefl _ (Heap.lt_size e)
    refine q _ [s₁.heap.objs.size] [] _ (e₁.trans e2) (fun O' h1 h2 => ⟨_, (itr_list (ax := ax) (vs := vs) (fun h => ?_) hax).toG, rfl, ⟨_, Heap.get?_push_size _ rfl, rfl, rfl⟩, g.push _, (r.ext e2).grow h2⟩) (fun b hb => ?_) (fun g hg => (nomatch hg))
    · rcases h2 _ h with h | h
      · exact hn h
      · obtain ⟨o, e, _⟩ := g
        rw [e2.heap _ _ e] at h; cases h
    obtain rfl := List.mem_singleton.mp hb
    refine ⟨?_, _, Heap.get?_push_size _ rfl⟩
    cases e : s.heap.get? s₁.heap.objs.size with
    | none => rfl
    | some o => exact absurd (Heap.lt_size (e₁.heap _ _ e)) (Nat.lt_irrefl _)
end

/-! the frame's own part of the heap, hidden -/
theorem St.hide {s₀ s : Shared} {env : Env} {O : Addr → Prop} {ρ : List (Nat × PV)} {ω : Option (Nat × List PV)} {D : Option Addr} (hone : env.cells.length ≤ 1) (z : St s₀ env O ρ ω D s) :
    ∃ s₁ : Shared, Ext s₀ s₁ ∧ St s₁ env O ρ ω D s ∧ (∀ b o, s.heap.get? b = some o → b ≠ env.locals → some b ≠ D → (∀ x c, env.cells.lookup x = some c → b ≠ c) → s₁.heap.get? b = some o) ∧ s₁.gens = s.gens := by
  let hid : List Addr := env.locals :: (D.toList ++ env.cells.map (·.2))
  have hnone : ∀ b, b ∈ hid → (hideAll s.heap hid).get? b = none := fun b hb => hideAll_none _ hb
  have back : ∀ b o, (hideAll s.heap hid).get? b = some o → s.heap.get? b = some o := fun b o e => of_hideAll _ e
  have hone' : env.cells = [] ∨ ∃ p, env.cells = [p] := by
    revert hone; generalize env.cells = l
    intro h
    match l, h with
    | [], _ => exact .inl rfl
    | [p], _ => exact .inr ⟨p, rfl⟩
  have hlook : ∀ p ∈ env.cells, env.cells.lookup p.1 = some p.2 := fun p hp => by
    rcases hone' with e | ⟨q, e⟩
    · rw [e] at hp; cases hp
    · rw [e] at hp ⊢; obtain rfl := List.mem_singleton.mp hp; obtain ⟨a, b⟩ := p; simp
  have hcell : ∀ x c, env.cells.lookup x = some c → c ∈ hid := fun x c hc => by
    refine List.mem_cons_of_mem _ (List.mem_append_right _ ?_)
    rcases hone' with e | ⟨⟨a, b⟩, e⟩
    · rw [e] at hc; cases hc
    · rw [e, List.lookup_cons] at hc
      rw [e]
      split at hc
      · cases hc; exact .head _
      · cases hc
  have fresh0 : ∀ b ∈ hid, s₀.heap.get? b = none := by
    intro b hb
    rcases List.mem_cons.mp hb with rfl | hb
    · exact z.loc.fresh
    · rcases List.mem_append.mp hb with hb | hb
      · cases D with
        | none => cases hb
        | some d =>
          obtain rfl : b = d := by simpa using hb
          have zf := z.fill
          cases ω with
          | none => exact zf.elim
          | some p => exact zf.new
      · obtain ⟨p, hp, rfl⟩ := List.mem_map.mp hb
        exact (z.cell _ _ (hlook p hp)).1
  have hmem : ∀ b, b ∈ hid → b = env.locals ∨ some b = D ∨ ∃ x, env.cells.lookup x = some b := fun b hb => by
    rcases List.mem_cons.mp hb with rfl | hb
    · exact .inl rfl
    · rcases List.mem_append.mp hb with hb | hb
      · cases D with
        | none => cases hb
        | some d => exact .inr (.inl (by rw [show b = d by simpa using hb]))
      · obtain ⟨p, hp, rfl⟩ := List.mem_map.mp hb
        exact .inr (.inr ⟨_, hlook p hp⟩)
  have e0 : Ext s₀ { s with heap := hideAll s.heap hid } :=
    ⟨fun b o e => hideAll_get _ (z.ext.heap b o e) (fun hb => by (rw [fresh0 b hb] at e; cases e)), z.ext.gens, z.ext.bare, z.ext.os⟩
  have e1 : Ext { s with heap := hideAll s.heap hid } s := ⟨fun b o e => back b o e, fun _ _ e => e, fun e => e, rfl⟩
  refine ⟨{ s with heap := hideAll s.heap hid }, e0, ⟨fun x c hc => ⟨hnone _ (hcell x c hc), (z.cell x c hc).2⟩, ⟨e1, hnone _ (.head _), z.loc.own, z.loc.ns⟩, ?_⟩, fun b o e h1 h2 h3 => hideAll_get _ e fun hb => ?_, rfl⟩
  · have zf := z.fill
    cases ω with
    | none => cases D <;> exact zf
    | some p => cases D with
      | none => exact zf
      | some d => exact ⟨hnone _ (List.mem_cons_of_mem _ (.head _)), zf.out, zf.ns, zf.has⟩
  · rcases hmem b hb with q | q | ⟨x, q⟩
    · exact h1 q
    · exact h2 q
    · exact h3 x b q rfl
theorem St.rebase {s₀ s₁ s : Shared} {env : Env} {O : Addr → Prop} {ρ : List (Nat × PV)} {ω : Option (Nat × List PV)} {D : Option Addr} (z : St s₁ env O ρ ω D s) (e : Ext s₀ s₁) : St s₀ env O ρ ω D s := by
  have hn : ∀ b, s₁.heap.get? b = none → s₀.heap.get? b = none := fun b h => by
    cases q : s₀.heap.get? b with
    | none => rfl
    | some o => rw [e.heap _ _ q] at h; cases h
  refine ⟨fun x c hc => ⟨hn _ (z.cell x c hc).1, (z.cell x c hc).2⟩, ⟨e.trans z.loc.ext, hn _ z.loc.fresh, z.loc.own, z.loc.ns⟩, ?_⟩
  have zf := z.fill
  cases ω with
  | none => cases D <;> exact zf
  | some p => cases D with
    | none => exact zf
    | some d => exact ⟨hn _ zf.new, zf.out, zf.ns, zf.has⟩

/-- an iterator's own step leaves the frame as it is -/
theorem St.mv {s₀ s s' : Shared} {env : Env} {O : Addr → Prop} {ρ : List (Nat × PV)} {ω : Option (Nat × List PV)} {D : Option Addr} {fp : List Addr} {gs : List Nat} (z : St s₀ env O ρ ω D s) (m : Mv fp gs s s')
    (hns : ∀ b ∈ fp, ∀ o its k, s.heap.get? b = some o → o.data ≠ .seq its k)
    (h0 : ∀ b ∈ fp, s₀.heap.get? b = none) (hL : env.locals ∉ fp) (hD : ∀ d, D = some d → d ∉ fp) (hC : ∀ x c, env.cells.lookup x = some c → c ∉ fp) (hO : ∀ a, O a → a ∉ fp) (hg : ∀ g ∈ gs, s₀.gens.size ≤ g) : St s₀ env O ρ ω D s' := by
  have keep : ∀ b o its k, ¬ within O D b → s.heap.get? b = some o → o.data = .seq its k → s'.heap.get? b = some o := fun b o its k _ e d => m.heap b o (fun hb => hns b hb o its k e d) e
  have keep' : ∀ b o its k, s.heap.get? b = some o → o.data = .seq its k → s'.heap.get? b = some o := fun b o its k e d => m.heap b o (fun hb => hns b hb o its k e d) e
  have hx : Ext s₀ s' := ⟨fun b o e => m.heap b o (fun hb => by (rw [h0 b hb] at e; cases e)) (z.ext.heap b o e), fun i x e => m.gens i x (fun hi => by
      have := hg i hi
      rw [Array.getElem?_eq_none this] at e; cases e) (z.ext.gens i x e), fun e => m.bare (z.ext.bare e), m.os.trans z.ext.os⟩
  obtain ⟨mm, ⟨oL, es, ep, hoL, rL⟩, hr⟩ := z.loc.ns
  refine ⟨fun x c hc => ?_, ⟨hx, z.loc.fresh, fun a ha => ?_, mm, ⟨oL, es, ep, m.heap _ _ hL hoL, rL⟩, fun p hp y hy => ?_⟩, ?_⟩
  · obtain ⟨a, v, ⟨o, e, d⟩⟩ := z.cell x c hc
    exact ⟨a, v, o, m.heap c o (hC x c hc) e, d⟩
  · obtain ⟨o, e⟩ := z.loc.own a ha
    refine ⟨o, m.heap a o ?_ e⟩
    rcases ha with ha | ha
    · exact hO a ha
    · exact hD a ha.symm
  · obtain ⟨v, hv, r⟩ := hr p hp y hy
    refine ⟨v, ?_, r.kept keep⟩
    rcases hv with q | ⟨q, c, hc, ⟨o, e, d⟩⟩
    · exact .inl q
    · exact .inr ⟨q, c, hc, o, m.heap c o (hC y c hc) e, d⟩
  · have zf := z.fill
    cases ω with
    | none => cases D <;> exact zf
    | some p => cases D with
      | none => exact zf
      | some d =>
        obtain ⟨vs, ⟨k, e⟩, r⟩ := zf.has
        refine ⟨zf.new, zf.out, ?_, vs, ⟨k, keep' d _ _ k e rfl⟩, r.kept fun b o its k hb e d => keep b o its k hb e d⟩
        obtain ⟨m₂, hm₂, h2⟩ := zf.ns
        obtain rfl := ns_uniq hm₂ (⟨oL, es, ep, hoL, rL⟩ : s.heap.Ns env.locals mm)
        exact ⟨_, ⟨oL, es, ep, m.heap _ _ hL hoL, rL⟩, h2⟩
end Mine
namespace Mine

/-! targets of a loop -/
/-- what storing x at the target does -/
noncomputable def Tg (n : Nat) (sc : Scope) (target : Expr) (x : PV) (ρ : List (Nat × PV)) (ω : Option (Nat × List PV)) (ρ' : List (Nat × PV)) : Prop :=
  ∀ (w : World) (A : Around) (env : Env) (O : Addr → Prop) (D : Option Addr) (s₀ s : Shared) (v : Value), Rm n A → EnvOk env sc → St s₀ env O ρ ω D s → Rep (within O D) s.heap v x →
    ∀ (Q : Unit → Shared → Prop) (E : Value → Shared → Prop), (∀ s', St s₀ env O ρ' ω D s' → (∀ b o, b ≠ env.locals → s.heap.get? b = some o → s'.heap.get? b = some o) → s'.gens = s.gens → Q () s') → wpAny (MM w) A (assign target env v) Q E s
/-- what is an iterator's own is none of the frame's -/
structure Frs (s₀ : Shared) (env : Env) (O : Addr → Prop) (D : Option Addr) (fp : List Addr) : Prop where
  f0 : ∀ b ∈ fp, s₀.heap.get? b = none
  fL : env.locals ∉ fp
  fD : ∀ d, D = some d → d ∉ fp
  fC : ∀ x c, env.cells.lookup x = some c → c ∉ fp
  fO : ∀ a, O a → a ∉ fp
theorem Frs.grow {s₀ s : Shared} {env : Env} {O : Addr → Prop} {ρ : List (Nat × PV)} {ω : Option (Nat × List PV)} {D : Option Addr} {fp fp' : List Addr} (hS : St s₀ env O ρ ω D s) (F : Frs s₀ env O D fp) (h : ∀ b ∈ fp', b ∈ fp ∨ s.heap.get? b = none) : Frs s₀ env O D fp' where
  f0 := fun b hb => (h b hb).elim (F.f0 b) fun hn => by
    cases e : s₀.heap.get? b with
    | none => rfl
    | some o => have := hS.ext.heap _ _ e; rw [hn] at this; cases this
  fL := fun hb => (h _ hb).elim F.fL fun hn => by obtain ⟨o, e⟩ := hS.loc.fresh'; rw [hn] at e; cases e
  fD := fun d hd hb => (h _ hb).elim (F.fD d hd) fun hn => by obtain ⟨o, e⟩ := hS.loc.own d (.inr hd.symm); rw [hn] at e; cases e
  fC := fun x c hc hb => (h _ hb).elim (F.fC x c hc) fun hn => by obtain ⟨_, v, o, e, _⟩ := hS.cell x c hc; rw [hn] at e; cases e
  fO := fun a ha hb => (h _ hb).elim (F.fO a ha) fun hn => by obtain ⟨o, e⟩ := hS.loc.own a (.inl ha); rw [hn] at e; cases e
theorem Frs.nil {s₀ : Shared} {env : Env} {O : Addr → Prop} {D : Option Addr} : Frs s₀ env O D [] := ⟨fun b h => (nomatch h), fun h => (nomatch h), fun d _ h => (nomatch h), fun _ _ _ h => (nomatch h), fun _ _ h => (nomatch h)⟩

section
variable {t : Bool} {n : Nat} {sc : Scope} {ρ ρ' : List (Nat × PV)} {ω : Option (Nat × List PV)} {out : Fl} {rest : List Stmt}
theorem Tg.name {x : Str} {p : Pos} {u : PV} (hx : decide (ky x < 57) = true) (hl : sc.names.lookup x = some .local) (hω : notFill ω x = true) : Tg n sc (.Name x p) u ρ ω ((ky x, u) :: drp (ky x) ρ) :=
  fun w A env O D s₀ s v hA he hS r Q E q => wpAny_assign_Name (wp_store he hS r hx hl hω fun s' S' k g => q s' S' k g)

/-- a while, by what the names hold before each turn -/
theorem Xs.while {test : Expr} {body : List Stmt} {pos : Pos} (N : Nat) (R : Nat → List (Nat × PV)) (W : Nat → Option (Nat × List PV)) (h0 : ∀ p ∈ R 0, p ∈ ρ) (hW : W 0 = ω) (ht : ∀ i, i < N → EvT n sc (R i) test true)
    (hb : ∀ i, i < N → Xs t n sc (R i) (W i) body (.next (R (i + 1)) (W (i + 1)))) (hend : EvT n sc (R N) test false) (k : Xs t n sc (R N) (W N) rest out) : Xs t n sc ρ ω (.While test body [] pos :: rest) out := by
  subst hW
  intro w A env O D s₀ s hA he hG hS Q E q
  refine wpAny_execs_cons (wpAny_While ?_)
  refine codeAny_whileLoop (fun m s' => ∃ i D', i ≤ N ∧ m = N - i ∧ (t = true → D' = D) ∧ St s₀ env O (R i) (W i) D' s') (fun m s' => ?_) N ⟨0, D, Nat.zero_le _, rfl, fun _ => rfl, hS.sub h0⟩
  rintro ⟨i, D', hi, rfl, hD, S'⟩
  by_cases hlt : i < N
  · refine ht i hlt w A env _ s₀ s' hA he (S'.gf hG) S'.loc _ _ fun s₁ e₁ => ?_
    simp only [if_true]
    exact hb i hlt w A env O D' s₀ s₁ hA he hG (S'.step e₁) _ _ fun s₂ D₂ hD₂ S₂ => ⟨N - (i + 1), by omega, i + 1, D₂, hlt, rfl, fun ht => (hD₂ ht).trans (hD ht), S₂⟩
  · obtain rfl : i = N := by omega
    refine hend w A env _ s₀ s' hA he (S'.gf hG) S'.loc _ _ fun s₁ e₁ => ?_
    simp only [Bool.false_eq_true, if_false]
    exact wpAny_execs_nil (k w A env O D' s₀ s₁ hA he hG (S'.step e₁) Q E (by
      cases out with
      | next ρ ω => exact fun s' D'' hD'' => q s' D'' fun ht => (hD'' ht).trans (hD ht)
      | ret x => exact q))

/-- a for over an iterator -/
theorem Xs.for {target iter : Expr} {body : List Stmt} {pos : Pos} {xs : List PV} (hi : EvI n sc ρ iter xs) (hn : 3 ≤ n) (R : Nat → List (Nat × PV)) (W : Nat → Option (Nat × List PV)) (h0 : ∀ p ∈ R 0, p ∈ ρ) (hW : W 0 = ω)
    (turn : ∀ i x, xs[i]? = some x → ∃ ρ₁, Tg n sc target x (R i) (W i) ρ₁ ∧ Xs true n sc ρ₁ (W i) body (.next (R (i + 1)) (W (i + 1)))) (k : Xs t n sc (R xs.length) (W xs.length) rest out)
    (hs : ∀ env x, foldedSetIterable iter env x = pure x) : Xs t n sc ρ ω (.For target iter body [] pos :: rest) out := by
  subst hW
  intro w A env O D s₀ s hA he hG hS Q E q
  refine wpAny_execs_cons (wpAny_For (hi w A env _ s₀ s hA he (hS.gf hG) hS.loc _ _ fun I fp₀ gs s₁ e₁ itf hfp hgs => ?_) (hs env))
  obtain ⟨J, it, hJ⟩ := itf _ (fun _ h => h) (fun _ h => .inl h)
  have S₁ := hS.step e₁
  have F₀ := Frs.nil.grow hS (fp' := fp₀) fun b hb => .inr (hfp b hb).1
  have fg : ∀ g ∈ gs, s₀.gens.size ≤ g := fun g hg => by
    have h1 := hgs g hg
    have h2 : s₀.gens.size ≤ s.gens.size := by
      rcases Nat.eq_zero_or_pos s₀.gens.size with e | e
      · omega
      · have := hS.ext.gens (s₀.gens.size - 1) _ (Array.getElem?_eq_getElem (by omega))
        have := (Array.getElem?_eq_some_iff.mp this).1
        omega
    omega
  refine codeAny_forLoop_any (fun m s' => ∃ i, i ≤ xs.length ∧ m = xs.length + 1 - i ∧ St s₀ env O (R i) (W i) D s' ∧ ∃ fp, Frs s₀ env O D fp ∧ J i fp s') (fun m s' => ?_) (xs.length + 1) ⟨0, Nat.zero_le _, rfl, S₁.sub h0, fp₀, F₀, hJ⟩
  rintro ⟨i, hi', rfl, S', fp, F, hJ'⟩
  obtain ⟨f0, fL, fD, fC, fO⟩ := id F
  by_cases hlt : i < xs.length
  · obtain ⟨x, hx⟩ : ∃ x, xs[i]? = some x := ⟨_, List.getElem?_eq_getElem hlt⟩
    refine it.item i fp s' x _ _ (hA.less hn) S'.loc.own hJ' hx fun v s₂ fp' hfp' m₂ J₂ r₂ => ?_
    have S₂ := S'.mv m₂ (fun b hb o its k => it.noseq i fp s' b o its k hJ' hb) f0 fL fD fC fO fg
    have F' := F.grow S' hfp'
    obtain ⟨oI, nI, hoI, hcI, hnI⟩ := it.cls _ _ _ J₂
    refine wp_letOwned hoI hcI hnI ?_
    obtain ⟨ρ₁, htg, hbody⟩ := turn i x hx
    refine htg w A env O D s₀ s₂ v hA he S₂ r₂ _ _ fun s₃ S₃ k₃ g₃ => ?_
    have J₃ : J (i + 1) fp' s₃ := it.frame _ _ _ _ J₂ (fun b hb o e => k₃ b o (fun z => F'.fL (z ▸ hb)) e) (fun b o its k _ e d => k₃ b o (fun z => by
      obtain ⟨m, ⟨oL, _, _, hoL, hdL, _⟩, _⟩ := S₂.loc.ns
      rw [z, hoL] at e; cases e; rw [hdL] at d; cases d) e) (fun g _ x e => by rw [g₃]; exact e) (gf_hide hG S₃.ext F'.f0)
    obtain ⟨sh, eh, Sh, hh, hg⟩ := S₃.hide he.one
    refine hbody w A env O D sh s₃ hA he (hG.ext eh) Sh _ _ fun s₄ D₄ hD₄ S₄ => ?_
    obtain rfl := hD₄ rfl
    have S₄' := S₄.rebase eh
    refine ⟨xs.length + 1 - (i + 1), by omega, i + 1, hlt, rfl, S₄', fp', F', it.frame _ _ _ _ J₃ (fun b hb o e => S₄.ext.heap _ _ (hh b o e (fun z => F'.fL (z ▸ hb)) (fun z => F'.fD b z.symm hb) fun x c hc z => F'.fC x c hc (z ▸ hb)))
      (fun b o its k hb e d => S₄.ext.heap _ _ (hh b o e (fun z => ?_) (fun z => hb (.inr z)) fun x c hc z => ?_)) (fun g _ x e => S₄.ext.gens g x (by rw [hg]; exact e)) (gf_hide hG S₄'.ext F'.f0)⟩
    · obtain ⟨m, ⟨oL, _, _, hoL, hdL, _⟩, _⟩ := S₃.loc.ns
      rw [z, hoL] at e; cases e; rw [hdL] at d; cases d
    · obtain ⟨_, v, o', e', d'⟩ := S₃.cell x c hc
      rw [z, e'] at e; cases e; rw [d'] at d; cases d
  · obtain rfl : i = xs.length := by omega
    refine it.done fp s' _ _ (hA.less hn) S'.loc.own hJ' fun s₂ m₂ => ?_
    have S₂ := S'.mv m₂ (fun b hb o its k => it.noseq _ fp s' b o its k hJ' hb) f0 fL fD fC fO fg
    exact wpAny_execs_nil (k w A env O D s₀ s₂ hA he hG S₂ Q E q)
end
end Mine
namespace Mine

/-! texts, sign by sign -/
noncomputable def signsOf (x : Str) : List PV := x.cps.toList.map fun c => .str ⟨#[c]⟩
theorem itr_str {w : World} {O : Addr → Prop} {I : Addr} {x : Str} {t : Tok} : Itr w O I (signsOf x) [I] [] (fun i s => s.heap.IsStrIter I (strIterType x) x t i) where
  noseq := fun i s b o its k ⟨o', e, _, d⟩ hb ho => by
    obtain rfl := List.mem_singleton.mp hb
    rw [e] at ho; cases ho; rw [d]; exact fun q => by cases q
  cls := fun i s ⟨o, e, c, _⟩ => ⟨o, _, e, c, by unfold strIterType; split <;> decide⟩
  frame := fun i s s' ⟨o, e, c⟩ h1 _ _ _ => ⟨o, h1 I (.head _) o e, c⟩
  self := fun i s A Q E hit q => by
    cases ha : x.cps.all (· < 128)
    · rw [show strIterType x = "str_iterator" by simp [strIterType, ha]] at hit
      exact wpAny_pyIter_striter_wide hit q
    · rw [show strIterType x = "str_ascii_iterator" by simp [strIterType, ha]] at hit
      exact wpAny_pyIter_striter_ascii hit q
  item := fun i s x' A Q E hA hit hx q => by
    obtain ⟨c, hc, rfl⟩ : ∃ c, x.cps[i]? = some c ∧ x' = .str ⟨#[c]⟩ := by
      simp only [signsOf, List.getElem?_map, Option.map_eq_some_iff, Array.getElem?_toList] at hx
      obtain ⟨c, h1, h2⟩ := hx; exact ⟨c, h1, h2.symm⟩
    have fin : ∀ h', h'.IsStrIter I (strIterType x) x t (i + 1) → Heap.SameBut I s.heap h' → Q (some (.str ⟨#[c]⟩ s.toks)) { s with heap := h', toks := s.toks + 1 } := fun h' hit' hs =>
      q _ _ ⟨fun b o hb e => (hs.2 b fun z => hb (z ▸ List.mem_singleton_self _)).trans e, fun _ _ _ e => e, fun e => e, rfl⟩ hit' (.str _ _)
    cases ha : x.cps.all (· < 128)
    · have e : strIterType x = "str_iterator" := by simp [strIterType, ha]
      rw [e] at hit fin
      exact wpAny_pyNext_wide_item hit hc fin
    · have e : strIterType x = "str_ascii_iterator" := by simp [strIterType, ha]
      rw [e] at hit fin
      exact wpAny_pyNext_ascii_item hit hc fin
  done := fun s A Q E hA hit q => by
    have hx : x.cps[(signsOf x).length]? = none := by simp [signsOf]
    have fin : ∀ h', Heap.ExtBut I s.heap h' → Q none { s with heap := h' } := fun h' hs => q _ ⟨fun b o hb e => hs b o (fun z => hb (z ▸ List.mem_singleton_self _)) e, fun _ _ _ e => e, fun e => e, rfl⟩
    cases ha : x.cps.all (· < 128)
    · have e : strIterType x = "str_iterator" := by simp [strIterType, ha]
      rw [e] at hit
      exact wpAny_pyNext_wide_end hA.1 hit hx fin
    · have e : strIterType x = "str_ascii_iterator" := by simp [strIterType, ha]
      rw [e] at hit
      exact wpAny_pyNext_ascii_end hA.1 hit hx fin

/-! ranges from nought, or from a to b -/
noncomputable def intsFrom (a : Int) (n : Nat) : List PV := (List.range n).map fun k : Nat => .int (a + (k : Int))
theorem itr_range {w : World} {O : Addr → Prop} {I : Addr} {a : Int} {n : Nat} : Itr w O I (intsFrom a n) [I] [] (fun i s => i ≤ n ∧ IsRangeIter s.heap I (a + i) ((n : Int) - i) 1) where
  noseq := fun i s b o its k ⟨_, e⟩ hb ho => by
    obtain rfl := List.mem_singleton.mp hb
    rw [show s.heap.get? b = _ from e] at ho; cases ho; exact fun q => by cases q
  cls := fun i s ⟨_, e⟩ => ⟨_, _, e, rfl, by decide⟩
  frame := fun i s s' ⟨h, e⟩ h1 _ _ _ => ⟨h, h1 I (.head _) _ e⟩
  self := fun i s A Q E ⟨_, hit⟩ q => wpAny_pyIter_rangeiter hit q
  item := fun i s x A Q E hA ⟨hi, hit⟩ hx q => by
    obtain ⟨hlt, rfl⟩ : i < n ∧ x = .int (a + i) := by
      simp only [intsFrom, List.getElem?_map, Option.map_eq_some_iff] at hx
      obtain ⟨c, h1, h2⟩ := hx
      have := List.getElem?_eq_some_iff.mp h1
      obtain ⟨h3, h4⟩ := this
      simp at h3 h4
      exact ⟨h3, by rw [← h2, h4]⟩
    refine wpAny_pyNext_range_item hit (by omega) fun h' hit' hs => ?_
    refine q _ _ ⟨fun b o hb e => (hs.2 b fun z => hb (z ▸ List.mem_singleton_self _)).trans e, fun _ _ _ e => e, fun e => e, rfl⟩ ⟨hlt, ?_⟩ (.int _ _)
    have e1 : a + (i : Int) + 1 = a + ((i + 1 : Nat) : Int) := by omega
    have e2 : (n : Int) - i - 1 = (n : Int) - ((i + 1 : Nat) : Int) := by omega
    rw [← e1, ← e2]; exact hit'
  done := fun s A Q E hA ⟨_, hit⟩ q => by
    have e : (intsFrom a n).length = n := by simp [intsFrom]
    rw [e] at hit
    exact wpAny_pyNext_range_end hA.1 hit (by omega) fun h' hs => q _ ⟨fun b o hb e => hs b o (fun z => hb (z ▸ List.mem_singleton_self _)) e, fun _ _ _ e => e, fun e => e, rfl⟩

section
variable {n : Nat} {sc : Scope} {ρ : List (Nat × PV)}
theorem ext_fresh {s s₁ : Shared} (e : Ext s s₁) : s.heap.get? s₁.heap.objs.size = none := by
  cases q : s.heap.get? s₁.heap.objs.size with
  | none => rfl
  | some o => exact absurd (Heap.lt_size (e.heap _ _ q)) (Nat.lt_irrefl _)
theorem EvI.str {iter : Expr} {x : Str} (h : Ev n sc ρ iter (.str x)) : EvI n sc ρ iter (signsOf x) := by
  intro w A env O s₀ s hA he hG hL Q E q
  refine h w A env O s₀ s hA he hG hL _ _ fun v s₁ e₁ r₁ => ?_
  cases r₁
  rename_i t
  refine wpAny_pyIter_strU ?_
  have e2 : Ext s₁ { s₁ with heap := s₁.heap.push { cls := .type (strIterType x), data := .fields #[.str x t, .int 0 0] } } := .of (tk := s₁.toks) fun b o => Heap.get?_push_of_some _
  refine q _ [s₁.heap.objs.size] [] _ (e₁.trans e2) (fun O' _ _ => ⟨_, (itr_str (x := x) (t := t)).toG, rfl, _, Heap.get?_push_size _ rfl, rfl, rfl⟩) (fun b hb => ?_) (fun g hg => (nomatch hg))
  obtain rfl := List.mem_singleton.mp hb
  exact ⟨ext_fresh e₁, _, Heap.get?_push_size _ rfl⟩

/-- "range", the start-up's -/
theorem gf_range : ∀ h, GF h → ∃ mg mb, h.Ns mainGlobals mg ∧ mg "range" = Option.none ∧ h.Ns builtinsNs mb ∧ mb "range" = some (.type "range") := gfb_range
theorem gf_list : ∀ h, GF h → ∃ mg mb, h.Ns mainGlobals mg ∧ mg "list" = Option.none ∧ h.Ns builtinsNs mb ∧ mb "list" = some (.type "list") := gfb_list
theorem small_range {a b : Int} (h0 : -1000000 ≤ a) (h1 : a ≤ 1000000) (h2 : -1000000 ≤ b) (h3 : b ≤ 1000000) : Builtin.Range.small a b 1 = true := by
  unfold Builtin.Range.small
  rw [rangeSize_one]
  have hf : ∀ i : Int, -3000000 ≤ i → i ≤ 3000000 → Builtin.Range.rangeFitsLong i = true := fun i h h' => by
    unfold Builtin.Range.rangeFitsLong; simp; omega
  have e : (if a < b then b - a else 0) ≤ 3000000 ∧ -3000000 ≤ (if a < b then b - a else 0) := by split <;> omega
  rw [hf a (by omega) (by omega), hf b (by omega) (by omega), hf 1 (by omega) (by omega), hf _ e.2 e.1]
  simp only [Bool.true_and, show (1 : Int) > 0 by decide, if_true, hf (b + (1 - 1)) (by omega) (by omega)]
  simp
theorem EvI.range1 {e : Expr} {p pos : Pos} {k : Nat} (h : Ev n sc ρ e (.int k)) (hk : k ≤ 100000) (hg : sc.names.lookup ("range" : Str) = some .globalImplicit) (hp : ∀ env, starEach [e] env = (false, eval e env) :: starEach [] env) :
    EvI n sc ρ (.Call (.Name "range" p) [e] [] pos) (intsFrom 0 k) := by
  intro w A env O s₀ s hA he hG hL Q E q
  obtain ⟨mg, mb, hmg, hno, hmb, hyes⟩ := gf_range _ hG
  refine Call_ (Calls.Name_function_global he.kind (by unfold Env.kindOf; rw [he.scope]; exact hg) (Calls.loadGlobal_builtin (by rw [he.globals]; exact hmg) hno (by rw [he.builtins]; exact hmb) hyes ?_) (by decide +kernel))
  refine PyProof.Rows.callWith_type1 ?_ (hp env)
  refine Evs.cons h Evs.nil hp w A env O s₀ s pos hA he hG hL _ _ fun vs s₁ e₁ r₁ => ?_
  obtain _ | ⟨a, b⟩ := r₁
  cases a; cases b
  rename_i t
  refine call_range_1 ?_
  refine wpAny_pyIter_range (IsRange.new ..) (small_range (by omega) (by omega) (by omega) (by omega)) ?_
  have e2 : Ext s₁ { s₁ with heap := ((s₁.heap.push { cls := .type "range", data := .fields #[.int 0 s₁.toks, .int k t, .int 1 (s₁.toks + 1)] }).push { cls := .type "range_iterator", data := .fields #[rawInt 0, rawInt (Builtin.Range.rangeSize 0 k 1), rawInt 1] }), toks := s₁.toks + 1 + 1 } :=
    .of fun b o x => Heap.get?_push_of_some _ (Heap.get?_push_of_some _ x)
  rw [Heap.size_push]
  have hget := Heap.get?_push_size (s₁.heap.push { cls := .type "range", data := .fields #[.int 0 s₁.toks, .int k t, .int 1 (s₁.toks + 1)] }) (o := { cls := .type "range_iterator", data := .fields #[rawInt 0, rawInt (Builtin.Range.rangeSize 0 k 1), rawInt 1] }) rfl
  rw [Heap.size_push] at hget
  refine q _ [s₁.heap.objs.size + 1] [] _ (e₁.trans e2) (fun O' _ _ => ⟨_, (itr_range (a := 0) (n := k)).toG, rfl, Nat.zero_le _, ?_⟩) (fun b hb => ?_) (fun g hg => (nomatch hg))
  · rw [show Builtin.Range.rangeSize 0 k 1 = (k : Int) - ((0 : Nat) : Int) by rw [rangeSize_one]; split <;> omega] at hget ⊢
    exact hget
  · obtain rfl := List.mem_singleton.mp hb
    refine ⟨?_, _, hget⟩
    cases q : s.heap.get? (s₁.heap.objs.size + 1) with
    | none => rfl
    | some o => exact absurd (Heap.lt_size (e₁.heap _ _ q)) (Nat.not_succ_lt_self)

/-! a tuple's targets -/
theorem Tg.tup2 {x y : Str} {p p' pos : Pos} {k : Nat} {a b : PV} {ω : Option (Nat × List PV)} (hx : decide (ky x < 57) = true) (hl : sc.names.lookup x = some .local) (hω : notFill ω x = true)
    (hy : decide (ky y < 57) = true) (hl' : sc.names.lookup y = some .local) (hω' : notFill ω y = true) :
    Tg n sc (.Tuple [.Name x p, .Name y p'] k pos) (.tup [a, b]) ρ ω ((ky y, b) :: drp (ky y) ((ky x, a) :: drp (ky x) ρ)) := by
  intro w A env O D s₀ s v hA he hS r Q E q
  cases r with
  | tup hn g r =>
    rename_i t vs
    obtain _ | ⟨ra, _ | ⟨rb, _ | _⟩⟩ := r
    rename_i va vb
    refine assign_Tuple_tuple hA.1 g rfl rfl fun h' hx' => ?_
    show wpAny _ _ (assignInOrder [assign (.Name x p) env, assign (.Name y p') env] [va, vb]) Q E _
    have hfr : s.heap.get? s.heap.objs.size = none := ext_fresh (.refl s)
    have ex : Ext s { s with heap := h' } := .of (tk := s.toks) fun b o e => hx' b o (fun z => by rw [z, hfr] at e; cases e) e
    have S₁ := hS.step ex
    have kp1 : ∀ b o, s.heap.get? b = some o → h'.get? b = some o := ex.heap
    unfold assignInOrder
    refine wpAny_bind (wpAny_holding (Tg.name (n := n) hx hl hω w A env O D s₀ _ va hA he S₁ (ra.ext ex) _ _ fun s₂ S₂ k₂ g₂ => ?_))
    have rb₂ : Rep (within O D) s₂.heap vb b := (rb.ext ex).but (ns_noSeq S₁.loc.ns.choose_spec.1) k₂
    unfold assignInOrder
    refine wpAny_bind (wpAny_holding (Tg.name (n := n) hy hl' hω' w A env O D s₀ s₂ vb hA he S₂ rb₂ _ _ fun s₃ S₃ k₃ g₃ => ?_))
    unfold assignInOrder
    exact wpAny_pure (q s₃ S₃ (fun b o hb e => k₃ b o hb (k₂ b o hb (kp1 b o e))) (g₃.trans g₂))
end
end Mine
namespace Mine

/-! list comprehensions -/
/-- a target's store within a comprehension's frame -/
noncomputable def TgL (n : Nat) (sc : Scope) (target : Expr) (x : PV) (ρ ρ' : List (Nat × PV)) : Prop :=
  ∀ (w : World) (A : Around) (env : Env) (O : Addr → Prop) (s₀ s : Shared) (v : Value), Rm n A → EnvOk env sc → Loc s₀ env O ρ s → (∀ y c, env.cells.lookup y = some c → c ≠ env.locals) → Rep O s.heap v x →
    ∀ (Q : Unit → Shared → Prop) (E : Value → Shared → Prop), (∀ s', Loc s₀ env O ρ' s' → (∀ b o, b ≠ env.locals → s.heap.get? b = some o → s'.heap.get? b = some o) → s'.gens = s.gens → Q () s') → wpAny (MM w) A (assign target env v) Q E s
section
variable {n : Nat} {sc : Scope} {ρ : List (Nat × PV)}
theorem TgL.name {x : Str} {p : Pos} {u : PV} (hx : decide (ky x < 57) = true) (hl : sc.names.lookup x = some .local) : TgL n sc (.Name x p) u ρ ((ky x, u) :: drp (ky x) ρ) := by
  intro w A env O s₀ s v hA he hL hc r Q E q
  have hk : env.kindOf x = some .local := by unfold Env.kindOf; rw [he.scope]; exact hl
  obtain ⟨m, hm, _⟩ := hL.ns
  exact wpAny_assign_Name (wpAny_storeName_local hk hm (fun h' hn' hs' => q _ (hL.store r hk (ky_get rfl (of_decide_eq_true hx)) hc hm hn' hs') (fun b o hb e => (hs'.2 b hb).trans e) rfl) (by rw [he.kind]; rfl))
theorem TgL.seq2 {x y : Str} {p p' pos : Pos} {k : Nat} {a b : PV} (hx : decide (ky x < 57) = true) (hl : sc.names.lookup x = some .local)
    (hy : decide (ky y < 57) = true) (hl' : sc.names.lookup y = some .local) :
    TgL n sc (.Tuple [.Name x p, .Name y p'] k pos) (.tup [a, b]) ρ ((ky y, b) :: drp (ky y) ((ky x, a) :: drp (ky x) ρ)) := by
  intro w A env O s₀ s v hA he hL hc r Q E q
  cases r with
  | tup hn g r =>
    rename_i t vs
    obtain _ | ⟨ra, _ | ⟨rb, _ | _⟩⟩ := r
    rename_i va vb
    refine assign_Tuple_tuple hA.1 g rfl rfl fun h' hx' => ?_
    show wpAny _ _ (assignInOrder [assign (.Name x p) env, assign (.Name y p') env] [va, vb]) Q E _
    have hfr : s.heap.get? s.heap.objs.size = none := ext_fresh (.refl s)
    have ex : Ext s { s with heap := h' } := .of (tk := s.toks) fun b o e => hx' b o (fun z => by rw [z, hfr] at e; cases e) e
    have L₁ := hL.step ex
    unfold assignInOrder
    refine wpAny_bind (wpAny_holding (TgL.name (n := n) hx hl w A env O s₀ _ va hA he L₁ hc (ra.ext ex) _ _ fun s₂ L₂ k₂ g₂ => ?_))
    have rb₂ : Rep O s₂.heap vb b := (rb.ext ex).but (ns_noSeq L₁.ns.choose_spec.1) k₂
    unfold assignInOrder
    refine wpAny_bind (wpAny_holding (TgL.name (n := n) hy hl' w A env O s₀ s₂ vb hA he L₂ hc rb₂ _ _ fun s₃ L₃ k₃ g₃ => ?_))
    unfold assignInOrder
    exact wpAny_pure (q s₃ L₃ (fun b o hb e => k₃ b o hb (k₂ b o hb (ex.heap b o e))) (g₃.trans g₂))
theorem TgL.seq3 {x y z : Str} {p p' p'' pos : Pos} {k : Nat} {a b c : PV} (hx : decide (ky x < 57) = true) (hl : sc.names.lookup x = some .local)
    (hy : decide (ky y < 57) = true) (hl' : sc.names.lookup y = some .local) (hz : decide (ky z < 57) = true) (hl'' : sc.names.lookup z = some .local) :
    TgL n sc (.Tuple [.Name x p, .Name y p', .Name z p''] k pos) (.tup [a, b, c]) ρ ((ky z, c) :: drp (ky z) ((ky y, b) :: drp (ky y) ((ky x, a) :: drp (ky x) ρ))) := by
  intro w A env O s₀ s v hA he hL hc r Q E q
  cases r with
  | tup hn g r =>
    rename_i t vs
    obtain _ | ⟨ra, _ | ⟨rb, _ | ⟨rc, _ | _⟩⟩⟩ := r
    rename_i va vb vc
    refine assign_Tuple_tuple hA.1 g rfl rfl fun h' hx' => ?_
    show wpAny _ _ (assignInOrder [assign (.Name x p) env, assign (.Name y p') env, assign (.Name z p'') env] [va, vb, vc]) Q E _
    have hfr : s.heap.get? s.heap.objs.size = none := ext_fresh (.refl s)
    have ex : Ext s { s with heap := h' } := .of (tk := s.toks) fun b o e => hx' b o (fun z => by rw [z, hfr] at e; cases e) e
    have L₁ := hL.step ex
    unfold assignInOrder
    refine wpAny_bind (wpAny_holding (TgL.name (n := n) hx hl w A env O s₀ _ va hA he L₁ hc (ra.ext ex) _ _ fun s₂ L₂ k₂ g₂ => ?_))
    have rb₂ : Rep O s₂.heap vb b := (rb.ext ex).but (ns_noSeq L₁.ns.choose_spec.1) k₂
    have rc₂ : Rep O s₂.heap vc c := (rc.ext ex).but (ns_noSeq L₁.ns.choose_spec.1) k₂
    unfold assignInOrder
    refine wpAny_bind (wpAny_holding (TgL.name (n := n) hy hl' w A env O s₀ s₂ vb hA he L₂ hc rb₂ _ _ fun s₃ L₃ k₃ g₃ => ?_))
    have rc₃ : Rep O s₃.heap vc c := rc₂.but (ns_noSeq L₂.ns.choose_spec.1) k₃
    unfold assignInOrder
    refine wpAny_bind (wpAny_holding (TgL.name (n := n) hz hl'' w A env O s₀ s₃ vc hA he L₃ hc rc₃ _ _ fun s₄ L₄ k₄ g₄ => ?_))
    unfold assignInOrder
    exact wpAny_pure (q s₄ L₄ (fun b o hb e => k₄ b o hb (k₃ b o hb (k₂ b o hb (ex.heap b o e)))) ((g₄.trans g₃).trans g₂))
end

theorem Loc.mv {s₀ s s' : Shared} {env : Env} {O : Addr → Prop} {ρ : List (Nat × PV)} {fp : List Addr} {gs : List Nat} (z : Loc s₀ env O ρ s) (m : Mv fp gs s s')
    (hns : ∀ b ∈ fp, ∀ o its k, s.heap.get? b = some o → o.data ≠ .seq its k)
    (h0 : ∀ b ∈ fp, s₀.heap.get? b = none) (hL : env.locals ∉ fp) (hC : ∀ x c, env.cells.lookup x = some c → c ∉ fp) (hO : ∀ a, O a → a ∉ fp) (hg : ∀ g ∈ gs, s₀.gens.size ≤ g) : Loc s₀ env O ρ s' := by
  have keep : ∀ b o its k, ¬ O b → s.heap.get? b = some o → o.data = .seq its k → s'.heap.get? b = some o := fun b o its k _ e d => m.heap b o (fun hb => hns b hb o its k e d) e
  have hx : Ext s₀ s' := ⟨fun b o e => m.heap b o (fun hb => by (rw [h0 b hb] at e; cases e)) (z.ext.heap b o e), fun i x e => m.gens i x (fun hi => by
      have := hg i hi
      rw [Array.getElem?_eq_none this] at e; cases e) (z.ext.gens i x e), fun e => m.bare (z.ext.bare e), m.os.trans z.ext.os⟩
  obtain ⟨mm, ⟨oL, es, ep, hoL, rL⟩, hr⟩ := z.ns
  refine ⟨hx, z.fresh, fun a ha => ?_, mm, ⟨oL, es, ep, m.heap _ _ hL hoL, rL⟩, fun p hp y hy => ?_⟩
  · obtain ⟨o, e⟩ := z.own a ha
    exact ⟨o, m.heap a o (hO a ha) e⟩
  · obtain ⟨v, hv, r⟩ := hr p hp y hy
    refine ⟨v, ?_, r.kept keep⟩
    rcases hv with q | ⟨q, c, hc, ⟨o, e, d⟩⟩
    · exact .inl q
    · exact .inr ⟨q, c, hc, o, m.heap c o (hC y c hc) e, d⟩

/-- the tests and the element, item by item -/
inductive Comp (n : Nat) (sc : Scope) (target : Expr) (ifs : List Expr) (elt : Expr) (ρ : List (Nat × PV)) : List PV → List PV → Prop
  | nil : Comp n sc target ifs elt ρ [] []
  | take {x : PV} {xs : List PV} {y : PV} {ys : List PV} {ρ' : List (Nat × PV)} : TgL n sc target x ρ ρ' → (∀ p ∈ ρ, p ∈ ρ') → (∀ c ∈ ifs, EvT n sc ρ' c true) → Ev n sc ρ' elt y → Comp n sc target ifs elt ρ xs ys → Comp n sc target ifs elt ρ (x :: xs) (y :: ys)
  | skip {x : PV} {xs ys : List PV} {ρ' : List (Nat × PV)} {c : Expr} : TgL n sc target x ρ ρ' → (∀ p ∈ ρ, p ∈ ρ') → ifs = [c] → EvT n sc ρ' c false → Comp n sc target ifs elt ρ xs ys → Comp n sc target ifs elt ρ (x :: xs) ys
end Mine
namespace Mine

/-! the loop of a list comprehension -/
theorem Loc.atD {s₀ s : Shared} {env : Env} {O : Addr → Prop} {D : Addr} {ρ : List (Nat × PV)} {h' : Heap} (z : Loc s₀ env (within O (some D)) ρ s) (hs : Heap.SameBut D s.heap h') (h0 : s₀.heap.get? D = none) (hL : env.locals ≠ D)
    (hC : ∀ x c, env.cells.lookup x = some c → c ≠ D) (hex : ∃ o, h'.get? D = some o) : Loc s₀ env (within O (some D)) ρ { s with heap := h' } := by
  have kp : ∀ b o, b ≠ D → s.heap.get? b = some o → h'.get? b = some o := fun b o hb e => (hs.2 b hb).trans e
  obtain ⟨m, hm, hr⟩ := z.ns
  refine ⟨⟨fun b o e => kp b o (fun q => by rw [q, h0] at e; cases e) (z.ext.heap b o e), z.ext.gens, z.ext.bare, z.ext.os⟩, z.fresh, fun a ha => ?_, m, ?_, fun p hp y hy => ?_⟩
  · obtain ⟨o, e⟩ := z.own a ha
    by_cases q : a = D
    · exact q ▸ hex
    · exact ⟨o, kp a o q e⟩
  · obtain ⟨oL, es, ep, hoL, rL⟩ := hm
    exact ⟨oL, es, ep, kp _ _ hL hoL, rL⟩
  · obtain ⟨v, hv, r⟩ := hr p hp y hy
    refine ⟨v, ?_, r.mono (fun a h => h) fun b o hb e => kp b o (fun q => hb (.inr (congrArg some q))) e⟩
    rcases hv with q | ⟨q, c, hc, ⟨o, e, d⟩⟩
    · exact .inl q
    · exact .inr ⟨q, c, hc, o, kp c o (hC y c hc) e, d⟩

theorem tests_true {n : Nat} {sc : Scope} {ρ : List (Nat × PV)} : ∀ {ifs : List Expr} {w : World} {A : Around} {env : Env} {O : Addr → Prop} {s₀ s : Shared}, (∀ c ∈ ifs, EvT n sc ρ c true) → Rm n A → EnvOk env sc → GF s.heap → Loc s₀ env O ρ s →
    ∀ {Q : Bool → Shared → Prop} {E : Value → Shared → Prop}, (∀ s', Ext s s' → Q true s') →
    wpAny (MM w) A (forIn ifs true fun c r => if r = true then do let ok ← isTrue c env (eval c env); pure (ForInStep.yield ok) else pure (ForInStep.yield r)) Q E s
  | [], w, A, env, O, s₀, s, h, hA, he, hG, hL, Q, E, q => by rw [List.forIn_nil]; exact wpAny_pure (q s (.refl s))
  | c :: r, w, A, env, O, s₀, s, h, hA, he, hG, hL, Q, E, q => by
    rw [List.forIn_cons]
    simp only [if_true]
    refine wpAny_bind (wpAny_bind (h c (.head _) w A env O s₀ s hA he hG hL _ _ fun s₁ e₁ => wpAny_pure ?_))
    exact tests_true (fun c hc => h c (.tail _ hc)) hA he (hG.ext e₁) (hL.step e₁) fun s₂ e₂ => q s₂ (e₁.trans e₂)
theorem test_false {n : Nat} {sc : Scope} {ρ : List (Nat × PV)} {c : Expr} {w : World} {A : Around} {env : Env} {O : Addr → Prop} {s₀ s : Shared} (h : EvT n sc ρ c false) (hA : Rm n A) (he : EnvOk env sc) (hG : GF s.heap) (hL : Loc s₀ env O ρ s)
    {Q : Bool → Shared → Prop} {E : Value → Shared → Prop} (q : ∀ s', Ext s s' → Q false s') :
    wpAny (MM w) A (forIn [c] true fun c r => if r = true then do let ok ← isTrue c env (eval c env); pure (ForInStep.yield ok) else pure (ForInStep.yield r)) Q E s := by
  rw [List.forIn_cons]
  simp only [if_true]
  refine wpAny_bind (wpAny_bind (h w A env O s₀ s hA he hG hL _ _ fun s₁ e₁ => wpAny_pure ?_))
  exact wpAny_pure (q s₁ e₁)

/-- sb: before the iterator was made; s: at the loop's start -/
theorem comp_loop {w : World} {A : Around} {cenv : Env} {O : Addr → Prop} {n : Nat} {sc : Scope} {target iter elt : Expr} {ifs : List Expr} {scope : Scope} {pos : Pos} {I D : Addr} {fp₀ : List Addr} {gs : List Nat} {xs ys : List PV} {J : Nat → List Addr → Shared → Prop} {ρ : List (Nat × PV)} {sb : Shared} {R : Result → Shared → Prop}
    (hA : Rm n A) (h3 : 3 ≤ n) (he : EnvOk cenv sc) (hG : GF sb.heap) (it : ItrG w A (within O (some D)) I xs gs J) (hc : Comp n sc target ifs elt ρ xs ys)
    (hfp₀ : ∀ b ∈ fp₀, sb.heap.get? b = none) (hgs : ∀ g ∈ gs, sb.gens.size ≤ g) (hLf₀ : cenv.locals ∉ fp₀) (hDf₀ : D ∉ fp₀) (hLD : cenv.locals ≠ D) (hD0 : sb.heap.get? D = none) (hOf₀ : ∀ a, O a → a ∉ fp₀)
    (hcell : ∀ x c, cenv.cells.lookup x = some c → ∃ v, sb.heap.IsCell c v) (hcL : sb.heap.get? cenv.locals = none) (hlen : ys.length ≤ 100000)
    (q : ∀ s', Ext sb s' → (∃ m, s'.heap.Ns cenv.locals m) → (∃ vs : List Value, s'.heap.IsList D vs.toArray ∧ Reps (within O (some D)) s'.heap vs ys) → (∀ a, O a → ∃ o, s'.heap.get? a = some o) → R (.ok .next) s')
    {s : Shared} (hL : Loc sb cenv (within O (some D)) ρ s) (hJ : J 0 fp₀ s) (hacc : s.heap.IsList D #[]) :
    codeAny (MM w) A (.compLoop (.ListComp elt [⟨target, iter, ifs, 0⟩] scope pos) 0 (.ref I) (.ref D) cenv) R s := by
  refine codeAny_loop rfl (fun k s' => ∃ i done todo, i ≤ xs.length ∧ k = xs.length + 1 - i ∧ Loc sb cenv (within O (some D)) ρ s' ∧ (∃ fp, ((∀ b ∈ fp, sb.heap.get? b = none) ∧ cenv.locals ∉ fp ∧ D ∉ fp ∧ ∀ a, O a → a ∉ fp) ∧ J i fp s') ∧ Comp n sc target ifs elt ρ (xs.drop i) todo ∧ done ++ todo = ys ∧
    ∃ vs : List Value, s'.heap.IsList D vs.toArray ∧ Reps (within O (some D)) s'.heap vs done) (fun k s' hI => ?_) (xs.length + 1) ⟨0, [], ys, Nat.zero_le _, rfl, hL, ⟨fp₀, ⟨hfp₀, hLf₀, hDf₀, hOf₀⟩, hJ⟩, hc, rfl, [], hacc, .nil⟩
  obtain ⟨i, done, todo, hi, rfl, L', ⟨fp, ⟨hfp, hLf, hDf, hOf⟩, J'⟩, C', rfl, vs, hl, hr⟩ := hI
  have hcn : ∀ x c, cenv.cells.lookup x = some c → c ≠ cenv.locals ∧ c ≠ D ∧ c ∉ fp := fun x c h => by
    obtain ⟨v, o, e, _⟩ := hcell x c h
    exact ⟨fun z => by (rw [z, hcL] at e; cases e), fun z => by (rw [z, hD0] at e; cases e), fun z => by (rw [hfp c z] at e; cases e)⟩
  have hOn : ∀ a, within O (some D) a → a ∉ fp := fun a ha => ha.elim (hOf a) fun z => by cases z; exact hDf
  show wpAny _ A ((compTurn (.ListComp elt [⟨target, iter, ifs, 0⟩] scope pos) 0 (.ref I) (.ref D) cenv).onRaise (fun x => do noteFrame x cenv; theTreesLotGoes x)) _ _ s'
  refine wpAny_noted ?_
  rw [compTurn_list]
  by_cases hlt : i < xs.length
  · obtain ⟨x, hx⟩ : ∃ x, xs[i]? = some x := ⟨_, List.getElem?_eq_getElem hlt⟩
    have hdrop : xs.drop i = x :: xs.drop (i + 1) := by
      rw [List.drop_eq_getElem_cons hlt]
      rw [List.getElem?_eq_getElem hlt] at hx; cases hx; rfl
    rw [hdrop] at C'
    refine wpAny_bind (wpAny_standAt (wpAny_bind (it.item i fp s' x _ _ (hA.less h3) L'.own J' hx fun v s₂ fp' hfp' m₂ J₂ r₂ => ?_)))
    have L₂ := L'.mv m₂ (fun b hb o its k => it.noseq i fp s' b o its k J' hb) hfp hLf (fun y c h => (hcn y c h).2.2) hOn hgs
    have hl₂ : s₂.heap.IsList D vs.toArray := let ⟨o, e, c⟩ := hl; ⟨o, m₂.heap D o hDf e, c⟩
    have hr₂ : Reps (within O (some D)) s₂.heap vs done := hr.kept fun b o its k hb e d => m₂.heap b o (fun hm => it.noseq i fp s' b o its k J' hm e d) e
    obtain ⟨oL', hoL'⟩ := L'.fresh'
    obtain ⟨oD, hoD, _⟩ := id hl
    have F' : (∀ b ∈ fp', sb.heap.get? b = none) ∧ cenv.locals ∉ fp' ∧ D ∉ fp' ∧ ∀ a, O a → a ∉ fp' := by
      refine ⟨fun b hb => (hfp' b hb).elim (hfp b) fun hn => ?_, fun hb => (hfp' _ hb).elim hLf fun hn => ?_, fun hb => (hfp' _ hb).elim hDf fun hn => ?_, fun a ha hb => (hfp' _ hb).elim (hOf a ha) fun hn => ?_⟩
      · cases e : sb.heap.get? b with
        | none => rfl
        | some o => have := L'.ext.heap _ _ e; rw [hn] at this; cases this
      · rw [hn] at hoL'; cases hoL'
      · rw [hn] at hoD; cases hoD
      · obtain ⟨o, e⟩ := L'.own a (.inl ha); rw [hn] at e; cases e
    obtain ⟨oI, nI, hoI, hcI, hnI⟩ := it.cls _ _ _ J₂
    refine wpAny_bind (wp_letOwned hoI hcI hnI (wpAny_bind ?_))
    have key : ∀ ρ', TgL n sc target x ρ ρ' → (∀ p ∈ ρ, p ∈ ρ') → ∀ (Q : Unit → Shared → Prop) (E : Value → Shared → Prop), (∀ s₃, Loc sb cenv (within O (some D)) ρ' s₃ → (∀ s₄, Ext s₃ s₄ → J (i + 1) fp' s₄ ∧ s₄.heap.IsList D vs.toArray ∧ Reps (within O (some D)) s₄.heap vs done) → Q () s₃) →
        wpAny (MM w) A (assign target cenv v) Q E s₂ := by
      intro ρ' htg hsub Q E q'
      refine htg w A cenv _ sb s₂ v hA he L₂ (fun y c h => (hcn y c h).1) r₂ _ _ fun s₃ L₃ k₃ g₃ => q' s₃ L₃ fun s₄ e₄ => ?_
      have nl := ns_noSeq L₂.ns.choose_spec.1
      refine ⟨it.frame _ _ _ _ J₂ (fun b hb o e => e₄.heap _ _ (k₃ b o (fun z => F'.2.1 (z ▸ hb)) e)) (fun b o its k _ e d => e₄.heap _ _ (k₃ b o (fun z => nl o its k (z ▸ e) d) e)) (fun g _ x e => e₄.gens g x (by rw [g₃]; exact e)) (gf_hide hG (L₃.ext.trans e₄) F'.1), ?_, ?_⟩
      · obtain ⟨o, e, c⟩ := hl₂
        exact ⟨o, e₄.heap _ _ (k₃ D o (Ne.symm hLD) e), c⟩
      · exact (hr₂.but nl k₃).ext e₄
    cases C' with
    | skip htg hsub hifs htest C' =>
      refine key _ htg hsub _ _ fun s₃ L₃ F => wpAny_bind ?_
      subst hifs
      refine test_false htest hA he (hG.ext L₃.ext) L₃ fun s₄ e₄ => ?_
      obtain ⟨J₄, hl₄, hr₄⟩ := F s₄ e₄
      exact wpAny_pure ⟨rfl, xs.length + 1 - (i + 1), by omega, i + 1, done, _, hlt, rfl, (L₃.sub hsub).step e₄, ⟨fp', F', J₄⟩, C', rfl, vs, hl₄, hr₄⟩
    | take htg hsub htests helt C' =>
      rename_i y todo ρ'
      refine key _ htg hsub _ _ fun s₃ L₃ F => wpAny_bind ?_
      refine tests_true htests hA he (hG.ext L₃.ext) L₃ fun s₄ e₄ => ?_
      refine wpAny_bind (wpAny_bind (helt w A cenv _ sb s₄ hA he ((hG.ext L₃.ext).ext e₄) (L₃.step e₄) _ _ fun u s₅ e₅ r₅ => ?_))
      obtain ⟨J₅, hl₅, hr₅⟩ := F s₅ (e₄.trans e₅)
      have L₅ := (L₃.step e₄).step e₅
      refine wpAny_bind (wpAny_list_append hl₅ (fun h' hl' hs' => ?_) (by
        rw [sizeLine_eq, List.size_toArray, hr₅.length]
        simp only [List.length_append, List.length_cons] at hlen
        omega))
      have kp : ∀ b o, b ≠ D → s₅.heap.get? b = some o → h'.get? b = some o := fun b o hb e => (hs'.2 b hb).trans e
      have kq : ∀ b o, ¬ within O (some D) b → s₅.heap.get? b = some o → h'.get? b = some o := fun b o hb e => kp b o (fun z => hb (.inr (congrArg some z))) e
      have L₆ := (L₅.sub hsub).atD hs' hD0 hLD (fun y c h => (hcn y c h).2.1) (let ⟨o, e, _⟩ := hl'; ⟨o, e⟩)
      refine wpAny_pure (wpAny_pure ⟨rfl, xs.length + 1 - (i + 1), by omega, i + 1, done ++ [y], todo, hlt, rfl, L₆, ⟨fp', F', ?_⟩, C', by simp, vs ++ [u], by simpa using hl', ?_⟩)
      · exact it.frame _ _ _ _ J₅ (fun b hb o e => kp b o (fun z => F'.2.2.1 (z ▸ hb)) e) (fun b o its k hb e d => kq b o hb e) (fun g _ x e => e) (gf_hide hG L₆.ext F'.1)
      · exact (hr₅.mono (fun a h => h) kq).append (.one (r₅.mono (fun a h => h) kq))
  · obtain rfl : i = xs.length := by omega
    rw [List.drop_length] at C'
    cases C'
    refine wpAny_bind (wpAny_standAt (wpAny_bind (it.done fp s' _ _ (hA.less h3) L'.own J' fun s₂ m₂ => ?_)))
    have L₂ := L'.mv m₂ (fun b hb o its k => it.noseq _ fp s' b o its k J' hb) hfp hLf (fun y c h => (hcn y c h).2.2) hOn hgs
    rw [List.append_nil] at q
    exact wpAny_pure (q s₂ L₂.ext (let ⟨m, hm, _⟩ := L₂.ns; ⟨m, hm⟩) ⟨vs, let ⟨o, e, c⟩ := hl; ⟨o, m₂.heap D o hDf e, c⟩, hr.kept fun b o its k hb e d => m₂.heap b o (fun hm => it.noseq _ fp s' b o its k J' hm e d) e⟩ fun a ha => L₂.own a (.inl ha))
end Mine
namespace Mine

/-- a comprehension's own names, seen within -/
noncomputable def rel (scope sc : Scope) : Scope :=
  { scope with names := scope.names.map fun (n, k) => if (k == .free && sc.kind == .function && sc.names.lookup n == some .cell) then (n, .cell) else (n, k) }
/-- what a comprehension catches of the frame: nothing, or one cell -/
noncomputable def Clo (scope sc : Scope) (ρ ρc : List (Nat × PV)) : Prop :=
  (ρc = [] ∧ ∀ y ∈ scope.names, y.2 ≠ .free) ∨
  ∃ x u, ρc = [(ky x, u)] ∧ ρ.lookup (ky x) = some u ∧ ky x < 57 ∧ sc.names.lookup x = some .cell ∧ (rel scope sc).names.lookup x = some .cell ∧
    scope.names.foldl (fun (cs : Nat) p => if p.2 == .free then cs + 1 else cs) 0 = 1 ∧ ∀ y ∈ scope.names, y.2 = .free → y.1 = x
theorem clo_run {env : Env} {x : Str} {c : Addr} (hx : env.cells.lookup x = some c) : ∀ {l : List (Str × NameKind)} {acc : List (Str × Addr)} {k : Nat}, (∀ y ∈ l, y.2 = .free → y.1 = x) → (∀ p ∈ acc, p = (x, c)) → acc.length = k →
    ∃ cl, (forIn l acc (fun y r => do
      if (y.2 == NameKind.free) = true then
        let a ← cellOf env y.1
        pure (ForInStep.yield ((y.1, a) :: r))
      else pure (ForInStep.yield r)) : Sem (List (Str × Addr))) = pure cl ∧ (∀ p ∈ cl, p = (x, c)) ∧ cl.length = l.foldl (fun (cs : Nat) p => if p.2 == .free then cs + 1 else cs) k
  | [], acc, k, h, ha, hk => ⟨acc, by rw [List.forIn_nil], ha, hk⟩
  | y :: l, acc, k, h, ha, hk => by
    rw [List.forIn_cons, List.foldl_cons]
    by_cases q : (y.2 == NameKind.free) = true
    · have e := h y (.head _) (by simpa using q)
      obtain ⟨cl, h1, h2, h3⟩ := clo_run hx (l := l) (acc := (x, c) :: acc) (k := k + 1) (fun z hz => h z (.tail _ hz)) (fun p hp => (List.mem_cons.mp hp).elim id (ha p)) (by simp [hk])
      refine ⟨cl, ?_, h2, by rw [if_pos q]; exact h3⟩
      rw [if_pos q, ← h1]
      have : cellOf env y.1 = pure c := by unfold cellOf; rw [e, hx]
      rw [this, e]
      rfl
    · obtain ⟨cl, h1, h2, h3⟩ := clo_run hx (l := l) (acc := acc) (k := k) (fun z hz => h z (.tail _ hz)) ha hk
      refine ⟨cl, ?_, h2, by rw [if_neg q]; exact h3⟩
      rw [if_neg q, ← h1]
      rfl
theorem clo_has {scope sc : Scope} {ρ ρc : List (Nat × PV)} {cl : List (Str × Addr)} (hc : Clo scope sc ρ ρc) (hnc : ∀ y ∈ scope.names, y.2 ≠ .cell) (h : ∀ p ∈ ρc, ∀ x, nms[p.1]? = some x → ∃ c, cl.lookup x = some c) :
    ∀ x, (rel scope sc).names.lookup x = some .cell → ∃ c, cl.lookup x = some c := by
  intro x hx
  have hm := lookup_in hx
  obtain ⟨⟨a, k⟩, h1, h2⟩ := List.mem_map.mp hm
  dsimp only at h2
  split at h2
  · rename_i q
    have hk : k = .free := by
      simp only [Bool.and_eq_true, beq_iff_eq] at q
      exact q.1.1
    cases h2
    rcases hc with ⟨_, hf⟩ | ⟨y, u, rfl, _, hky, _, _, _, hf⟩
    · exact absurd hk (hf _ h1)
    · obtain rfl : x = y := hf _ h1 hk
      exact h _ (.head _) _ (ky_get rfl hky)
  · cases h2; exact absurd rfl (hnc _ h1)
theorem clo_loc {scope sc : Scope} {ρ ρc : List (Nat × PV)} {env : Env} {O : Addr → Prop} {s₀ s : Shared} (hc : Clo scope sc ρ ρc) (he : EnvOk env sc) (hL : Loc s₀ env O ρ s) :
    ∃ cl, closureFor scope env = pure cl ∧ cl.length ≤ 1 ∧ (∀ y c, cl.lookup y = some c → ∃ v, s.heap.IsCell c v) ∧
      ∀ cenv : Env, cenv.cells = cl → cenv.scope = rel scope sc → ∀ m s', Ext s s' → ∀ p ∈ ρc, ∀ x, nms[p.1]? = some x → ∃ v, Var cenv s'.heap m x v ∧ Rep O s'.heap v p.2 := by
  rcases hc with ⟨rfl, h⟩ | ⟨x, u, rfl, hx, hk, hs, hr, hn, hf⟩
  · exact ⟨[], closureFor_none h, by simp, fun y c h => by simp at h, fun _ _ _ _ _ _ p hp => (nomatch hp)⟩
  · obtain ⟨m, hm, hv⟩ := hL.ns
    obtain ⟨v, hv, r⟩ := hv _ (lookup_mem hx) x (ky_get rfl hk)
    have hkc : env.kindOf x = some .cell := by unfold Env.kindOf; rw [he.scope]; exact hs
    rcases hv with ⟨q, _⟩ | ⟨_, c, hc, hcell⟩
    · rw [hkc] at q; cases q
    obtain ⟨cl, h1, h2, h3⟩ := clo_run (env := env) hc (l := scope.names) (acc := []) (k := 0) hf (fun p hp => (nomatch hp)) rfl
    rw [hn] at h3
    obtain ⟨p, rfl⟩ := List.length_eq_one_iff.mp h3
    obtain rfl := h2 p (.head _)
    refine ⟨[(x, c)], ?_, by simp, fun y c' h => ?_, fun cenv e1 e2 m' s' e' p hp y hy => ?_⟩
    · unfold closureFor
      simp only [bind_pure] at h1 ⊢
      exact h1
    · rw [List.lookup_cons] at h
      split at h
      · cases h; exact ⟨_, hcell⟩
      · simp at h
    · obtain rfl := List.mem_singleton.mp hp
      obtain rfl : y = x := by rw [ky_get rfl hk] at hy; exact (Option.some.inj hy).symm
      exact ⟨v, .inr ⟨by unfold Env.kindOf; rw [e2]; exact hr, c, by rw [e1]; simp, hcell.keeps e'.heap⟩, r.ext e'⟩

section
variable {t : Bool} {n : Nat} {sc : Scope} {ρ ρc : List (Nat × PV)} {ω : Option (Nat × List PV)} {out : Fl} {rest : List Stmt}
theorem comp_block {w : World} {A : Around} {env : Env} {O : Addr → Prop} {target iter elt : Expr} {ifs : List Expr} {scope : Scope} {pos : Pos} {I : Addr} {fp : List Addr} {gs : List Nat} {xs ys : List PV} {cl : List (Str × Addr)} {E : Value → Shared → Prop} {s₀ s s₂ : Shared} {RR : Value → Addr → Result → Shared → Prop}
    (hA : Rm n A) (h3 : 3 ≤ n) (he : EnvOk env sc) (hG : GF s.heap) (hL : Loc s₀ env O ρ s) (e₂ : Ext s s₂)
    (itf : ∀ O' : Addr → Prop, (∀ a, O a → O' a) → (∀ a, O' a → O a ∨ s₂.heap.get? a = none) → ∃ J, ItrG w A O' I xs gs J ∧ J 0 fp s₂) (hfp : ∀ b ∈ fp, s.heap.get? b = none ∧ ∃ o, s₂.heap.get? b = some o) (hgs : ∀ g ∈ gs, s.gens.size ≤ g)
    (hc : Comp n (rel scope sc) target ifs elt ρc xs ys) (hlen : ys.length ≤ 100000) (hkind : scope.kind = .function) (hnc : ∀ y ∈ scope.names, y.2 ≠ .cell)
    (hclo : Clo scope sc ρ ρc) (hcl : cl.length ≤ 1) (hcells : ∀ y c, cl.lookup y = some c → ∃ v, s.heap.IsCell c v)
    (hρ : ∀ cenv : Env, cenv.cells = cl → cenv.scope = rel scope sc → ∀ m s', Ext s s' → ∀ p ∈ ρc, ∀ x, nms[p.1]? = some x → ∃ v, Var cenv s'.heap m x v ∧ Rep O s'.heap v p.2)
    (q : ∀ D C s' m, s.heap.get? D = none → s.heap.get? C = none → D ≠ C → Ext s s' → s'.heap.Ns C m → (∃ vs : List Value, s'.heap.IsList D vs.toArray ∧ Reps (within O (some D)) s'.heap vs ys) → RR (.ref D) C (.ok .next) s') :
    wpAny (MM w) A (newList []) (fun acc s₃ => wpAny (MM w) A (newFunctionEnv scope env.globals cl [] env.qual none .none (some env)) (fun cenv s₄ =>
      codeAny (MM w) A (.compStart (.ListComp elt [⟨target, iter, ifs, 0⟩] scope pos) 0 (.ref I) acc { cenv with scope := relabel scope env }) (RR acc cenv.locals) s₄) E s₃) E s₂ := by
  refine wpAny_newObj_type (wpAny_newFunctionEnv hnc (by intro y hy; simp at hy) (fun h₁ hns₁ hsb₁ => ?_) hkind) (Nat.zero_le _)
  dsimp only at hns₁ hsb₁ ⊢
  generalize hH2 : s₂.heap.push { cls := .type "list", dict := none, data := .seq ([] : List Value).toArray } = H2 at hns₁ hsb₁ ⊢
  have hC : H2.objs.size = s₂.heap.objs.size + 1 := by rw [← hH2, Heap.size_push]
  have hDC : s₂.heap.objs.size ≠ H2.objs.size := by rw [hC]; exact Nat.ne_of_lt (Nat.lt_succ_self _)
  have old : ∀ b o, s₂.heap.get? b = some o → h₁.get? b = some o := fun b o e => by
    have hb := Heap.lt_size e
    refine hsb₁.extBut b o (by rw [hC]; exact Nat.ne_of_lt (Nat.lt_succ_of_lt hb)) (Heap.get?_push_of_some _ ?_)
    rw [← hH2]; exact Heap.get?_push_of_some _ e
  have hacc : h₁.IsList s₂.heap.objs.size #[] := ⟨_, hsb₁.extBut _ _ hDC (Heap.get?_push_of_some _ (hH2 ▸ Heap.get?_push_size _ rfl)), rfl, 0, rfl⟩
  have fresh : ∀ a, s₂.heap.objs.size ≤ a → s₂.heap.get? a = none := fun a ha => by
    cases e : s₂.heap.get? a with
    | none => rfl
    | some o' => exact absurd (Heap.lt_size e) (Nat.not_lt.mpr ha)
  have fresh' : ∀ a, s₂.heap.objs.size ≤ a → s.heap.get? a = none := fun a ha => by
    cases e : s.heap.get? a with
    | none => rfl
    | some o' => have := e₂.heap _ _ e; rw [fresh a ha] at this; cases this
  obtain ⟨J, it, hJ⟩ := itf (within O (some s₂.heap.objs.size)) (fun a h => .inl h) (fun a h => h.elim .inl fun z => .inr (by cases z; exact fresh _ (Nat.le_refl _)))
  have e₃ : Ext s₂ { s₂ with heap := h₁, toks := s₂.toks + ([] : List (Str × Value)).length } := .of old
  have hbel : ∀ b, s₂.heap.objs.size ≤ b → b ∉ fp := fun b hb hm => by obtain ⟨_, o, e⟩ := hfp b hm; rw [fresh b hb] at e; cases e
  have hJ₃ : J 0 fp { s₂ with heap := h₁, toks := s₂.toks + ([] : List (Str × Value)).length } := it.frame _ _ _ _ hJ (fun b hb o e => old b o e) (fun b o its k _ e d => old b o e) (fun g _ x e => e) (gf_hide hG (e₂.trans e₃) fun b hb => (hfp b hb).1)
  have hsc : relabel scope env = rel scope sc := by rw [← he.scope]; rfl
  have hCle : s₂.heap.objs.size ≤ H2.objs.size := by omega
  have loop : ∀ s₃ : Shared, s₃ = { s₂ with heap := h₁, toks := s₂.toks + ([] : List (Str × Value)).length } →
      codeAny (MM w) A (.compLoop (.ListComp elt [⟨target, iter, ifs, 0⟩] scope pos) 0 (.ref I) (.ref s₂.heap.objs.size) (compEnvC scope cl H2.objs.size env)) (RR (.ref s₂.heap.objs.size) H2.objs.size) s₃ := by
    rintro s₃ rfl
    refine comp_loop (cenv := compEnvC scope cl H2.objs.size env) (sc := rel scope sc) hA h3 ⟨hsc, ?_, he.globals, he.builtins, hcl, clo_has hclo hnc fun p hp y hy => ?_⟩ hG it hc (fun b hb => (hfp b hb).1) hgs (hbel _ hCle) (hbel _ (Nat.le_refl _)) (Ne.symm hDC) (fresh' _ (Nat.le_refl _))
      (fun a ha hm => by obtain ⟨o, e⟩ := hL.own a ha; rw [(hfp a hm).1] at e; cases e) hcells (fresh' _ hCle) hlen
      (fun s' e' hm hv ho => let ⟨m, hm⟩ := hm; q _ _ s' m (fresh' _ (Nat.le_refl _)) (fresh' _ hCle) hDC e' hm hv) ⟨e₂.trans e₃, fresh' _ hCle, ?_, _, hns₁, ?_⟩ hJ₃ hacc
    · exact hkind
    · obtain ⟨v, hv, _⟩ := hρ (compEnvC scope cl H2.objs.size env) rfl hsc (fun _ => none) s₂ e₂ p hp y hy
      rcases hv with ⟨_, q⟩ | ⟨_, c, hc, _⟩
      · cases q
      · exact ⟨c, hc⟩
    · rintro a (ha | ha)
      · obtain ⟨o, e⟩ := hL.own a ha; exact ⟨o, old _ _ (e₂.heap _ _ e)⟩
      · cases ha; obtain ⟨o, e, _⟩ := hacc; exact ⟨o, e⟩
    · intro p hp y hy
      obtain ⟨v, hv, r⟩ := hρ (compEnvC scope cl H2.objs.size env) rfl hsc _ s₂ e₂ p hp y hy
      exact ⟨v, hv.keeps e₃.heap, (r.grow fun a ha => ha.elim .inl fun z => .inr (by cases z; exact fresh _ (Nat.le_refl _))).ext e₃⟩
  exact codeAny_compStart_list (loop _ rfl) (it.self 0 _ _ _ _ _ hJ₃ (loop _ rfl))

theorem Ev.comp {elt target iter : Expr} {ifs : List Expr} {scope : Scope} {pos : Pos} {xs ys : List PV} (hi : EvI n sc ρ iter xs) (hc : Comp n (rel scope sc) target ifs elt ρc xs ys) (hclo : Clo scope sc ρ ρc) (h3 : 3 ≤ n) (hlen : ys.length ≤ 100000)
    (hkind : scope.kind = .function) (hnc : ∀ y ∈ scope.names, y.2 ≠ .cell) (hnames : ∀ x ∈ scope.names, x.2 = .local → scope.names.lookup x.1 = some .local) (hs : ∀ env x, foldedSetIterable iter env x = pure x) :
    Ev n sc ρ (.ListComp elt [⟨target, iter, ifs, 0⟩] scope pos) (.list ys) := by
  intro w A env O s₀ s hA he hG hL Q E q
  obtain ⟨cl, c1, c2, c3, c4⟩ := clo_loc hclo he hL
  rw [eval_ListComp]
  refine wpAny_comprehension_free (use := Option.none) rfl (hs env) c1 hkind hnames (wpAny_mono (hi w A env O s₀ s hA he hG hL (fun v s₂ => ∃ I fp gs, v = .ref I ∧ Ext s s₂ ∧ (∀ O' : Addr → Prop, (∀ a, O a → O' a) → (∀ a, O' a → O a ∨ s₂.heap.get? a = Option.none) → ∃ J, ItrG w A O' I xs gs J ∧ J 0 fp s₂) ∧ (∀ b ∈ fp, s.heap.get? b = Option.none ∧ ∃ o, s₂.heap.get? b = some o) ∧ (∀ g ∈ gs, s.gens.size ≤ g)) E
    fun I fp gs s' e itf hfp hgs => ⟨I, fp, gs, rfl, e, itf, hfp, hgs⟩) (fun x s₁ h₁ => wpAny_mono h₁ (fun it s₂ h₂ => ?_) fun _ _ e => e) fun _ _ e => e)
  obtain ⟨I, fp, gs, rfl, e₂, itf, hfp, hgs⟩ := h₂
  refine comp_block (RR := fun acc C => compPost (MM w) A E Option.none Q acc C) hA h3 he hG hL e₂ itf hfp hgs hc hlen hkind hnc hclo c2 c3 c4 ?_
  intro D C s' m hD hC hDC e' hm hv
  refine ⟨m, hm, fun h' hs' => ?_⟩
  obtain ⟨vs, hl, r⟩ := hv
  have kp : ∀ b o, b ≠ C → s'.heap.get? b = some o → h'.get? b = some o := fun b o hb e => (hs'.2 b hb).trans e
  refine q _ _ ⟨fun b o e => kp b o (fun z => by rw [z, hC] at e; cases e) (e'.heap b o e), e'.gens, e'.bare, e'.os⟩ (.list (fun ho => ?_) (let ⟨o, e, c⟩ := hl; ⟨o, kp D o hDC e, c⟩) (r.inner.but (ns_noSeq hm) kp))
  obtain ⟨o, e⟩ := hL.own D ho
  rw [hD] at e; cases e

theorem swaps_on {elt target iter : Expr} {ifs : List Expr} {scope : Scope} {pos p spos : Pos} {y : Str} {env : Env} (he : EnvOk env sc) (hl : sc.names.lookup y = some .local) (hline : p.line = pos.line) (hn : (scope.names.any fun (n, k) => n == y && (k == .local || k == .cell)) = false) :
    swapsWith (.ListComp elt [⟨target, iter, ifs, 0⟩] scope pos) (some (.Name y p)) spos.line env = pure true := by
  have h1 : env.blockKind = .function := by unfold Env.blockKind; rw [he.kind]; rfl
  have h2 : env.kindOf y = some .local := by unfold Env.kindOf; rw [he.scope]; exact hl
  unfold swapsWith
  simp only [h1, h2, hn, Expr.pos, hline]
  simp
theorem Xs.assign_comp {elt target iter : Expr} {ifs : List Expr} {scope : Scope} {pos p spos : Pos} {y : Str} {xs ys : List PV} (hi : EvI n sc ρ iter xs) (hc : Comp n (rel scope sc) target ifs elt ρc xs ys) (hclo : Clo scope sc ρ ρc) (h3 : 3 ≤ n) (hlen : ys.length ≤ 100000)
    (hkind : scope.kind = .function) (hnc : ∀ y ∈ scope.names, y.2 ≠ .cell) (hnames : ∀ x ∈ scope.names, x.2 = .local → scope.names.lookup x.1 = some .local) (hs : ∀ env x, foldedSetIterable iter env x = pure x)
    (hline : p.line = pos.line) (hn : (scope.names.any fun (n, k) => n == y && (k == .local || k == .cell)) = false)
    (hx : decide (ky y < 57) = true) (hl : sc.names.lookup y = some .local) (hω : notFill ω y = true)
    (k : Xs t n sc ((ky y, .list ys) :: drp (ky y) ρ) ω rest out) : Xs t n sc ρ ω (.Assign [.Name y p] (.ListComp elt [⟨target, iter, ifs, 0⟩] scope pos) spos :: rest) out := by
  intro w A env O D₀ s₀ s hA he hG hS Q E q
  have hkind' : env.kindOf y = some .local := by unfold Env.kindOf; rw [he.scope]; exact hl
  have hG' := hS.gf hG
  have hL := hS.loc
  obtain ⟨cl, c1, c2, c3, c4⟩ := clo_loc hclo he hL
  refine wpAny_execs_cons ?_
  rw [exec_Assign_Name_used _ _ _ _ (swaps_on he hl hline hn)]
  refine wpAny_bind (wpAny_standAt (wpAny_bind ?_))
  show wpAny _ A (do let _ ← comprehension (.ListComp elt [⟨target, iter, ifs, 0⟩] scope pos) scope env _ (newList []) false (eval iter env) (some (PySem.assign (.Name y p) env))) _ _ s
  refine wpAny_bind (wpAny_mono (wpAny_comprehension_free (use := some (PySem.assign (.Name y p) env)) (Q := fun _ s' => wpAny (MM w) A (execs rest env) Q E s') rfl (hs env) c1 hkind hnames
    (wpAny_mono (hi w A env _ s₀ s hA he hG' hL (fun v s₂ => ∃ I fp gs, v = .ref I ∧ Ext s s₂ ∧ (∀ O' : Addr → Prop, (∀ a, within O D₀ a → O' a) → (∀ a, O' a → within O D₀ a ∨ s₂.heap.get? a = none) → ∃ J, ItrG w A O' I xs gs J ∧ J 0 fp s₂) ∧ (∀ b ∈ fp, s.heap.get? b = none ∧ ∃ o, s₂.heap.get? b = some o) ∧ (∀ g ∈ gs, s.gens.size ≤ g)) E
    fun I fp gs s' e itf hfp hgs => ⟨I, fp, gs, rfl, e, itf, hfp, hgs⟩) (fun x s₁ h₁ => wpAny_mono h₁ (fun it s₂ h₂ => ?_) fun _ _ e => e) fun _ _ e => e)) (fun _ s' hq => wpAny_pure (wpAny_pure hq)) fun _ _ e => e)
  obtain ⟨I, fp, gs, rfl, e₂, itf, hfp, hgs⟩ := h₂
  refine comp_block (RR := fun acc C => compPost (MM w) A E (some (PySem.assign (.Name y p) env)) (fun _ s' => wpAny (MM w) A (execs rest env) Q E s') acc C) hA h3 he hG' hL e₂ itf hfp hgs hc hlen hkind hnc hclo c2 c3 c4 ?_
  intro D C s' m hD hC hDC e' hm hv
  obtain ⟨vs, hl', r⟩ := hv
  have hnD : ¬ within O D₀ D := fun ho => by obtain ⟨o, e⟩ := hL.own D ho; rw [hD] at e; cases e
  have rD : Rep (within O D₀) s'.heap (.ref D) (.list ys) := .list hnD hl' r.inner
  show wpAny _ A (PySem.assign (.Name y p) env (.ref D)) _ _ _
  refine wpAny_assign_Name (wp_store he (hS.step e') rD hx hl hω fun s₃ S₃ k₃ g₃ => ?_)
  obtain ⟨oL, hoL⟩ := hL.fresh'
  have hCL : C ≠ env.locals := fun z => by rw [← z, hC] at hoL; cases hoL
  obtain ⟨oC, es, ep, hoC, rC⟩ := hm
  refine ⟨m, ⟨oC, es, ep, k₃ C oC hCL hoC, rC⟩, fun h' hs' => ?_⟩
  have hm3 : s₃.heap.Ns C m := ⟨oC, es, ep, k₃ C oC hCL hoC, rC⟩
  have mv : Mv [C] [] s₃ { s₃ with heap := h' } := ⟨fun b o hb e => (hs'.2 b fun z => hb (z ▸ List.mem_singleton_self _)).trans e, fun _ _ _ e => e, fun e => e, rfl⟩
  refine k w A env O D₀ s₀ _ hA he hG (S₃.mv mv (fun b hb o its kk e => ?_) (fun b hb => ?_) (fun hb => ?_) (fun d hd hb => ?_) (fun x c hc hb => ?_) (fun a ha hb => ?_) (fun g hg => nomatch hg)) Q E q
  · obtain rfl := List.mem_singleton.mp hb
    exact ns_noSeq hm3 o its kk e
  · obtain rfl := List.mem_singleton.mp hb
    cases e : s₀.heap.get? b with
    | none => rfl
    | some o => have := hS.ext.heap _ _ e; rw [hC] at this; cases this
  · exact hCL (List.mem_singleton.mp hb).symm
  · obtain rfl := List.mem_singleton.mp hb
    obtain ⟨o, e⟩ := hL.own d (.inr hd.symm); rw [hC] at e; cases e
  · obtain rfl := List.mem_singleton.mp hb
    obtain ⟨_, v, o, e, _⟩ := hS.cell x c hc; rw [hC] at e; cases e
  · obtain rfl := List.mem_singleton.mp hb
    obtain ⟨o, e⟩ := hL.own a (.inl ha); rw [hC] at e; cases e
end
end Mine
section
set_option maxRecDepth 4000
namespace Mine

/-! the list that is being filled -/
theorem St.atD {s₀ s : Shared} {env : Env} {O : Addr → Prop} {ρ : List (Nat × PV)} {x : Nat} {xs ys : List PV} {D : Addr} {h' : Heap} {vs : List Value} (z : St s₀ env O ρ (some (x, xs)) (some D) s) (hs : Heap.SameBut D s.heap h')
    (hp : h'.PlainList D vs.toArray) (hr : ∀ O' : Addr → Prop, (∀ b o, ¬ O' b → s.heap.get? b = some o → h'.get? b = some o) → (∀ b, O' b ↔ within O (some D) b) → Reps O' h' vs ys) : St s₀ env O ρ (some (x, ys)) (some D) { s with heap := h' } := by
  have zf : OwnL s₀ env O x xs s D := z.fill
  obtain ⟨ws, ⟨k, eD⟩, r⟩ := zf.has
  have kp : ∀ b o, b ≠ D → s.heap.get? b = some o → h'.get? b = some o := fun b o hb e => (hs.2 b hb).trans e
  have hLD : env.locals ≠ D := by
    rintro e
    obtain ⟨m, ⟨oL, es, ep, hoL, hdL, _⟩, _⟩ := z.loc.ns
    rw [e, eD] at hoL; cases hoL; cases hdL
  have hCD : ∀ y c, env.cells.lookup y = some c → c ≠ D := by
    rintro y c hc e
    obtain ⟨_, v, o, e', d⟩ := z.cell y c hc
    rw [e, eD] at e'; cases e'; cases d
  refine ⟨fun y c hc => ?_, z.loc.atD hs zf.new hLD hCD (let ⟨n, e⟩ := hp; ⟨_, e⟩), ?_⟩
  · obtain ⟨a, v, o, e, d⟩ := z.cell y c hc
    exact ⟨a, v, o, kp c o (hCD y c hc) e, d⟩
  · refine ⟨zf.new, zf.out, ?_, vs, hp, hr _ (fun b o hb e => kp b o (fun q => hb (.inr (congrArg some q))) e) fun b => Iff.rfl⟩
    obtain ⟨m, ⟨oL, es, ep, hoL, rL⟩, h1⟩ := zf.ns
    exact ⟨m, ⟨oL, es, ep, kp _ _ hLD hoL, rL⟩, h1⟩

theorem PySem.Heap.SameBut.kept {a : Addr} {h h' : Heap} (z : Heap.SameBut a h h') : ∀ b o, b ≠ a → h.get? b = some o → h'.get? b = some o := fun b o hb e => (z.2 b hb).trans e

section
variable {t : Bool} {n : Nat} {sc : Scope} {ρ : List (Nat × PV)} {ω : Option (Nat × List PV)} {out : Fl} {rest : List Stmt}
theorem wp_fillName {w : World} {A : Around} {env : Env} {O : Addr → Prop} {s₀ s : Shared} {x : Str} {p : Pos} {xs : List PV} {D : Addr} {Q : Value → Shared → Prop} {E : Value → Shared → Prop} (he : EnvOk env sc) (z : OwnL s₀ env O (ky x) xs s D)
    (hk : decide (ky x < 57) = true) (hd : (x == ("__debug__" : Str)) = false) (q : Q (.ref D) s) : wpAny (MM w) A (eval (.Name x p) env) Q E s := by
  obtain ⟨m, hm, h1⟩ := z.ns
  obtain ⟨a, b⟩ := h1 x (ky_get rfl (of_decide_eq_true hk))
  exact wpAny_Name (wpAny_loadName_local he.kind a hm b q) hd
theorem Xs.append {x : Str} {p ap cp pos : Pos} {e : Expr} {xs : List PV} {u : PV} (h : Ev n sc ρ e u) (hlen : xs.length ≤ 100000) (hk : decide (ky x < 57) = true) (hd : (x == ("__debug__" : Str)) = false)
    (hbase : ∀ env, attributeBase (.Name x p) "append" env (eval (.Name x p) env) = eval (.Name x p) env)
    (hfew : ∀ env, ((backTo cp (starEach [e] env)).all (fun x => !x.1) && (backToKw cp (keywordEach [] env)).all (fun x => x.1.isSome)
      && decide (([e] : List Expr).length + ([] : List Keyword).length + (if ([] : List Keyword).isEmpty then 0 else 1) < 30)) = true)
    (hline : (ap.endLine == cp.line) = true) (htrees : ∀ env, backTo cp (starEach [e] env) = [(false, eval e env)])
    (k : Xs t n sc ρ (some (ky x, xs ++ [u])) rest out) : Xs t n sc ρ (some (ky x, xs)) (.Expr (.Call (.Attribute (.Name x p) "append" ap) [e] [] cp) pos :: rest) out := by
  intro w A env O D s₀ s hA he hG hS Q E q
  cases D with
  | none => exact hS.fill.elim
  | some D =>
    have hi : interactive env = false := by unfold interactive; rw [he.kind]; rfl
    refine wpAny_execs_cons (wpAny_Expr (wpAny_Call_append (hbase env) (hfew env) hline (htrees env) (wp_fillName he hS.fill hk hd ?_)) hi rfl)
    obtain ⟨vs, hp, hr⟩ := (show OwnL s₀ env O (ky x) xs s D from hS.fill).has
    obtain ⟨kk, eD⟩ := id hp
    refine ⟨D, _, rfl, ⟨_, kk, eD, rfl, rfl, rfl⟩, h w A env _ s₀ s hA he (hS.gf hG) hS.loc _ _ fun v s₁ e₁ r₁ => ?_⟩
    have S₁ := hS.step e₁
    have hp₁ : s₁.heap.PlainList D vs.toArray := hp.at (e₁.heap D)
    refine wpAny_list_append_plain hp₁ (fun h' hp' hs' => ?_) (by rw [sizeLine_eq, List.size_toArray, hr.length]; omega)
    refine k w A env O (some D) s₀ _ hA he hG (S₁.atD (vs := vs ++ [v]) hs' (by simpa using hp') fun O' hk' hO' => ?_) Q E q
    have kq : ∀ b o, ¬ within O (some D) b → s₁.heap.get? b = some o → h'.get? b = some o := fun b o hb e => hk' b o (fun q => hb ((hO' b).mp q)) e
    exact ((hr.ext e₁).append (.one r₁)).mono (fun a h => (hO' a).mp h) kq

theorem call_insert {w : World} {A : Around} {s : Shared} {E : Value → Shared → Prop} {Q : Value → Shared → Prop} {D : Addr} {vs : List Value} {i : Nat} {tk : Tok} {vb : Value} (hp : s.heap.PlainList D vs.toArray) (hi : i ≤ vs.length) (hlen : vs.length ≤ 100000)
    (q : ∀ h', h'.PlainList D (vs.take i ++ vb :: vs.drop i).toArray → Heap.SameBut D s.heap h' → Q .none { s with heap := h' }) : wpAny (MM w) A (PySem.call (.builtin "list.insert") [.ref D, .int (i : Int) tk, vb]) Q E s := by
  obtain ⟨kk, eD⟩ := hp
  obtain ⟨x, hx⟩ : ∃ x : Int, x = i := ⟨_, rfl⟩
  rw [← hx]
  have hfit : ¬ (!Builtin.List.listFitsIndex x) = true := by
    unfold Builtin.List.listFitsIndex
    have h1 : (-(2 ^ 63 : Int) ≤ x) := by omega
    have h2 : (x < 2 ^ 63) := by omega
    simp only [decide_eq_true h1, decide_eq_true h2]
    decide
  have hsz : vs.toArray.size ≤ sizeLine := by rw [sizeLine_eq, List.size_toArray]; omega
  have g := AutoListH.list_insert_list_int_val_1 D vs.toArray kk x tk vb hfit hsz
  refine call_meets F.slot_list_insert ⟨_, eD, rfl⟩ F.entry_list_insert (F.args_list_insert_3 _ _ _) g ⟨eD, ?_⟩
  generalize hf : (fun xs : Array Value => have k := if x < 0 then (x + ((xs.size : Nat) : Int)).toNat else min x.toNat xs.size; (xs.extract 0 k).push vb ++ xs.extract k) = f
  have hfv : f vs.toArray = (vs.take i ++ vb :: vs.drop i).toArray := by
    subst hf
    have e1 : ¬ (x < 0) := by omega
    dsimp only
    rw [if_neg e1]
    have e2 : min x.toNat vs.toArray.size = i := by rw [List.size_toArray]; omega
    rw [e2]
    apply Array.ext'
    simp [List.take_of_length_le]
  have hget := Heap.get?_update_self (Obj.mapSeq f) eD rfl
  exact q _ ⟨kk + 1, by rw [hget]; simp [Obj.mapSeq, hfv]; omega⟩ (Heap.SameBut.update ..)

noncomputable def insAt (xs : List PV) (k : Nat) (u : PV) : List PV := xs.take k ++ u :: xs.drop k
theorem Xs.insert {x : Str} {p ap cp pos : Pos} {e₁ e₂ : Expr} {xs : List PV} {i : Nat} {u : PV} (h₁ : Ev n sc ρ e₁ (.int i)) (h₂ : Ev n sc ρ e₂ u) (hi : i ≤ xs.length) (hlen : xs.length ≤ 100000) (hk : decide (ky x < 57) = true) (hd : (x == ("__debug__" : Str)) = false)
    (hbase : ∀ env, attributeBase (.Name x p) "insert" env (eval (.Name x p) env) = eval (.Name x p) env)
    (hfew : ∀ env, ((backTo cp (starEach [e₁, e₂] env)).all (fun x => !x.1) && (backToKw cp (keywordEach [] env)).all (fun x => x.1.isSome)
      && decide (([e₁, e₂] : List Expr).length + ([] : List Keyword).length + (if ([] : List Keyword).isEmpty then 0 else 1) < 30)) = true)
    (hline : (ap.endLine == cp.line) = true) (hplain : ∀ env, (backTo cp (starEach [e₁, e₂] env)).any (·.1) = false) (hp : ∀ env, starEach [e₁, e₂] env = (false, eval e₁ env) :: starEach [e₂] env) (hp' : ∀ env, starEach [e₂] env = (false, eval e₂ env) :: starEach [] env)
    (k : Xs t n sc ρ (some (ky x, insAt xs i u)) rest out) : Xs t n sc ρ (some (ky x, xs)) (.Expr (.Call (.Attribute (.Name x p) "insert" ap) [e₁, e₂] [] cp) pos :: rest) out := by
  intro w A env O D s₀ s hA he hG hS Q E q
  cases D with
  | none => exact hS.fill.elim
  | some D =>
    have hint : interactive env = false := by unfold interactive; rw [he.kind]; rfl
    obtain ⟨vs, hpl, hr⟩ := (show OwnL s₀ env O (ky x) xs s D from hS.fill).has
    obtain ⟨kk, eD⟩ := id hpl
    refine wpAny_execs_cons (wpAny_Expr (wpAny_Call_method_lateS (hbase env) (hfew env) hline (wp_fillName he hS.fill hk hd ?_)) hint rfl)
    refine ⟨"list", "list.insert", F.plainAttrs_list, F.slot_list_insert, F.type_list_insert, ⟨_, eD, rfl⟩, (fun a e => by cases e; exact ⟨_, eD, rfl⟩), ?_⟩
    refine Calls.callWith_builtin (hplain env) ?_
    have := Evs.cons h₁ (Evs.cons h₂ Evs.nil hp') hp w A env _ s₀ s cp hA he (hS.gf hG) hS.loc (fun ws s₂ => wpAny (MM w) A (PySem.call (.builtin "list.insert") ([.ref D] ++ ws)) (fun v s' => match v with | .ref _ => False | _ => wpAny (MM w) A (execs rest env) Q E s') E s₂) E fun ws s₁ e₁ r₁ => ?_
    · rw [hp env] at this ⊢
      exact Calls.evalArgs_plain this
    obtain _ | ⟨ra, _ | ⟨rb, _ | _⟩⟩ := r₁
    cases ra
    rename_i vb tk
    have S₁ := hS.step e₁
    have eD₁ := e₁.heap D _ eD
    show wpAny (MM w) A (PySem.call (.builtin "list.insert") [.ref D, .int (i : Int) tk, vb]) _ E s₁
    refine call_insert (hpl.at (e₁.heap D)) (by rw [hr.length]; exact hi) (by rw [hr.length]; exact hlen) fun h' hp' hs' => ?_
    refine k w A env O (some D) s₀ _ hA he hG (S₁.atD (vs := vs.take i ++ vb :: vs.drop i) hs' hp' fun O' hk' hO' => ?_) Q E q
    have kq : ∀ b o, ¬ within O (some D) b → s₁.heap.get? b = some o → h'.get? b = some o := fun b o hb e => hk' b o (fun q => hb ((hO' b).mp q)) e
    exact ((hr.ext e₁).insert rb i).mono (fun a h => (hO' a).mp h) kq
theorem Xs.thaw {x : Str} {p pl pos : Pos} (hx : decide (ky x < 57) = true) (hl : sc.names.lookup x = some .local)
    (k : Xs false n sc (drp (ky x) ρ) (some (ky x, [])) rest out) : Xs false n sc ρ none (.Assign [.Name x p] (.List [] pl) pos :: rest) out := by
  intro w A env O D s₀ s hA he hG hS Q E q
  cases D with
  | some D => exact hS.fill.elim
  | none =>
    have hk : env.kindOf x = some .local := by unfold Env.kindOf; rw [he.scope]; exact hl
    have hxg := ky_get rfl (of_decide_eq_true hx)
    refine wpAny_execs_cons (wpAny_Assign_Name ?_ rfl)
    show wpAny _ _ (do standAt pl; newList (← spliced (backTo pl (starEach [] env)))) _ E s
    refine wpAny_bind (wpAny_standAt (wpAny_bind (Calls.spliced_nil ?_)))
    refine wpAny_newObj_type ?_ (Nat.zero_le _)
    dsimp only
    generalize hD : s.heap.objs.size = D
    have hD0 : s.heap.get? D = none := by rw [← hD]; exact ext_fresh (.refl s)
    have e₁ : Ext s { s with heap := s.heap.push { cls := .type "list", dict := none, data := .seq ([] : List Value).toArray } } := .of (tk := s.toks) fun b o => Heap.get?_push_of_some _
    obtain ⟨m, hm, hr⟩ := hS.loc.ns
    have hm₁ := ns_keeps hm e₁.heap
    obtain ⟨oL, hoL⟩ := hS.loc.fresh'
    have hLD : env.locals ≠ D := fun z => by rw [z, hD0] at hoL; cases hoL
    refine wpAny_storeName_local hk hm₁ (fun h' hn' hs' => ?_) (by rw [he.kind]; rfl)
    have kp : ∀ b o, b ≠ env.locals → s.heap.get? b = some o → h'.get? b = some o := fun b o hb e => (hs'.2 b hb).trans (e₁.heap b o e)
    have nl := ns_noSeq hm
    have hget := Heap.get?_push_size s.heap (o := { cls := .type "list", dict := none, data := .seq ([] : List Value).toArray }) rfl
    have hDget : h'.get? D = some { cls := .type "list", data := .seq ([] : List Value).toArray } := by
      rw [hD] at hget
      exact (hs'.2 D (Ne.symm hLD)).trans hget
    refine k w A env O (some D) s₀ _ hA he hG ⟨fun y c hc => ?_, ⟨?_, hS.loc.fresh, ?_, _, hn', fun p hp y hy => ?_⟩, ?_⟩ Q E (by
      cases out with
      | next ρ ω => exact fun s' D' _ => q s' D' fun h => by cases h
      | ret x => exact q)
    · obtain ⟨a, v, o, e, d⟩ := hS.cell y c hc
      exact ⟨a, v, o, kp c o (hS.cells y c hc) e, d⟩
    · exact ⟨fun b o e => kp b o (fun z => by rw [z, hS.loc.fresh] at e; cases e) (hS.ext.heap b o e), hS.ext.gens, hS.ext.bare, hS.ext.os⟩
    · rintro a (ha | ha)
      · obtain ⟨o, e⟩ := hS.loc.own a (.inl ha)
        by_cases z : a = env.locals
        · rw [z]; obtain ⟨o, _, _, e, _⟩ := hn'; exact ⟨o, e⟩
        · exact ⟨o, kp a o z e⟩
      · cases ha; exact ⟨_, hDget⟩
    · obtain ⟨hp, hne⟩ := drp_mem hp
      obtain ⟨v, hv, r⟩ := hr p hp y hy
      have hyx : y ≠ x := names_ne hxg hy hne
      refine ⟨v, ?_, (r.grow (O' := within O (some D)) fun a ha => ha.elim (fun z => .inl (.inl z)) fun z => .inr (by cases z; exact hD0)).but nl kp⟩
      rcases hv with ⟨a, b⟩ | ⟨a, c, b, d⟩
      · exact .inl ⟨a, by dsimp only; rw [if_neg hyx]; exact b⟩
      · exact .inr ⟨a, c, b, let ⟨o, e, f⟩ := d; ⟨o, kp c o (hS.cells y c b) e, f⟩⟩
    · refine ⟨?_, fun ho => ?_, ⟨_, hn', fun y hy => ?_⟩, [], ⟨0, hDget⟩, .nil⟩
      · cases e : s₀.heap.get? D with
        | none => rfl
        | some o => have := hS.ext.heap _ _ e; rw [hD0] at this; cases this
      · obtain ⟨o, e⟩ := hS.loc.own D (.inl ho); rw [hD0] at e; cases e
      · obtain rfl : y = x := by rw [hxg] at hy; exact (Option.some.inj hy).symm
        exact ⟨hk, if_pos rfl⟩

/-- a store to the cell -/
theorem Xs.cell {x : Str} {e : Expr} {p pos : Pos} {u : PV} (h : Ev n sc ρ e u) (hx : decide (ky x < 57) = true) (hl : sc.names.lookup x = some .cell) (hω : notFill ω x = true) (hs : ∀ env : Env, swapsWith e (some (.Name x p)) pos.line env = pure false)
    (k : Xs t n sc ((ky x, u) :: drp (ky x) ρ) ω rest out) : Xs t n sc ρ ω (.Assign [.Name x p] e pos :: rest) out := by
  intro w A env O D s₀ s hA he hG hS Q E q
  have hk : env.kindOf x = some .cell := by unfold Env.kindOf; rw [he.scope]; exact hl
  have hxg := ky_get rfl (of_decide_eq_true hx)
  obtain ⟨c, hc⟩ := he.has x hl
  refine wpAny_execs_cons (wpAny_Assign_Name (h w A env _ s₀ s hA he (hS.gf hG) hS.loc _ _ fun v s₁ e₁ r₁ => ?_) (hs env))
  have S₁ := hS.step e₁
  obtain ⟨hc0, v₀, hcell⟩ := S₁.cell x c hc
  refine wpAny_storeName_cell he.kind hk hc hcell fun h' hcell' hs' => ?_
  have kp : ∀ b o, b ≠ c → s₁.heap.get? b = some o → h'.get? b = some o := fun b o hb e => (hs'.2 b hb).trans e
  have nc : ∀ o its k, s₁.heap.get? c = some o → o.data ≠ .seq its k := fun o its k ho => by
    obtain ⟨o', e, d⟩ := hcell
    rw [e] at ho; cases ho; rw [d]; exact fun q => by cases q
  have one : ∀ y d, env.cells.lookup y = some d → y = x ∧ d = c := fun y d hy => by
    have h1 := he.one
    match hcs : env.cells, h1 with
    | [], _ => rw [hcs] at hc; cases hc
    | [(a, b)], _ =>
      rw [hcs] at hc hy
      rw [List.lookup_cons] at hc hy
      cases q1 : x == a with
      | false => rw [q1] at hc; cases hc
      | true =>
        cases q2 : y == a with
        | false => rw [q2] at hy; cases hy
        | true =>
          rw [q1] at hc; rw [q2] at hy
          cases hc; cases hy
          exact ⟨(beq_iff_eq.mp q2).trans (beq_iff_eq.mp q1).symm, rfl⟩
  have hcL : c ≠ env.locals := S₁.cells x c hc
  refine k w A env O D s₀ _ hA he hG ⟨fun y d hd => ?_, ⟨?_, S₁.loc.fresh, ?_, ?_⟩, ?_⟩ Q E q
  · obtain ⟨_, rfl⟩ := one y d hd
    exact ⟨hc0, _, hcell'⟩
  · exact ⟨fun b o e => kp b o (fun z => by rw [z, hc0] at e; cases e) (S₁.ext.heap b o e), S₁.ext.gens, S₁.ext.bare, S₁.ext.os⟩
  · intro a ha
    obtain ⟨o, e⟩ := S₁.loc.own a ha
    by_cases z : a = c
    · rw [z]; obtain ⟨o, e, _⟩ := hcell'; exact ⟨o, e⟩
    · exact ⟨o, kp a o z e⟩
  · obtain ⟨m, ⟨oL, es, ep, hoL, rL⟩, hr⟩ := S₁.loc.ns
    refine ⟨m, ⟨oL, es, ep, kp _ _ (Ne.symm hcL) hoL, rL⟩, fun p hp y hy => ?_⟩
    rcases List.mem_cons.mp hp with rfl | hp
    · obtain rfl : y = x := by rw [hxg] at hy; exact (Option.some.inj hy).symm
      exact ⟨v, .inr ⟨hk, c, hc, hcell'⟩, r₁.but nc kp⟩
    · obtain ⟨hp, hne⟩ := drp_mem hp
      obtain ⟨v', hv', r'⟩ := hr p hp y hy
      have hyx : y ≠ x := names_ne hxg hy hne
      refine ⟨v', ?_, r'.but nc kp⟩
      rcases hv' with z | ⟨_, d, b, _⟩
      · exact .inl z
      · exact absurd (one y d b).1 hyx
  · have z := S₁.fill
    cases ω with
    | none => cases D <;> exact z
    | some pp => cases D with
      | none => exact z
      | some d =>
        obtain ⟨vs, ⟨kk, eD⟩, r⟩ := z.has
        refine ⟨z.new, z.out, ?_, vs, ⟨kk, kp d _ (fun q => nc _ _ kk (q ▸ eD) rfl) eD⟩, r.but nc kp⟩
        obtain ⟨m, ⟨oL, es, ep, hoL, rL⟩, h1⟩ := z.ns
        exact ⟨m, ⟨oL, es, ep, kp _ _ (Ne.symm hcL) hoL, rL⟩, h1⟩

/-- data that are no objects -/
noncomputable def flat : PV → Bool
  | .none | .bool _ | .int _ | .str _ => true
  | _ => false
theorem Rep.flat {O O' : Addr → Prop} {h h' : Heap} {v : Value} {x : PV} (r : Rep O h v x) (hf : flat x = true) : Rep O' h' v x := by
  cases r with
  | none => exact .none
  | bool b => exact .bool b
  | int i t => exact .int i t
  | str x t => exact .str x t
  | list => cases hf
  | tup => cases hf
/-- an assignment whose expression reads the list that is being filled -/
theorem Xs.borrow {e : Expr} {x : Str} {p pos : Pos} {y : Nat} {xs : List PV} {u : PV} (h : Ev n sc ((y, .list xs) :: ρ) e u) (hf : flat u = true) (hx : decide (ky x < 57) = true) (hl : sc.names.lookup x = some .local)
    (hω : notFill (some (y, xs)) x = true) (hs : ∀ env : Env, swapsWith e (some (.Name x p)) pos.line env = pure false)
    (k : Xs t n sc ((ky x, u) :: drp (ky x) ρ) (some (y, xs)) rest out) : Xs t n sc ρ (some (y, xs)) (.Assign [.Name x p] e pos :: rest) out := by
  intro w A env O D s₀ s hA he hG hS Q E q
  cases D with
  | none => exact hS.fill.elim
  | some D =>
    have z : OwnL s₀ env O y xs s D := hS.fill
    obtain ⟨vs, g, r⟩ := z.has
    obtain ⟨m, hm, h1⟩ := z.ns
    obtain ⟨m', hm', h2⟩ := hS.loc.ns
    obtain rfl := ns_uniq hm hm'
    have L : Loc s₀ env O ((y, .list xs) :: ρ) s := ⟨hS.ext, hS.loc.fresh, fun a ha => hS.loc.own a (.inl ha), m, hm, fun p hp y' hy => by
      rcases List.mem_cons.mp hp with rfl | hp
      · exact ⟨_, .inl (h1 y' hy), .list z.out g.isList (r.mono (fun a h => .inl h) fun _ _ _ e => e)⟩
      · obtain ⟨v, a, b⟩ := h2 p hp y' hy
        exact ⟨v, a, b.inner⟩⟩
    exact wpAny_execs_cons (wpAny_Assign_Name (h w A env _ s₀ s hA he (hS.gf hG) L _ _ fun v s₁ e₁ r₁ =>
      wp_store he (hS.step e₁) (r₁.flat hf) hx hl hω fun s₂ S₂ _ _ => k w A env O (some D) s₀ s₂ hA he hG S₂ Q E q) (hs env))

theorem iop_add {w : World} {A : Around} {O : Addr → Prop} {s : Shared} {y z : Value} {a b : Int} (ra : Rep O s.heap y (.int a)) (rb : Rep O s.heap z (.int b)) {Q : Value → Shared → Prop} {E : Value → Shared → Prop} (q : ∀ r s', Ext s s' → Rep O s'.heap r (.int (a + b)) → Q r s') :
    wpAny (MM w) A (inplaceOp .Add y z) Q E s := by
  cases ra; cases rb
  exact AutoIntOps.iadd_0 (q _ _ .tok (.int _ _))
theorem iop_sub {w : World} {A : Around} {O : Addr → Prop} {s : Shared} {y z : Value} {a b : Int} (ra : Rep O s.heap y (.int a)) (rb : Rep O s.heap z (.int b)) {Q : Value → Shared → Prop} {E : Value → Shared → Prop} (q : ∀ r s', Ext s s' → Rep O s'.heap r (.int (a - b)) → Q r s') :
    wpAny (MM w) A (inplaceOp .Sub y z) Q E s := by
  cases ra; cases rb
  exact AutoIntOps.isub_0 (q _ _ .tok (.int _ _))
end
end Mine
end
namespace Mine

/-! the rules, with a name given by its number -/
theorem not_debug {x : Str} {k : Nat} (hk : ky x = k) (h : decide (k < 57) = true) : (x == ("__debug__" : Str)) = false := by
  have h1 := ky_get hk (of_decide_eq_true h)
  have h2 : ("__debug__" : Str) ∉ nms := by decide +kernel
  refine beq_eq_false_iff_ne.mpr fun e => h2 (e ▸ List.mem_of_getElem? h1)
noncomputable def notF (ω : Option (Nat × List PV)) (k : Nat) : Bool := match ω with | none => true | some (y, _) => !(y == k)
section
variable {t : Bool} {n : Nat} {sc : Scope} {ρ ρc : List (Nat × PV)} {ω : Option (Nat × List PV)} {out : Fl} {rest : List Stmt}
theorem Ev.nm {x : Str} {pos : Pos} {v : PV} {k : Nat} (hk : ky x = k) (hx : ρ.lookup k = some v) (h : decide (k < 57) = true := by rfl) : Ev n sc ρ (.Name x pos) v :=
  Ev.name (by rw [hk]; exact hx) (by rw [hk]; exact h) (not_debug hk h)
theorem Xs.asg {e : Expr} {x : Str} {p pos : Pos} {u : PV} {k : Nat} (hk : ky x = k) (h : Ev n sc ρ e u) (K : Xs t n sc ((k, u) :: drp k ρ) ω rest out) (h57 : decide (k < 57) = true := by rfl) (hl : sc.names.lookup x = some .local := by decide +kernel)
    (hω : notF ω k = true := by rfl) (hs : ∀ env : Env, swapsWith e (some (.Name x p)) pos.line env = pure false := by intro _; rfl) : Xs t n sc ρ ω (.Assign [.Name x p] e pos :: rest) out := by
  subst hk; exact Xs.assign h h57 hl hω hs K
theorem Xs.cel {e : Expr} {x : Str} {p pos : Pos} {u : PV} {k : Nat} (hk : ky x = k) (h : Ev n sc ρ e u) (K : Xs t n sc ((k, u) :: drp k ρ) ω rest out) (h57 : decide (k < 57) = true := by rfl) (hl : sc.names.lookup x = some .cell := by decide +kernel)
    (hω : notF ω k = true := by rfl) (hs : ∀ env : Env, swapsWith e (some (.Name x p)) pos.line env = pure false := by intro _; rfl) : Xs t n sc ρ ω (.Assign [.Name x p] e pos :: rest) out := by
  subst hk; exact Xs.cell h h57 hl hω hs K
theorem Xs.bor {e : Expr} {x : Str} {p pos : Pos} {y : Nat} {xs : List PV} {u : PV} {k : Nat} (hk : ky x = k) (h : Ev n sc ((y, .list xs) :: ρ) e u) (K : Xs t n sc ((k, u) :: drp k ρ) (some (y, xs)) rest out) (hf : flat u = true := by rfl) (h57 : decide (k < 57) = true := by rfl)
    (hl : sc.names.lookup x = some .local := by decide +kernel) (hω : notF (some (y, xs)) k = true := by rfl) (hs : ∀ env : Env, swapsWith e (some (.Name x p)) pos.line env = pure false := by intro _; rfl) : Xs t n sc ρ (some (y, xs)) (.Assign [.Name x p] e pos :: rest) out := by
  subst hk; exact Xs.borrow h hf h57 hl hω hs K
theorem Xs.thw {x : Str} {p pl pos : Pos} {k : Nat} (hk : ky x = k) (K : Xs false n sc (drp k ρ) (some (k, [])) rest out) (h57 : decide (k < 57) = true := by rfl) (hl : sc.names.lookup x = some .local := by decide +kernel) : Xs false n sc ρ none (.Assign [.Name x p] (.List [] pl) pos :: rest) out := by
  subst hk; exact Xs.thaw h57 hl K
theorem Xs.app {x : Str} {p ap cp pos : Pos} {e : Expr} {xs : List PV} {u : PV} {k : Nat} (hk : ky x = k) (h : Ev n sc ρ e u) (hlen : xs.length ≤ 100000) (K : Xs t n sc ρ (some (k, xs ++ [u])) rest out) (h57 : decide (k < 57) = true := by rfl)
    (hbase : ∀ env, attributeBase (.Name x p) "append" env (eval (.Name x p) env) = eval (.Name x p) env := by intro _; rfl)
    (hfew : ∀ env, ((backTo cp (starEach [e] env)).all (fun x => !x.1) && (backToKw cp (keywordEach [] env)).all (fun x => x.1.isSome)
      && decide (([e] : List Expr).length + ([] : List Keyword).length + (if ([] : List Keyword).isEmpty then 0 else 1) < 30)) = true := by intro _; rfl)
    (hline : (ap.endLine == cp.line) = true := by rfl) (htrees : ∀ env, backTo cp (starEach [e] env) = [(false, eval e env)] := by intro _; rfl) : Xs t n sc ρ (some (k, xs)) (.Expr (.Call (.Attribute (.Name x p) "append" ap) [e] [] cp) pos :: rest) out := by
  subst hk; exact Xs.append h hlen h57 (not_debug rfl h57) hbase hfew hline htrees K
theorem Xs.ins {x : Str} {p ap cp pos : Pos} {e₁ e₂ : Expr} {xs : List PV} {i : Nat} {u : PV} {k : Nat} (hk : ky x = k) (h₁ : Ev n sc ρ e₁ (.int i)) (h₂ : Ev n sc ρ e₂ u) (hi : i ≤ xs.length) (hlen : xs.length ≤ 100000) (K : Xs t n sc ρ (some (k, insAt xs i u)) rest out) (h57 : decide (k < 57) = true := by rfl)
    (hbase : ∀ env, attributeBase (.Name x p) "insert" env (eval (.Name x p) env) = eval (.Name x p) env := by intro _; rfl)
    (hfew : ∀ env, ((backTo cp (starEach [e₁, e₂] env)).all (fun x => !x.1) && (backToKw cp (keywordEach [] env)).all (fun x => x.1.isSome)
      && decide (([e₁, e₂] : List Expr).length + ([] : List Keyword).length + (if ([] : List Keyword).isEmpty then 0 else 1) < 30)) = true := by intro _; rfl)
    (hline : (ap.endLine == cp.line) = true := by rfl) (hplain : ∀ env, (backTo cp (starEach [e₁, e₂] env)).any (·.1) = false := by intro _; rfl) (hp : ∀ env, starEach [e₁, e₂] env = (false, eval e₁ env) :: starEach [e₂] env := by intro _; rfl) (hp' : ∀ env, starEach [e₂] env = (false, eval e₂ env) :: starEach [] env := by intro _; rfl) :
    Xs t n sc ρ (some (k, xs)) (.Expr (.Call (.Attribute (.Name x p) "insert" ap) [e₁, e₂] [] cp) pos :: rest) out := by
  subst hk; exact Xs.insert h₁ h₂ hi hlen h57 (not_debug rfl h57) hbase hfew hline hplain hp hp' K
theorem Xs.iadd {e : Expr} {x : Str} {p pos : Pos} {a b : Int} {k : Nat} (hk : ky x = k) (h0 : ρ.lookup k = some (.int a)) (h : Ev n sc ρ e (.int b)) (K : Xs t n sc ((k, .int (a + b)) :: drp k ρ) ω rest out) (h57 : decide (k < 57) = true := by rfl) (hl : sc.names.lookup x = some .local := by decide +kernel)
    (hω : notF ω k = true := by rfl) : Xs t n sc ρ ω (.AugAssign (.Name x p) .Add e pos :: rest) out := by
  subst hk; exact Xs.aug h0 h (fun w A O s y z _ _ ra rb Q E q => iop_add ra rb q) h57 hl hω K
theorem Xs.isub {e : Expr} {x : Str} {p pos : Pos} {a b : Int} {k : Nat} (hk : ky x = k) (h0 : ρ.lookup k = some (.int a)) (h : Ev n sc ρ e (.int b)) (K : Xs t n sc ((k, .int (a - b)) :: drp k ρ) ω rest out) (h57 : decide (k < 57) = true := by rfl) (hl : sc.names.lookup x = some .local := by decide +kernel)
    (hω : notF ω k = true := by rfl) : Xs t n sc ρ ω (.AugAssign (.Name x p) .Sub e pos :: rest) out := by
  subst hk; exact Xs.aug h0 h (fun w A O s y z _ _ ra rb Q E q => iop_sub ra rb q) h57 hl hω K
theorem Xs.asc {elt target iter : Expr} {ifs : List Expr} {scope : Scope} {pos p spos : Pos} {y : Str} {xs ys : List PV} {k : Nat} (hk : ky y = k) (hi : EvI n sc ρ iter xs) (hc : Comp n (rel scope sc) target ifs elt ρc xs ys) (hlen : ys.length ≤ 100000) (h3 : 3 ≤ n)
    (K : Xs t n sc ((k, .list ys) :: drp k ρ) ω rest out) (hclo : Clo scope sc ρ ρc := by exact .inl ⟨rfl, by decide +kernel⟩)
    (hkind : scope.kind = .function := by rfl) (hnc : ∀ y ∈ scope.names, y.2 ≠ .cell := by decide +kernel) (hnames : ∀ x ∈ scope.names, x.2 = .local → scope.names.lookup x.1 = some .local := by decide +kernel) (hs : ∀ env x, foldedSetIterable iter env x = pure x := by intro _ _; rfl)
    (hline : p.line = pos.line := by rfl) (hn : (scope.names.any fun (n, k) => n == y && (k == .local || k == .cell)) = false := by decide +kernel)
    (h57 : decide (k < 57) = true := by rfl) (hl : sc.names.lookup y = some .local := by decide +kernel) (hω : notF ω k = true := by rfl) : Xs t n sc ρ ω (.Assign [.Name y p] (.ListComp elt [⟨target, iter, ifs, 0⟩] scope pos) spos :: rest) out := by
  subst hk; exact Xs.assign_comp hi hc hclo h3 hlen hkind hnc hnames hs hline hn h57 hl hω K
theorem Ev.cmpr {elt target iter : Expr} {ifs : List Expr} {scope : Scope} {pos : Pos} {xs ys : List PV} (hi : EvI n sc ρ iter xs) (hc : Comp n (rel scope sc) target ifs elt ρc xs ys) (hlen : ys.length ≤ 100000) (h3 : 3 ≤ n) (hclo : Clo scope sc ρ ρc := by exact .inl ⟨rfl, by decide +kernel⟩)
    (hkind : scope.kind = .function := by rfl) (hnc : ∀ y ∈ scope.names, y.2 ≠ .cell := by decide +kernel) (hnames : ∀ x ∈ scope.names, x.2 = .local → scope.names.lookup x.1 = some .local := by decide +kernel) (hs : ∀ env x, foldedSetIterable iter env x = pure x := by intro _ _; rfl) :
    Ev n sc ρ (.ListComp elt [⟨target, iter, ifs, 0⟩] scope pos) (.list ys) := Ev.comp hi hc hclo h3 hlen hkind hnc hnames hs
theorem Ev.cp {op : CmpOp} {a b : Expr} {pos : Pos} {x y : PV} {c : Bool} (ha : Ev n sc ρ a x) (hb : Ev n sc ρ b y) (h : Cop op x y c) (hm : behindInMarks op b = false := by rfl) : Ev n sc ρ (.Compare a [op] [b] pos) (.bool c) := Ev.cmp ha hb h hm
theorem EvT.cp {op : CmpOp} {a b : Expr} {pos : Pos} {x y : PV} {c : Bool} (ha : Ev n sc ρ a x) (hb : Ev n sc ρ b y) (h : Cop op x y c) (hm : behindInMarks op b = false := by rfl) : EvT n sc ρ (.Compare a [op] [b] pos) c := EvT.cmp ha hb h hm
theorem EvT.b {e : Expr} {c : Bool} (h : Ev n sc ρ e (.bool c)) (hp : ∀ env whole, isTrue e env whole = (do let v ← whole; standAt e.pos; holding [v] (truthy v)) := by intro _ _; rfl) : EvT n sc ρ e c := EvT.bool h hp
theorem Evs.c {e : Expr} {es : List Expr} {x : PV} {xs : List PV} (h : Ev n sc ρ e x) (hs : Evs n sc ρ es xs) (hp : ∀ env, starEach (e :: es) env = (false, eval e env) :: starEach es env := by intro _; rfl) : Evs n sc ρ (e :: es) (x :: xs) := Evs.cons h hs hp
theorem Ev.sb {value slice : Expr} {pos : Pos} {o i r : PV} (hv : Ev n sc ρ value o) (hi : Ev n sc ρ slice i) (hg : Gop o i r) (hs : ∀ o i, ∃ ops, subscripted slice false o i = operate ops (getItem o i) := by intro _ _; exact ⟨_, rfl⟩) : Ev n sc ρ (.Subscript value slice pos) r := Ev.sub hv hi hg hs
theorem Ev.fn {f : Str} {k : Nat} {e : Expr} {es : List Expr} {p pos : Pos} {xs : List PV} {x : PV} (hf : ∀ h, GF h → ∃ mg, h.Ns mainGlobals mg ∧ Fn0 h mg f k) (hsp : Fsp n k xs x) (ha : Evs n sc ρ (e :: es) xs)
    (hg : sc.names.lookup f = some .globalImplicit := by decide +kernel) (hd : (f == ("__debug__" : Str)) = false := by decide +kernel) (hp : ∀ env, starEach (e :: es) env = (false, eval e env) :: starEach es env := by intro _; rfl) :
    Ev n sc ρ (.Call (.Name f p) (e :: es) [] pos) x := Ev.call hf hsp ha hg hd hp
theorem Ev.fb {f : Str} {id : String} {e : Expr} {es : List Expr} {p pos : Pos} {xs : List PV} {x : PV}
    (hf : ∀ h, GF h → ∃ mg mb, h.Ns mainGlobals mg ∧ mg f = Option.none ∧ h.Ns builtinsNs mb ∧ mb f = some (.builtin id)) (hsp : Bsp id xs x) (ha : Evs n sc ρ (e :: es) xs)
    (hg : sc.names.lookup f = some .globalImplicit := by decide +kernel) (hd : (f == ("__debug__" : Str)) = false := by decide +kernel) (hp : ∀ env, starEach (e :: es) env = (false, eval e env) :: starEach es env := by intro _; rfl)
    (hpl : ∀ env, (backTo pos (starEach es env)).any (·.1) = false := by intro _; rfl) : Ev n sc ρ (.Call (.Name f p) (e :: es) [] pos) x := Ev.callB hf hsp ha hg hd hp hpl
theorem Ev.gl {f : Str} {pos : Pos} {x : PV} (hf : ∀ h, GF h → ∃ mg v, h.Ns mainGlobals mg ∧ mg f = some v ∧ ∀ O, Rep O h v x) (hg : sc.names.lookup f = some .globalImplicit := by decide +kernel) (hd : (f == ("__debug__" : Str)) = false := by decide +kernel) : Ev n sc ρ (.Name f pos) x := Ev.glob hf hg hd
theorem Xs.done {ρ' : List (Nat × PV)} (h : ∀ p ∈ ρ', p ∈ ρ) : Xs t n sc ρ ω [] (.next ρ' ω) := Xs.sub Xs.nil h
theorem Tg.v {x : Str} {p : Pos} {u : PV} {k : Nat} (hk : ky x = k) (h57 : decide (k < 57) = true := by rfl) (hl : sc.names.lookup x = some .local := by decide +kernel) (hω : notF ω k = true := by rfl) : Tg n sc (.Name x p) u ρ ω ((k, u) :: drp k ρ) := by
  subst hk; exact Tg.name h57 hl hω
theorem Tg.v2 {x y : Str} {p p' pos : Pos} {k : Nat} {a b : PV} {i j : Nat} (hi : ky x = i) (hj : ky y = j) (hx : decide (i < 57) = true := by rfl) (hl : sc.names.lookup x = some .local := by decide +kernel) (hω : notF ω i = true := by rfl)
    (hy : decide (j < 57) = true := by rfl) (hl' : sc.names.lookup y = some .local := by decide +kernel) (hω' : notF ω j = true := by rfl) :
    Tg n sc (.Tuple [.Name x p, .Name y p'] k pos) (.tup [a, b]) ρ ω ((j, b) :: drp j ((i, a) :: drp i ρ)) := by
  subst hi hj; exact Tg.tup2 hx hl hω hy hl' hω'
theorem TgL.v {x : Str} {p : Pos} {u : PV} {k : Nat} (hk : ky x = k) (h57 : decide (k < 57) = true := by rfl) (hl : sc.names.lookup x = some .local := by decide +kernel) : TgL n sc (.Name x p) u ρ ((k, u) :: drp k ρ) := by
  subst hk; exact TgL.name h57 hl
theorem TgL.v2 {x y : Str} {p p' pos : Pos} {k : Nat} {a b : PV} {i j : Nat} (hi : ky x = i) (hj : ky y = j) (hx : decide (i < 57) = true := by rfl) (hl : sc.names.lookup x = some .local := by decide +kernel)
    (hy : decide (j < 57) = true := by rfl) (hl' : sc.names.lookup y = some .local := by decide +kernel) : TgL n sc (.Tuple [.Name x p, .Name y p'] k pos) (.tup [a, b]) ρ ((j, b) :: drp j ((i, a) :: drp i ρ)) := by
  subst hi hj; exact TgL.seq2 hx hl hy hl'
theorem TgL.v3 {x y z : Str} {p p' p'' pos : Pos} {k : Nat} {a b c : PV} {i j l : Nat} (hi : ky x = i) (hj : ky y = j) (hz : ky z = l) (hx : decide (i < 57) = true := by rfl) (hl : sc.names.lookup x = some .local := by decide +kernel)
    (hy : decide (j < 57) = true := by rfl) (hl' : sc.names.lookup y = some .local := by decide +kernel) (hz' : decide (l < 57) = true := by rfl) (hl'' : sc.names.lookup z = some .local := by decide +kernel) :
    TgL n sc (.Tuple [.Name x p, .Name y p', .Name z p''] k pos) (.tup [a, b, c]) ρ ((l, c) :: drp l ((j, b) :: drp j ((i, a) :: drp i ρ))) := by
  subst hi hj hz; exact TgL.seq3 hx hl hy hl' hz' hl''

/-! loops by their states -/
theorem while_run {σ : Type} (inv : σ → Prop) (c : σ → Bool) (f : σ → σ) (μ : σ → Nat) (hf : ∀ s, inv s → c s = true → inv (f s) ∧ μ (f s) < μ s) : ∀ (m : Nat) (s : σ), μ s ≤ m → inv s → ∃ (N : Nat) (g : Nat → σ), g 0 = s ∧ (∀ i, i < N → inv (g i) ∧ c (g i) = true ∧ g (i + 1) = f (g i)) ∧ inv (g N) ∧ c (g N) = false
  | 0, s, hm, hi => by
    cases hc : c s with
    | true => have := (hf s hi hc).2; omega
    | false => exact ⟨0, fun _ => s, rfl, fun i h => absurd h (Nat.not_lt_zero _), hi, hc⟩
  | m + 1, s, hm, hi => by
    cases hc : c s with
    | false => exact ⟨0, fun _ => s, rfl, fun i h => absurd h (Nat.not_lt_zero _), hi, hc⟩
    | true =>
      have h := hf s hi hc
      obtain ⟨N, g, g0, gs, gi, gc⟩ := while_run inv c f μ hf m (f s) (by omega) h.1
      refine ⟨N + 1, fun i => match i with | 0 => s | i + 1 => g i, rfl, fun i hi' => ?_, gi, gc⟩
      cases i with
      | zero => exact ⟨hi, hc, g0⟩
      | succ i => exact gs i (by omega)
theorem Xs.loop {test : Expr} {body : List Stmt} {pos : Pos} {σ : Type} (R : σ → List (Nat × PV)) (W : σ → Option (Nat × List PV)) (inv : σ → Prop) (c : σ → Bool) (f : σ → σ) (μ : σ → Nat) (s0 : σ) (h0 : ∀ p ∈ R s0, p ∈ ρ) (hW : W s0 = ω) (i0 : inv s0)
    (ht : ∀ s, inv s → EvT n sc (R s) test (c s)) (hf : ∀ s, inv s → c s = true → inv (f s) ∧ μ (f s) < μ s) (hb : ∀ s, inv s → c s = true → Xs t n sc (R s) (W s) body (.next (R (f s)) (W (f s))))
    (k : ∀ s, inv s → c s = false → Xs t n sc (R s) (W s) rest out) : Xs t n sc ρ ω (.While test body [] pos :: rest) out := by
  obtain ⟨N, g, g0, gs, gi, gc⟩ := while_run inv c f μ hf (μ s0) s0 (Nat.le_refl _) i0
  refine Xs.while N (fun i => R (g i)) (fun i => W (g i)) (by rw [g0]; exact h0) (by rw [g0]; exact hW) (fun i hi => ?_) (fun i hi => ?_) ?_ (k _ gi gc)
  · have := ht _ (gs i hi).1; rwa [(gs i hi).2.1] at this
  · show Xs t n sc (R (g i)) (W (g i)) body (.next (R (g (i + 1))) (W (g (i + 1))))
    rw [(gs i hi).2.2]
    exact hb _ (gs i hi).1 (gs i hi).2.1
  · have := ht _ gi; rwa [gc] at this
theorem Xs.each {α σ : Type} {target iter : Expr} {body : List Stmt} {pos : Pos} (l : List α) (enc : α → PV) (hi : EvI n sc ρ iter (l.map enc)) (hn : 3 ≤ n) (R : σ → List (Nat × PV)) (W : σ → Option (Nat × List PV)) (f : σ → α → σ) (s0 : σ) (h0 : ∀ p ∈ R s0, p ∈ ρ) (hW : W s0 = ω)
    (turn : ∀ pre a post, l = pre ++ a :: post → ∃ ρ₁, Tg n sc target (enc a) (R (pre.foldl f s0)) (W (pre.foldl f s0)) ρ₁ ∧ Xs true n sc ρ₁ (W (pre.foldl f s0)) body (.next (R (f (pre.foldl f s0) a)) (W (f (pre.foldl f s0) a))))
    (k : Xs t n sc (R (l.foldl f s0)) (W (l.foldl f s0)) rest out) (hs : ∀ env x, foldedSetIterable iter env x = pure x := by intro _ _; rfl) : Xs t n sc ρ ω (.For target iter body [] pos :: rest) out := by
  refine Xs.for hi hn (fun i => R ((l.take i).foldl f s0)) (fun i => W ((l.take i).foldl f s0)) (by simpa using h0) (by simpa using hW) (fun i x hx => ?_) (by rw [List.length_map, List.take_length]; exact k) hs
  rw [List.getElem?_map, Option.map_eq_some_iff] at hx
  obtain ⟨a, ha, rfl⟩ := hx
  obtain ⟨hlt, rfl⟩ := List.getElem?_eq_some_iff.mp ha
  obtain ⟨ρ₁, h1, h2⟩ := turn (l.take i) l[i] (l.drop (i + 1)) (by rw [← List.drop_eq_getElem_cons hlt, List.take_append_drop])
  have e : (l.take (i + 1)).foldl f s0 = f ((l.take i).foldl f s0) l[i] := by rw [List.take_succ_eq_append_getElem hlt, List.foldl_append]; rfl
  exact ⟨ρ₁, h1, by rw [e]; exact h2⟩
end
end Mine
namespace Mine

/-! functions with defaults -/
theorem seq4 : ((("lo" : Str) == ("a" : Str)) = false) ∧ ((("lo" : Str) == ("x" : Str)) = false) ∧ ((("hi" : Str) == ("a" : Str)) = false) ∧ ((("hi" : Str) == ("x" : Str)) = false) ∧ ((("hi" : Str) == ("lo" : Str)) = false)
  ∧ ((("key" : Str) == ("a" : Str)) = false) ∧ ((("key" : Str) == ("x" : Str)) = false) ∧ ((("key" : Str) == ("lo" : Str)) = false) ∧ ((("key" : Str) == ("hi" : Str)) = false) ∧ ((("x" : Str) == ("a" : Str)) = false) ∧ ((("lo" : Str) == ("lo" : Str)) = true) ∧ ((("hi" : Str) == ("hi" : Str)) = true) ∧ ((("a" : Str) == ("a" : Str)) = true) ∧ ((("x" : Str) == ("x" : Str)) = true) ∧ ((("key" : Str) == ("key" : Str)) = true) := by decide +kernel
structure Par5 (k : Nat) : Prop where
  p1 : (fA k).posonlyargs = []
  p2 : (fA k).args.map (·.arg) = [("a" : Str), ("x" : Str), ("lo" : Str), ("hi" : Str)]
  p3 : (fA k).kwonlyargs.map (·.arg) = [("key" : Str)]
  p4 : (fA k).vararg = none
  p5 : (fA k).kwarg = none
theorem par5_1 : Par5 1 := ⟨rfl, rfl, rfl, rfl, rfl⟩
theorem par5_2 : Par5 2 := ⟨rfl, rfl, rfl, rfl, rfl⟩
theorem par5_3 : Par5 3 := ⟨rfl, rfl, rfl, rfl, rfl⟩
noncomputable def ps5 : List Str := ["a", "x", "lo", "hi", "key"]
noncomputable def Dflt (h : Heap) (T K : Addr) (t : Tok) : Prop := (∃ o n, h.get? T = some o ∧ o.data = .seq #[.int 0 t, .none] n) ∧ ∃ mk, h.Ns K mk ∧ mk "key" = some .none
theorem binds2 {k : Nat} {s : Shared} {fd : FuncData} {T K : Addr} {v1 v2 : Value} {t : Tok} (P : Par5 k) (h1 : fd.params = fA k) (h2 : fd.defaults = .ref T) (h3 : fd.kwdefaults = .ref K) (hD : Dflt s.heap T K t) : BindsTo s fd ⟨[v1, v2], []⟩ (ps5.zip [v1, v2, .int 0 t, .none, .none]) := by
  intro M A E Q q
  unfold bindArgs
  obtain ⟨p1, p2, p3, p4, p5⟩ := P
  obtain ⟨⟨o, n, ho, hd⟩, ⟨mk, hmk, hkey⟩⟩ := hD
  obtain ⟨q1, q2, q3, q4, q5, q6, q7, q8, q9, q10, q11, q12, q13, q14, q15⟩ := seq4
  rw [h1, h2, h3]
  simp only [p1, p2, p3, p4, p5, List.map_nil, List.nil_append, List.forIn_nil, pure_bind]
  refine wpAny_bind (wpAny_seqItems ho hd ?_)
  simp [List.zip_cons_cons, List.drop, List.take, List.filter, List.lookup, q1, q2, q3, q4, q5, q6, q7, q8, q9, q10, q11, q12, q13, q14, q15]
  refine wpAny_bind (wpAny_nsGet hmk ?_)
  rw [hkey]
  simp [List.lookup, q1, q2, q3, q4, q5, q6, q7, q8, q9, q10, q11, q12, q13, q14, q15]
  exact wpAny_pure q
theorem binds4 {k : Nat} {s : Shared} {fd : FuncData} {T K : Addr} {v1 v2 v3 v4 : Value} {t : Tok} (P : Par5 k) (h1 : fd.params = fA k) (h2 : fd.defaults = .ref T) (h3 : fd.kwdefaults = .ref K) (hD : Dflt s.heap T K t) : BindsTo s fd ⟨[v1, v2, v3, v4], []⟩ (ps5.zip [v1, v2, v3, v4, .none]) := by
  intro M A E Q q
  unfold bindArgs
  obtain ⟨p1, p2, p3, p4, p5⟩ := P
  obtain ⟨⟨o, n, ho, hd⟩, ⟨mk, hmk, hkey⟩⟩ := hD
  obtain ⟨q1, q2, q3, q4, q5, q6, q7, q8, q9, q10, q11, q12, q13, q14, q15⟩ := seq4
  rw [h1, h2, h3]
  simp only [p1, p2, p3, p4, p5, List.map_nil, List.nil_append, List.forIn_nil, pure_bind]
  refine wpAny_bind (wpAny_seqItems ho hd ?_)
  simp [List.zip_cons_cons, List.drop, List.take, List.filter, List.lookup, q1, q2, q3, q4, q5, q6, q7, q8, q9, q10, q11, q12, q13, q14, q15]
  refine wpAny_bind (wpAny_nsGet hmk ?_)
  rw [hkey]
  simp [List.lookup, q1, q2, q3, q4, q5, q6, q7, q8, q9, q10, q11, q12, q13, q14, q15]
  exact wpAny_pure q
theorem Dflt.keeps {h h' : Heap} {T K : Addr} {t : Tok} (z : Dflt h T K t) (hk : ∀ b o, h.get? b = some o → h'.get? b = some o) : Dflt h' T K t :=
  ⟨let ⟨o, n, a, b⟩ := z.1; ⟨o, n, hk _ _ a, b⟩, let ⟨m, a, b⟩ := z.2; ⟨m, ns_keeps a hk, b⟩⟩
theorem call_core {n k : Nat} {ps : List Str} {vs vs' : List Value} {args' : List PV} {x : PV} {dV kV : Value} {w : World} {A : Around} {O : Addr → Prop} {s : Shared} {a : Addr} {Q : Value → Shared → Prop} {E : Value → Shared → Prop}
    (hA : Rm (n + 1) A) (hO : Own O s) (hG : GF s.heap) (hf : FnAt s.heap a k dV kV) (hr : Reps O s.heap vs' args')
    (hb : ∀ (fd : FuncData), fd.params = fA k → fd.defaults = dV → fd.kwdefaults = kV → BindsTo s fd ⟨vs, []⟩ (ps.zip vs'))
    (hcell : ∀ y ∈ (fS k).names, y.2 ≠ .cell) (hloc : ∀ p ∈ ps, (fS k).names.lookup p = some .local) (hnd : ps.Nodup) (hky : ∀ p ∈ ps, ky p < 57)
    (hl : args'.length = ps.length) (hX : Xs false n (fS k) ((ps.map ky).zip args') none (fB k) (.ret x))
    (hco : (fS k).isCoroutine = false) (hgen : (fS k).isGenerator = false) (hk : (fS k).kind = .function) (q : ∀ v s', Ext s s' → Rep O s'.heap v x → Q v s') : wpAny (MM w) A (call (.ref a) vs) Q E s := by
  obtain ⟨o, name, qual, doc, pm, an, cd, ct, ho, hd, hc⟩ := hf.is
  have hlen : vs'.length = ps.length := hr.length.trans hl
  refine wpAny_call (codeAny_call_def (binds := ps.zip vs') hA.depth ho hd hG.lim hc rfl (hb _ rfl rfl rfl) hcell (fun p hp => hloc _ ?_) (fun h₁ hn hk₁ => ?_) hco hgen hk)
  · have : p.1 ∈ (ps.zip vs').map (·.1) := List.mem_map.mpr ⟨p, hp, rfl⟩
    rwa [zip_keys hlen] at this
  · have hex : Ext s { s with heap := h₁, toks := s.toks + (ps.zip vs').length } := .of hk₁
    refine hX w _ _ O none s _ (hA.deeper _) ⟨rfl, hk, rfl, rfl, Nat.zero_le _, fun x hx => absurd rfl (hcell _ (lookup_in hx))⟩ hG ⟨fun y c hc => (by simp [callEnv, newEnv] at hc), ⟨hex, ?_, ?_, _, hn, ?_⟩, trivial⟩ _ _ ?_
    · exact ext_fresh (.refl s)
    · exact Own.step (fun a ha => hO a (ha.elim id fun e => by cases e)) hex
    · intro p hp y hy
      obtain ⟨z, v, h1, h2, h3, h4⟩ := zip_reps (f := ky) hr hl p hp
      have hzy : z = y := by
        have := ky_get h2 (h2 ▸ hky z h1)
        rw [hy] at this; exact (Option.some.inj this).symm
      subst hzy
      refine ⟨v, .inl ⟨hloc z h1, ?_⟩, ?_⟩
      · exact lookup_rev h3 (by rw [zip_keys hlen]; exact hnd)
      · exact (h4.ext hex).mono (fun a ha => ha.elim id fun e => by cases e) fun _ _ _ e => e
    · exact fun v s' e r => q v s' e r

noncomputable def FspD (n k : Nat) (args : List PV) (x : PV) : Prop :=
  ∀ (w : World) (A : Around) (O : Addr → Prop) (s : Shared) (a T K : Addr) (t : Tok) (vs : List Value), Rm n A → Own O s → GF s.heap → FnAt s.heap a k (.ref T) (.ref K) → Dflt s.heap T K t → Reps O s.heap vs args →
    ∀ (Q : Value → Shared → Prop) (E : Value → Shared → Prop), (∀ v s', Ext s s' → Rep O s'.heap v x → Q v s') → wpAny (MM w) A (call (.ref a) vs) Q E s
theorem FspD.mk2 {n k : Nat} {u1 u2 : PV} {x : PV} (hb : Par5 k) (hcell : ∀ y ∈ (fS k).names, y.2 ≠ .cell) (hloc : ∀ p ∈ ps5, (fS k).names.lookup p = some .local)
    (hX : Xs false n (fS k) [(0, u1), (1, u2), (2, .int 0), (3, .none), (4, .none)] none (fB k) (.ret x)) (hco : (fS k).isCoroutine = false) (hgen : (fS k).isGenerator = false) (hk : (fS k).kind = .function) : FspD (n + 1) k [u1, u2] x := by
  intro w A O s a T K t vs hA hO hG hf hD hr Q E q
  obtain _ | ⟨ra, _ | ⟨rb, _ | _⟩⟩ := hr
  rename_i v1 v2
  refine call_core (vs' := [v1, v2, .int 0 t, .none, .none]) (args' := [u1, u2, .int 0, .none, .none]) (ps := ps5) hA hO hG hf (.cons ra (.cons rb (.cons (.int _ _) (.cons .none (.cons .none .nil))))) (fun fd h1 h2 h3 => ?_) hcell hloc (by decide +kernel) (by decide +kernel) rfl ?_ hco hgen hk q
  · exact binds2 hb h1 h2 h3 hD
  · have e : (ps5.map ky).zip [u1, u2, .int 0, .none, .none] = [(0, u1), (1, u2), (2, .int 0), (3, .none), (4, .none)] := by
      simp only [ps5, List.map, ky_a, ky_x, ky_lo, ky_hi, ky_key, List.zip_cons_cons, List.zip_nil_right]
    rw [e]; exact hX
theorem FspD.mk4 {n k : Nat} {u1 u2 u3 u4 : PV} {x : PV} (hb : Par5 k) (hcell : ∀ y ∈ (fS k).names, y.2 ≠ .cell) (hloc : ∀ p ∈ ps5, (fS k).names.lookup p = some .local)
    (hX : Xs false n (fS k) [(0, u1), (1, u2), (2, u3), (3, u4), (4, .none)] none (fB k) (.ret x)) (hco : (fS k).isCoroutine = false) (hgen : (fS k).isGenerator = false) (hk : (fS k).kind = .function) : FspD (n + 1) k [u1, u2, u3, u4] x := by
  intro w A O s a T K t vs hA hO hG hf hD hr Q E q
  obtain _ | ⟨ra, _ | ⟨rb, _ | ⟨rc, _ | ⟨rd, _ | _⟩⟩⟩⟩ := hr
  rename_i v1 v2 v3 v4
  refine call_core (vs' := [v1, v2, v3, v4, .none]) (args' := [u1, u2, u3, u4, .none]) (ps := ps5) hA hO hG hf (.cons ra (.cons rb (.cons rc (.cons rd (.cons .none .nil))))) (fun fd h1 h2 h3 => ?_) hcell hloc (by decide +kernel) (by decide +kernel) rfl ?_ hco hgen hk q
  · exact binds4 hb h1 h2 h3 hD
  · have e : (ps5.map ky).zip [u1, u2, u3, u4, .none] = [(0, u1), (1, u2), (2, u3), (3, u4), (4, .none)] := by
      simp only [ps5, List.map, ky_a, ky_x, ky_lo, ky_hi, ky_key, List.zip_cons_cons, List.zip_nil_right]
    rw [e]; exact hX
section
variable {t : Bool} {n : Nat} {sc : Scope} {ρ : List (Nat × PV)} {ω : Option (Nat × List PV)} {out : Fl} {rest : List Stmt}
theorem Ev.fd {f : Str} {k : Nat} {e : Expr} {es : List Expr} {p pos : Pos} {xs : List PV} {x : PV} (hf : ∀ h, GF h → ∃ mg, h.Ns mainGlobals mg ∧ FnD h mg f k) (hsp : FspD n k xs x) (ha : Evs n sc ρ (e :: es) xs)
    (hg : sc.names.lookup f = some .globalImplicit := by decide +kernel) (hd : (f == ("__debug__" : Str)) = false := by decide +kernel) (hp : ∀ env, starEach (e :: es) env = (false, eval e env) :: starEach es env := by intro _; rfl) :
    Ev n sc ρ (.Call (.Name f p) (e :: es) [] pos) x := by
  intro w A env O s₀ s hA he hG hL Q E q
  obtain ⟨mg, hmg, a, T, K, hfa, hfn, ⟨oT, nT, tT, hT⟩, hK⟩ := hf _ hG
  refine Call_ (Calls.Name_function_global he.kind (by unfold Env.kindOf; rw [he.scope]; exact hg) (Calls.loadGlobal_global (by rw [he.globals]; exact hmg) hfa ?_) hd)
  obtain ⟨o, name, qual, doc, pm, an, cd, ct, ho, hdat, hc⟩ := hfn.is
  refine callWith_def hdat (ha w A env O s₀ s pos hA he hG hL _ _ fun vs s₁ e₁ r₁ => ⟨e₁.heap _ _ ho, ?_⟩) (hp env)
  exact hsp w A O s₁ a T K tT vs hA (hL.own.step e₁) (hG.ext e₁) (hfn.keeps e₁.heap) (Dflt.keeps ⟨⟨oT, nT, hT⟩, hK⟩ e₁.heap) r₁ _ _ fun v s₂ e₂ r₂ => q v s₂ (e₁.trans e₂) r₂
end
end Mine
namespace Mine
section
variable {t : Bool} {n : Nat} {sc : Scope} {ρ : List (Nat × PV)} {ω : Option (Nat × List PV)} {out : Fl} {rest : List Stmt}
theorem Ev.to {e : Expr} {x y : PV} (h : Ev n sc ρ e x) (he : x = y) : Ev n sc ρ e y := he ▸ h
theorem EvT.to {e : Expr} {x y : Bool} (h : EvT n sc ρ e x) (he : x = y) : EvT n sc ρ e y := he ▸ h
end
/-- where a row is parted -/
noncomputable def Cut (p : Int → Bool) (l : List Int) (r : Nat) : Prop := r ≤ l.length ∧ ∀ i v, l[i]? = some v → (p v = true ↔ i < r)
noncomputable def intL (l : List Int) : PV := .list (l.map .int)
theorem mid_lt {lo hi : Nat} (h : lo < hi) : (lo + hi) / 2 < hi ∧ lo ≤ (lo + hi) / 2 := by omega
theorem mid_int {lo hi : Nat} : PV.int (Int.fdiv ((lo : Int) + hi) 2) = .int (((lo + hi) / 2 : Nat) : Int) := by
  congr 1
  rw [Int.fdiv_eq_ediv_of_nonneg _ (by decide)]
  omega
theorem bisect_left_walk {n : Nat} {l : List Int} {x : Int} {r : Nat} (hc : Cut (fun v => decide (v < x)) l r) (hlen : l.length ≤ 100000) : FspD (n + 1) 3 [intL l, .int x] (.int r) := by
  refine FspD.mk2 par5_3 (by decide +kernel) (by decide +kernel) ?_ (by decide +kernel) (by decide +kernel) (by decide +kernel)
  refine Xs.if_next (b := false) ((EvT.cp (Ev.nm ky_lo rfl) Ev.int Cop.lt_int).to (by decide)) Xs.nil ?_
  refine Xs.if_next (b := true) (ρ₁ := [(0, intL l), (1, .int x), (2, .int 0), (3, .int l.length), (4, .none)]) (ω₁ := none) ((EvT.cp (Ev.nm ky_hi rfl) Ev.none Cop.is_none).to rfl)
    (Xs.asg ky_hi (Ev.fb gfb_len (Bsp.len_list (xs := l.map .int) (by rw [List.length_map]; omega)) (Evs.c (Ev.nm ky_a rfl) Evs.nil)) (Xs.done (by simp [drp]))) ?_
  refine Xs.if_next (b := true) (ρ₁ := [(0, intL l), (1, .int x), (2, .int r), (3, .int r), (4, .none)]) (ω₁ := none) ((EvT.cp (Ev.nm ky_key rfl) Ev.none Cop.is_none).to rfl) ?_ (Xs.ret (Ev.nm ky_lo rfl))
  refine Xs.loop (σ := Nat × Nat) (fun s => [(0, intL l), (1, .int x), (2, .int s.1), (3, .int s.2), (4, .none)]) (fun _ => none) (fun s => s.1 ≤ r ∧ r ≤ s.2 ∧ s.2 ≤ l.length) (fun s => decide (s.1 < s.2))
    (fun s => if (s.1 + s.2) / 2 < r then ((s.1 + s.2) / 2 + 1, s.2) else (s.1, (s.1 + s.2) / 2)) (fun s => s.2 - s.1) (0, l.length) (by simp) rfl ⟨Nat.zero_le _, hc.1, Nat.le_refl _⟩ ?_ ?_ ?_ ?_
  · rintro ⟨lo, hi⟩ ⟨h1, h2, h3⟩
    exact (EvT.cp (Ev.nm ky_lo rfl) (Ev.nm ky_hi rfl) Cop.lt_int).to (by simp)
  · rintro ⟨lo, hi⟩ ⟨h1, h2, h3⟩ h4
    have h4 : lo < hi := by simpa using h4
    have := mid_lt h4
    dsimp only at *
    split <;> dsimp only <;> omega
  · rintro ⟨lo, hi⟩ ⟨h1, h2, h3⟩ h4
    have h4 : lo < hi := by simpa using h4
    have hm := mid_lt h4
    dsimp only at *
    obtain ⟨v, hv⟩ : ∃ v, l[(lo + hi) / 2]? = some v := ⟨_, List.getElem?_eq_getElem (by omega)⟩
    have hp := hc.2 _ _ hv
    refine Xs.asg ky_mid ((Ev.bin (Ev.bin (Ev.nm ky_lo rfl) (Ev.nm ky_hi rfl) Bop.add_int) Ev.int (Bop.fdiv_int (by decide) (by decide))).to mid_int) ?_
    by_cases hlt : (lo + hi) / 2 < r
    · rw [if_pos hlt]
      refine Xs.if_next (b := true) ((EvT.cp (Ev.sb (Ev.nm ky_a rfl) (Ev.nm ky_mid rfl) (Gop.list (xs := l.map .int) (y := .int v) (by omega) (by omega) (by rw [Int.toNat_natCast, List.getElem?_map, hv]; rfl))) (Ev.nm ky_x rfl) Cop.lt_int).to (hp.mpr hlt)) (Xs.asg ky_lo (Ev.bin (Ev.nm ky_mid rfl) Ev.int Bop.add_int) (Xs.done (ρ' := [(0, intL l), (1, .int x), (2, .int (((lo + hi) / 2 : Nat) + 1)), (3, .int hi), (4, .none)]) (by simp [drp]))) (Xs.done (by simp))
    · rw [if_neg hlt]
      refine Xs.if_next (b := false) ((EvT.cp (Ev.sb (Ev.nm ky_a rfl) (Ev.nm ky_mid rfl) (Gop.list (xs := l.map .int) (y := .int v) (by omega) (by omega) (by rw [Int.toNat_natCast, List.getElem?_map, hv]; rfl))) (Ev.nm ky_x rfl) Cop.lt_int).to (by simpa using fun h => hlt (hp.mp h))) (Xs.asg ky_hi (Ev.nm ky_mid rfl) (Xs.done (ρ' := [(0, intL l), (1, .int x), (2, .int lo), (3, .int ((lo + hi) / 2 : Nat)), (4, .none)]) (by simp [drp]))) (Xs.done (by simp))
  · rintro ⟨lo, hi⟩ ⟨h1, h2, h3⟩ h4
    have h4 : ¬ lo < hi := by simpa using h4
    dsimp only at *
    obtain rfl : lo = r := by omega
    obtain rfl : hi = lo := by omega
    exact Xs.nil
theorem bisect_right_walk {n : Nat} {l : List Int} {x : Int} {r : Nat} (hc : Cut (fun v => decide (v ≤ x)) l r) (hlen : l.length ≤ 100000) : FspD (n + 1) 2 [intL l, .int x, .int 0, .none] (.int r) := by
  refine FspD.mk4 par5_2 (by decide +kernel) (by decide +kernel) ?_ (by decide +kernel) (by decide +kernel) (by decide +kernel)
  refine Xs.if_next (b := false) ((EvT.cp (Ev.nm ky_lo rfl) Ev.int Cop.lt_int).to (by decide)) Xs.nil ?_
  refine Xs.if_next (b := true) (ρ₁ := [(0, intL l), (1, .int x), (2, .int 0), (3, .int l.length), (4, .none)]) (ω₁ := none) ((EvT.cp (Ev.nm ky_hi rfl) Ev.none Cop.is_none).to rfl)
    (Xs.asg ky_hi (Ev.fb gfb_len (Bsp.len_list (xs := l.map .int) (by rw [List.length_map]; omega)) (Evs.c (Ev.nm ky_a rfl) Evs.nil)) (Xs.done (by simp [drp]))) ?_
  refine Xs.if_next (b := true) (ρ₁ := [(0, intL l), (1, .int x), (2, .int r), (3, .int r), (4, .none)]) (ω₁ := none) ((EvT.cp (Ev.nm ky_key rfl) Ev.none Cop.is_none).to rfl) ?_ (Xs.ret (Ev.nm ky_lo rfl))
  refine Xs.loop (σ := Nat × Nat) (fun s => [(0, intL l), (1, .int x), (2, .int s.1), (3, .int s.2), (4, .none)]) (fun _ => none) (fun s => s.1 ≤ r ∧ r ≤ s.2 ∧ s.2 ≤ l.length) (fun s => decide (s.1 < s.2))
    (fun s => if (s.1 + s.2) / 2 < r then ((s.1 + s.2) / 2 + 1, s.2) else (s.1, (s.1 + s.2) / 2)) (fun s => s.2 - s.1) (0, l.length) (by simp) rfl ⟨Nat.zero_le _, hc.1, Nat.le_refl _⟩ ?_ ?_ ?_ ?_
  · rintro ⟨lo, hi⟩ ⟨h1, h2, h3⟩
    exact (EvT.cp (Ev.nm ky_lo rfl) (Ev.nm ky_hi rfl) Cop.lt_int).to (by simp)
  · rintro ⟨lo, hi⟩ ⟨h1, h2, h3⟩ h4
    have h4 : lo < hi := by simpa using h4
    have := mid_lt h4
    dsimp only at *
    split <;> dsimp only <;> omega
  · rintro ⟨lo, hi⟩ ⟨h1, h2, h3⟩ h4
    have h4 : lo < hi := by simpa using h4
    have hm := mid_lt h4
    dsimp only at *
    obtain ⟨v, hv⟩ : ∃ v, l[(lo + hi) / 2]? = some v := ⟨_, List.getElem?_eq_getElem (by omega)⟩
    have hp := hc.2 _ _ hv
    refine Xs.asg ky_mid ((Ev.bin (Ev.bin (Ev.nm ky_lo rfl) (Ev.nm ky_hi rfl) Bop.add_int) Ev.int (Bop.fdiv_int (by decide) (by decide))).to mid_int) ?_
    by_cases hlt : (lo + hi) / 2 < r
    · rw [if_pos hlt]
      have hq : v ≤ x := by simpa using hp.mpr hlt
      refine Xs.if_next (b := false) ((EvT.cp (Ev.nm ky_x rfl) (Ev.sb (Ev.nm ky_a rfl) (Ev.nm ky_mid rfl) (Gop.list (xs := l.map .int) (y := .int v) (by omega) (by omega) (by rw [Int.toNat_natCast, List.getElem?_map, hv]; rfl))) Cop.lt_int).to (by simpa using hq)) (Xs.asg ky_lo (Ev.bin (Ev.nm ky_mid rfl) Ev.int Bop.add_int) (Xs.done (ρ' := [(0, intL l), (1, .int x), (2, .int (((lo + hi) / 2 : Nat) + 1)), (3, .int hi), (4, .none)]) (by simp [drp]))) (Xs.done (by simp))
    · rw [if_neg hlt]
      have hq : ¬ v ≤ x := fun h => hlt (hp.mp (by simpa using h))
      refine Xs.if_next (b := true) ((EvT.cp (Ev.nm ky_x rfl) (Ev.sb (Ev.nm ky_a rfl) (Ev.nm ky_mid rfl) (Gop.list (xs := l.map .int) (y := .int v) (by omega) (by omega) (by rw [Int.toNat_natCast, List.getElem?_map, hv]; rfl))) Cop.lt_int).to (by simpa using hq)) (Xs.asg ky_hi (Ev.nm ky_mid rfl) (Xs.done (ρ' := [(0, intL l), (1, .int x), (2, .int lo), (3, .int ((lo + hi) / 2 : Nat)), (4, .none)]) (by simp [drp]))) (Xs.done (by simp))
  · rintro ⟨lo, hi⟩ ⟨h1, h2, h3⟩ h4
    have h4 : ¬ lo < hi := by simpa using h4
    dsimp only at *
    obtain rfl : lo = r := by omega
    obtain rfl : hi = lo := by omega
    exact Xs.nil
end Mine
namespace Mine

theorem PV_insAt_map {l : List Int} {r : Nat} {x : Int} : insAt (l.map .int) r (.int x) = (l.take r ++ x :: l.drop r).map .int := by
  unfold insAt; simp
/-- the body of insort_right -/
theorem insort_body {n : Nat} {l : List Int} {x : Int} {r : Nat} (hc : Cut (fun v => decide (v ≤ x)) l r) (hlen : l.length ≤ 100000) :
    ∃ ρ', Xs true (n + 1) (fS 1) [(1, .int x), (2, .int 0), (3, .none), (4, .none)] (some (0, l.map .int)) (fB 1) (.next ρ' (some (0, (l.take r ++ x :: l.drop r).map .int))) := by
  refine ⟨[(1, .int x), (2, .int r), (3, .none), (4, .none)], ?_⟩
  refine Xs.if_next (b := true) (ρ₁ := [(1, .int x), (2, .int r), (3, .none), (4, .none)]) (ω₁ := some (0, l.map .int)) ((EvT.cp (Ev.nm ky_key rfl) Ev.none Cop.is_none).to rfl)
    (Xs.bor ky_lo (Ev.fd gf_f2 (bisect_right_walk hc hlen) (Evs.c (Ev.nm ky_a rfl) (Evs.c (Ev.nm ky_x rfl) (Evs.c (Ev.nm ky_lo rfl) (Evs.c (Ev.nm ky_hi rfl) Evs.nil))))) (Xs.done (by simp [drp]))) ?_
  rw [← PV_insAt_map]
  exact Xs.ins ky_a (Ev.nm ky_lo rfl) (Ev.nm ky_x rfl) (by rw [List.length_map]; exact hc.1) (by rw [List.length_map]; exact hlen) Xs.nil

theorem hideOne {h : Heap} {D : Addr} {b : Addr} {o : Obj} (e : h.get? b = some o) (hb : b ≠ D) : (hideAll h [D]).get? b = some o := hideAll_get _ e fun hm => hb (List.mem_singleton.mp hm)

theorem St.atX {s₀ s s' : Shared} {env : Env} {O : Addr → Prop} {ρ : List (Nat × PV)} {x : Nat} {xs ys : List PV} {D : Addr} {vs : List Value} (z : St s₀ env O ρ (some (x, xs)) (some D) s) (kp : ∀ b o, b ≠ D → s.heap.get? b = some o → s'.heap.get? b = some o)
    (hg : ∀ (i : Nat) x, s.gens[i]? = some x → s'.gens[i]? = some x) (hb : AllBare s.gens → AllBare s'.gens) (ho : s'.os = s.os)
    (hp : s'.heap.PlainList D vs.toArray) (hr : Reps (within O (some D)) s'.heap vs ys) : St s₀ env O ρ (some (x, ys)) (some D) s' := by
  have zf : OwnL s₀ env O x xs s D := z.fill
  obtain ⟨ws, ⟨k, eD⟩, r⟩ := zf.has
  have hLD : env.locals ≠ D := by
    rintro e
    obtain ⟨m, ⟨oL, es, ep, hoL, hdL, _⟩, _⟩ := z.loc.ns
    rw [e, eD] at hoL; cases hoL; cases hdL
  have hCD : ∀ y c, env.cells.lookup y = some c → c ≠ D := by
    rintro y c hc e
    obtain ⟨_, v, o, e', d⟩ := z.cell y c hc
    rw [e, eD] at e'; cases e'; cases d
  obtain ⟨m, ⟨oL, es, ep, hoL, rL⟩, hrr⟩ := z.loc.ns
  refine ⟨fun y c hc => ?_, ⟨⟨fun b o e => kp b o (fun q => by rw [q, zf.new] at e; cases e) (z.ext.heap b o e), fun i x e => hg i x (z.ext.gens i x e), fun e => hb (z.ext.bare e), ho.trans z.ext.os⟩, z.loc.fresh, fun a ha => ?_, m, ⟨oL, es, ep, kp _ _ hLD hoL, rL⟩, fun p hp' y hy => ?_⟩, ?_⟩
  · obtain ⟨a, v, o, e, d⟩ := z.cell y c hc
    exact ⟨a, v, o, kp c o (hCD y c hc) e, d⟩
  · obtain ⟨o, e⟩ := z.loc.own a ha
    by_cases q : a = D
    · obtain ⟨n, e⟩ := hp; exact ⟨_, q ▸ e⟩
    · exact ⟨o, kp a o q e⟩
  · obtain ⟨v, hv, r⟩ := hrr p hp' y hy
    refine ⟨v, ?_, r.mono (fun a h => h) fun b o hb e => kp b o (fun q => hb (.inr (congrArg some q))) e⟩
    rcases hv with q | ⟨q, c, hc, ⟨o, e, d⟩⟩
    · exact .inl q
    · exact .inr ⟨q, c, hc, o, kp c o (hCD y c hc) e, d⟩
  · refine ⟨zf.new, zf.out, ?_, vs, hp, hr⟩
    obtain ⟨m, ⟨oL, es, ep, hoL, rL⟩, h1⟩ := zf.ns
    exact ⟨m, ⟨oL, es, ep, kp _ _ hLD hoL, rL⟩, h1⟩
theorem insort_call {n : Nat} {l : List Int} {x : Int} {r : Nat} (hc : Cut (fun v => decide (v ≤ x)) l r) (hlen : l.length ≤ 100000) {w : World} {A : Around} {O : Addr → Prop} {s₀ s : Shared} {a T K D : Addr} {tk t : Tok} {vs : List Value} {Q : Value → Shared → Prop} {E : Value → Shared → Prop}
    (hA : Rm (n + 2) A) (hO : Own (within O (some D)) s) (hG : GF s₀.heap) (hE : Ext s₀ s) (hD0 : s₀.heap.get? D = none) (hDO : ¬ O D) (hf : FnAt s₀.heap a 1 (.ref T) (.ref K)) (hd : Dflt s₀.heap T K tk) (hp : s.heap.PlainList D vs.toArray) (hr : Reps (within O (some D)) s.heap vs (l.map .int))
    (q : ∀ s' vs', (∀ b o, b ≠ D → s.heap.get? b = some o → s'.heap.get? b = some o) → (∀ (i : Nat) x, s.gens[i]? = some x → s'.gens[i]? = some x) → (AllBare s.gens → AllBare s'.gens) → s'.os = s.os → s'.heap.PlainList D (List.toArray vs') → Reps (within O (some D)) s'.heap vs' ((l.take r ++ x :: l.drop r).map .int) → Q .none s') :
    wpAny (MM w) A (call (.ref a) [.ref D, .int x t]) Q E s := by
  obtain ⟨ρ', hX⟩ := insort_body (n := n) hc hlen
  have eh : Ext s₀ { s with heap := hideAll s.heap [D] } := ⟨fun b o e => hideOne (hE.heap b o e) (fun z => by rw [z, hD0] at e; cases e), hE.gens, hE.bare, hE.os⟩
  have eb : Ext { s with heap := hideAll s.heap [D] } s := ⟨fun b o e => of_hideAll _ e, fun _ _ e => e, fun e => e, rfl⟩
  obtain ⟨o, name, qual, doc, pm, an, cd, ct, ho, hdd, hcc⟩ := (hf.keeps hE.heap).is
  have hGs := hG.ext hE
  have hloc : ∀ p ∈ ps5, (fS 1).names.lookup p = some .local := by decide +kernel
  have hcell : ∀ y ∈ (fS 1).names, y.2 ≠ .cell := by decide +kernel
  have hnd : ps5.Nodup := by decide +kernel
  have hco : (fS 1).isCoroutine = false := by decide +kernel
  have hgn : (fS 1).isGenerator = false := by decide +kernel
  have hkn : (fS 1).kind = .function := by decide +kernel
  obtain ⟨bs, hbs⟩ : ∃ bs : List (Str × Value), bs = ps5.zip [.ref D, .int x t, .int 0 tk, .none, .none] := ⟨_, rfl⟩
  have hkeys : bs.map (·.1) = ps5 := by rw [hbs]; exact zip_keys rfl
  have hB := binds2 (s := s) (fd := { name := name, qualname := qual, params := fA 1, body := .stmts (fB 1), scope := fS 1, globals := mainGlobals, closure := [], defaults := .ref T, kwdefaults := .ref K, doc := doc, pyModule := pm, annotations := an, code := cd, closureTuple := ct, builtins := builtinsNs })
    (v1 := .ref D) (v2 := .int x t) par5_1 rfl rfl rfl (hd.keeps hE.heap)
  rw [← hbs] at hB
  refine wpAny_call (codeAny_call_def (binds := bs) hA.depth ho hdd hGs.lim hcc rfl hB hcell (fun p hp => hloc _ ?_) (fun h₁ hn hk₁ => ?_) hco hgn hkn)
  · rw [← hkeys]; exact List.mem_map.mpr ⟨p, hp, rfl⟩
  · have hex : Ext s { s with heap := h₁, toks := s.toks + bs.length } := .of hk₁
    have lk : ∀ y v, (y, v) ∈ bs → bs.reverse.lookup y = some v := fun y v h => lookup_rev h (by rw [hkeys]; exact hnd)
    have hlk : ∀ y, y ∈ ps5 → (callEnv { name := name, qualname := qual, params := fA 1, body := .stmts (fB 1), scope := fS 1, globals := mainGlobals, closure := [], defaults := .ref T, kwdefaults := .ref K, doc := doc, pyModule := pm, annotations := an, code := cd, closureTuple := ct, builtins := builtinsNs } s.heap.objs.size a).kindOf y = some .local := fun y hy => hloc y hy
    refine hX w _ _ O (some D) { s with heap := hideAll s.heap [D] } _ (hA.deeper _) ⟨rfl, hkn, rfl, rfl, Nat.zero_le _, fun x hx => absurd rfl (hcell _ (lookup_in hx))⟩ (hG.ext eh) ⟨fun y c hc => (by simp [callEnv, newEnv] at hc), ⟨eb.trans hex, ?_, hO.step hex, _, hn, ?_⟩, ?_⟩ _ _ ?_
    · cases e : (hideAll s.heap [D]).get? s.heap.objs.size with
      | none => exact e
      | some o => exact absurd (Heap.lt_size (of_hideAll _ e)) (Nat.lt_irrefl _)
    · intro p hp y hy
      simp only [List.mem_cons, List.not_mem_nil, or_false] at hp
      rcases hp with rfl | rfl | rfl | rfl
      · obtain rfl : y = "x" := by have := ky_get ky_x (by decide); rw [hy] at this; exact Option.some.inj this
        exact ⟨_, .inl ⟨hlk _ (by decide +kernel), lk _ (.int x t) (by rw [hbs]; simp [ps5])⟩, .int _ _⟩
      · obtain rfl : y = "lo" := by have := ky_get ky_lo (by decide); rw [hy] at this; exact Option.some.inj this
        exact ⟨_, .inl ⟨hlk _ (by decide +kernel), lk _ (.int 0 tk) (by rw [hbs]; simp [ps5])⟩, .int _ _⟩
      · obtain rfl : y = "hi" := by have := ky_get ky_hi (by decide); rw [hy] at this; exact Option.some.inj this
        exact ⟨_, .inl ⟨hlk _ (by decide +kernel), lk _ .none (by rw [hbs]; simp [ps5])⟩, .none⟩
      · obtain rfl : y = "key" := by have := ky_get ky_key (by decide); rw [hy] at this; exact Option.some.inj this
        exact ⟨_, .inl ⟨hlk _ (by decide +kernel), lk _ .none (by rw [hbs]; simp [ps5])⟩, .none⟩
    · refine ⟨hideAll_none _ (.head _), hDO, ⟨_, hn, fun y hy => ?_⟩, vs, hp.at (hk₁ D), hr.ext hex⟩
      obtain rfl : y = "a" := by have := ky_get ky_a (by decide); rw [hy] at this; exact Option.some.inj this
      exact ⟨hlk _ (by decide +kernel), lk _ (.ref D) (by rw [hbs]; simp [ps5])⟩
    · intro s' D' hD' S'
      obtain rfl := hD' rfl
      have z : OwnL _ _ O 0 _ s' D := S'.fill
      obtain ⟨vs', g, r'⟩ := z.has
      exact q s' vs' (fun b o hb e => S'.ext.heap b o (hideOne e hb)) S'.ext.gens S'.ext.bare S'.ext.os g r'
section
variable {t : Bool} {n : Nat} {sc : Scope} {ρ : List (Nat × PV)} {ω : Option (Nat × List PV)} {out : Fl} {rest : List Stmt}
theorem Xs.insort {y : Str} {p p' cp pos : Pos} {e : Expr} {l : List Int} {x : Int} {r k : Nat} (hc : Cut (fun v => decide (v ≤ x)) l r) (hlen : l.length ≤ 100000) (hk : ky y = k) (h : Ev (n + 2) sc ρ e (.int x)) (K : Xs t (n + 2) sc ρ (some (k, (l.take r ++ x :: l.drop r).map .int)) rest out)
    (h57 : decide (k < 57) = true := by rfl) (hg : sc.names.lookup ("insort_right" : Str) = some .globalImplicit := by decide +kernel)
    (hp : ∀ env, starEach [.Name y p', e] env = (false, eval (.Name y p') env) :: starEach [e] env := by intro _; rfl) (hp' : ∀ env, starEach [e] env = (false, eval e env) :: starEach [] env := by intro _; rfl) :
    Xs t (n + 2) sc ρ (some (k, l.map .int)) (.Expr (.Call (.Name "insort_right" p) [.Name y p', e] [] cp) pos :: rest) out := by
  subst hk
  intro w A env O D s₀ s hA he hG hS Q E q
  cases D with
  | none => exact hS.fill.elim
  | some D =>
    have hint : interactive env = false := by unfold interactive; rw [he.kind]; rfl
    obtain ⟨mg, hmg, a, T, KK, hfa, hfn, ⟨oT, nT, tT, hT⟩, hKK⟩ := gf_f1 _ hG
    have hmg' := ns_keeps hmg hS.ext.heap
    refine wpAny_execs_cons (wpAny_Expr (Call_ (Calls.Name_function_global he.kind (by unfold Env.kindOf; rw [he.scope]; exact hg) (Calls.loadGlobal_global (by rw [he.globals]; exact hmg') hfa ?_) (by decide +kernel))) hint rfl)
    obtain ⟨o, name, qual, doc, pm, an, cd, ct, ho, hdat, hcc⟩ := hfn.is
    have z : OwnL s₀ env O (ky y) _ s D := hS.fill
    refine callWith_def hdat ?_ (hp env)
    have hsplit : ∀ (Q' : List Value → Shared → Prop), wpAny (MM w) A (eval (.Name y p') env) (fun v s' => wpAny (MM w) A (spliced (backTo cp (starEach [e] env))) (fun vs s'' => Q' (v :: vs) s'') E s') E s → wpAny (MM w) A (spliced (backTo cp (starEach [.Name y p', e] env))) Q' E s := fun Q' h => by
      rw [hp]; exact spliced_cons h
    refine hsplit _ (wp_fillName he z h57 (not_debug rfl h57) ?_)
    refine Evs.cons h Evs.nil hp' w A env _ s₀ s cp hA he (hS.gf hG) hS.loc _ _ fun vs s₁ e₁ r₁ => ⟨e₁.heap _ _ (hS.ext.heap _ _ ho), ?_⟩
    obtain _ | ⟨ra, _ | _⟩ := r₁
    cases ra
    rename_i tx
    have S₁ := hS.step e₁
    have z₁ : OwnL s₀ env O (ky y) _ s₁ D := S₁.fill
    obtain ⟨ws, g, r'⟩ := z₁.has
    refine insort_call hc hlen hA S₁.loc.own hG S₁.ext z₁.new z₁.out hfn ⟨⟨oT, nT, hT⟩, hKK⟩ g r' fun s' vs' k1 k2 k3 k4 g' r'' => ?_
    exact K w A env O (some D) s₀ s' hA he hG (S₁.atX k1 k2 k3 k4 g' r'') Q E q
end
end Mine
namespace Mine

/-! the tables -/
section
variable {t : Bool} {n : Nat} {sc : Scope} {ρ : List (Nat × PV)} {ω : Option (Nat × List PV)} {out : Fl} {rest : List Stmt}
theorem Ev.inB1 {e : Expr} {p pos : Pos} {k : Int} {b : Bool} (h : Ev n sc ρ e (.int k)) (hb : (b = true ∧ k ∈ unseenCodes) ∨ (b = false ∧ k ∈ greatCodes ++ oddCodes.map (·.1)))
    (hg : sc.names.lookup ("b1_set" : Str) = some .globalImplicit := by decide +kernel) (hm : behindInMarks .In (.Name "b1_set" p) = false := by rfl) : Ev n sc ρ (.Compare e [.In] [.Name "b1_set" p] pos) (.bool b) := by
  intro w A env O s₀ s hA he hG hL Q E q
  obtain ⟨mg, hmg, ⟨a, m, S, e0, e1, e2, e3⟩⟩ := gf_b1 _ hG
  refine wpAny_Compare1 (h w A env O s₀ s hA he hG hL _ _ fun u s₁ e₁ r₁ => ?_) hm
  cases r₁
  rename_i tk
  refine Calls.Name_function_global he.kind (by unfold Env.kindOf; rw [he.scope]; exact hg) (Calls.loadGlobal_global (by rw [he.globals]; exact ns_keeps hmg e₁.heap) e0 ?_) (by decide +kernel)
  have hS : s₁.heap.SetOf (intKind pw w) a S m := let ⟨o, es, ep, t, e, q⟩ := e1 w; ⟨o, es, ep, t, e₁.heap _ _ e, q⟩
  refine wpAny_inSet_of (knd := intKind pw w) (k := k) (by simp [intKind, Value.isInt]) rfl hS ?_
  have hv : S k = b := by
    rcases hb with ⟨rfl, h⟩ | ⟨rfl, h⟩
    · exact e2 k h
    · exact e3 k h
  rw [hv]
  exact q _ _ (e₁.trans .tok) (.bool _)
theorem MapOf_noDict {prog : Program} {w : World} {h : Heap} {a : Addr} {f : Int → Option Value} (x : h.MapOf (intKind prog w) a f) : ∀ b, Value.ref a = .ref b → ∃ ob, h.get? b = some ob ∧ ob.dict = none := by
  intro b e; cases e
  obtain ⟨o, es, ep, e, d, _⟩ := x
  exact ⟨o, e, d.2.1⟩
theorem Ev.getB3 {e : Expr} {p ap pos : Pos} {k : Int} {x : PV} (h : Ev n sc ρ e (.int k)) (hx : (x = .none ∧ k ∈ greatCodes) ∨ ∃ y, x = .str y ∧ (k, y) ∈ oddCodes)
    (hg : sc.names.lookup ("b3_exceptions" : Str) = some .globalImplicit := by decide +kernel)
    (hbase : ∀ env, attributeBase (.Name "b3_exceptions" p) "get" env (eval (.Name "b3_exceptions" p) env) = eval (.Name "b3_exceptions" p) env := by intro _; rfl)
    (hfew : ∀ env, ((backTo pos (starEach [e] env)).all (fun x => !x.1) && (backToKw pos (keywordEach [] env)).all (fun x => x.1.isSome)
      && decide (([e] : List Expr).length + ([] : List Keyword).length + (if ([] : List Keyword).isEmpty then 0 else 1) < 30)) = true := by intro _; rfl)
    (hline : (ap.endLine == pos.line) = true := by rfl) (htrees : ∀ env, backTo pos (starEach [e] env) = [(false, eval e env)] := by intro _; rfl) :
    Ev n sc ρ (.Call (.Attribute (.Name "b3_exceptions" p) "get" ap) [e] [] pos) x := by
  intro w A env O s₀ s hA he hG hL Q E q
  obtain ⟨mg, hmg, ⟨a, f, e0, e1, e2, e3, e4⟩⟩ := gf_b3 _ hG
  refine wpAny_Call_method_lateS (hbase env) (hfew env) hline (Calls.Name_function_global he.kind (by unfold Env.kindOf; rw [he.scope]; exact hg) (Calls.loadGlobal_global (by rw [he.globals]; exact hmg) e0 ?_) (by decide +kernel))
  refine ⟨"dict", "dict.get", F.plainAttrs_dict, F.slot_dict_get, F.type_dict_get, (e2 w).typeIs, MapOf_noDict (e2 w), ?_⟩
  rw [htrees env]
  refine wpAny_dict_get1 (knd := intKind pw w) e1 (h w A env O s₀ s hA he hG hL _ _ fun u s₁ e₁ r₁ => ?_)
  cases r₁
  rename_i tk
  refine ⟨k, f, by simp [intKind, Value.isInt], let ⟨o, es, ep, e, q⟩ := e2 w; ⟨o, es, ep, e₁.heap _ _ e, q⟩, ?_⟩
  rcases hx with ⟨rfl, h⟩ | ⟨y, rfl, h⟩
  · rw [e3 k h]; exact q _ _ (e₁.trans .tok) .none
  · obtain ⟨t, ht⟩ := e4 _ h
    dsimp only at ht
    rw [ht]; exact q _ _ (e₁.trans .tok) (.str _ _)
end

/-! the small functions -/
theorem bind1 {k : Nat} {p : Str} (h : ∀ (fd : FuncData) (v : Value), fd.params = fA k → fd.defaults = .none → bindArgs fd ⟨[v], []⟩ = pure [(p, v)]) :
    ∀ (fd : FuncData) (vs : List Value), fd.params = fA k → fd.defaults = .none → vs.length = [p].length → bindArgs fd ⟨vs, []⟩ = pure ([p].zip vs) := by
  intro fd vs h1 h2 h3
  obtain ⟨v, rfl⟩ := List.length_eq_one_iff.mp h3
  exact h fd v h1 h2
theorem bind2 {k : Nat} {p p' : Str} (h : ∀ (fd : FuncData) (v v' : Value), fd.params = fA k → fd.defaults = .none → bindArgs fd ⟨[v, v'], []⟩ = pure [(p, v), (p', v')]) :
    ∀ (fd : FuncData) (vs : List Value), fd.params = fA k → fd.defaults = .none → vs.length = [p, p'].length → bindArgs fd ⟨vs, []⟩ = pure ([p, p'].zip vs) := by
  intro fd vs h1 h2 h3
  match vs, h3 with
  | [v, v'], _ => exact h fd v v' h1 h2
theorem bind3 {k : Nat} {p p' p'' : Str} (h : ∀ (fd : FuncData) (v v' v'' : Value), fd.params = fA k → fd.defaults = .none → bindArgs fd ⟨[v, v', v''], []⟩ = pure [(p, v), (p', v'), (p'', v'')]) :
    ∀ (fd : FuncData) (vs : List Value), fd.params = fA k → fd.defaults = .none → vs.length = [p, p', p''].length → bindArgs fd ⟨vs, []⟩ = pure ([p, p', p''].zip vs) := by
  intro fd vs h1 h2 h3
  match vs, h3 with
  | [v, v', v''], _ => exact h fd v v' v'' h1 h2
theorem Fsp.one {n k : Nat} {p : Str} {i : Nat} {u x : PV} (hk : ky p = i) (hX : Xs false n (fS k) [(i, u)] none (fB k) (.ret x))
    (hb : ∀ (fd : FuncData) (v : Value), fd.params = fA k → fd.defaults = .none → bindArgs fd ⟨[v], []⟩ = pure [(p, v)] := by intro fd v h1 h2; unfold bindArgs; rw [h1, h2]; rfl)
    (hcell : ∀ y ∈ (fS k).names, y.2 ≠ .cell := by decide +kernel) (hloc : (fS k).names.lookup p = some .local := by decide +kernel) (h57 : i < 57 := by decide)
    (hco : (fS k).isCoroutine = false := by decide +kernel) (hgen : (fS k).isGenerator = false := by decide +kernel) (hkn : (fS k).kind = .function := by decide +kernel) : Fsp (n + 1) k [u] x := by
  subst hk
  exact Fsp.mk (ps := [p]) (bind1 hb) hcell (fun q hq => by rw [List.mem_singleton.mp hq]; exact hloc) (List.nodup_cons.mpr ⟨fun h => (nomatch h), List.nodup_nil⟩) (fun q hq => by rw [List.mem_singleton.mp hq]; exact h57) rfl hX hco hgen hkn
theorem Fsp.two {n k : Nat} {p p' : Str} {i i' : Nat} {u u' x : PV} (hk : ky p = i) (hk' : ky p' = i') (hX : Xs false n (fS k) [(i, u), (i', u')] none (fB k) (.ret x))
    (hb : ∀ (fd : FuncData) (v v' : Value), fd.params = fA k → fd.defaults = .none → bindArgs fd ⟨[v, v'], []⟩ = pure [(p, v), (p', v')] := by intro fd v v' h1 h2; unfold bindArgs; rw [h1, h2]; rfl)
    (hcell : ∀ y ∈ (fS k).names, y.2 ≠ .cell := by decide +kernel) (hloc : ∀ q ∈ [p, p'], (fS k).names.lookup q = some .local := by decide +kernel) (hnd : [p, p'].Nodup := by decide +kernel) (h57 : i < 57 := by decide) (h57' : i' < 57 := by decide)
    (hco : (fS k).isCoroutine = false := by decide +kernel) (hgen : (fS k).isGenerator = false := by decide +kernel) (hkn : (fS k).kind = .function := by decide +kernel) : Fsp (n + 1) k [u, u'] x := by
  subst hk hk'
  exact Fsp.mk (ps := [p, p']) (bind2 hb) hcell hloc hnd (fun q hq => by rcases List.mem_cons.mp hq with rfl | hq; exact h57; rw [List.mem_singleton.mp hq]; exact h57') rfl hX hco hgen hkn
theorem Fsp.three {n k : Nat} {p p' p'' : Str} {i i' i'' : Nat} {u u' u'' x : PV} (hk : ky p = i) (hk' : ky p' = i') (hk'' : ky p'' = i'') (hX : Xs false n (fS k) [(i, u), (i', u'), (i'', u'')] none (fB k) (.ret x))
    (hb : ∀ (fd : FuncData) (v v' v'' : Value), fd.params = fA k → fd.defaults = .none → bindArgs fd ⟨[v, v', v''], []⟩ = pure [(p, v), (p', v'), (p'', v'')] := by intro fd v v' v'' h1 h2; unfold bindArgs; rw [h1, h2]; rfl)
    (hcell : ∀ y ∈ (fS k).names, y.2 ≠ .cell := by decide +kernel) (hloc : ∀ q ∈ [p, p', p''], (fS k).names.lookup q = some .local := by decide +kernel) (hnd : [p, p', p''].Nodup := by decide +kernel) (h57 : i < 57 := by decide) (h57' : i' < 57 := by decide) (h57'' : i'' < 57 := by decide)
    (hco : (fS k).isCoroutine = false := by decide +kernel) (hgen : (fS k).isGenerator = false := by decide +kernel) (hkn : (fS k).kind = .function := by decide +kernel) : Fsp (n + 1) k [u, u', u''] x := by
  subst hk hk' hk''
  exact Fsp.mk (ps := [p, p', p'']) (bind3 hb) hcell hloc hnd (fun q hq => by
    rcases List.mem_cons.mp hq with rfl | hq
    · exact h57
    rcases List.mem_cons.mp hq with rfl | hq
    · exact h57'
    rw [List.mem_singleton.mp hq]; exact h57'') rfl hX hco hgen hkn

theorem isterm_walk {n : Nat} {x : Int} : Fsp (n + 1) 18 [.int x] (.bool (decide (x < 256))) := .one ky_x (Xs.ret (Ev.cp (Ev.nm ky_x rfl) (Ev.gl gf_NT) Cop.lt_int))
theorem isnonterm_walk {n : Nat} {x : Int} : Fsp (n + 1) 19 [.int x] (.bool (decide (256 ≤ x))) := .one ky_x (Xs.ret (Ev.cp (Ev.nm ky_x rfl) (Ev.gl gf_NT) Cop.ge_int))
theorem iseof_walk {n : Nat} {x : Int} : Fsp (n + 1) 20 [.int x] (.bool (x == 0)) := .one ky_x (Xs.ret (Ev.cp (Ev.nm ky_x rfl) (Ev.gl gf_ENDMARKER) Cop.eq_int))
theorem inb1_walk {n : Nat} {c : Nat} {b : Bool} (hb : (b = true ∧ (c : Int) ∈ unseenCodes) ∨ (b = false ∧ (c : Int) ∈ greatCodes ++ oddCodes.map (·.1))) : Fsp (n + 1) 12 [.str ⟨#[c]⟩] (.bool b) :=
  .one ky_code (Xs.ret (Ev.inB1 (Ev.fb gfb_ord Bsp.ord (Evs.c (Ev.nm ky_code rfl) Evs.nil)) hb))
theorem mapb3_odd {n : Nat} {c : Nat} {y : Str} (hy : ((c : Int), y) ∈ oddCodes) : Fsp (n + 1) 14 [.str ⟨#[c]⟩] (.str y) :=
  .one ky_code (Xs.asg ky_r (Ev.getB3 (Ev.fb gfb_ord Bsp.ord (Evs.c (Ev.nm ky_code rfl) Evs.nil)) (.inr ⟨y, rfl, hy⟩)) (Xs.if_ret (b := true) (EvT.cp (Ev.nm ky_r rfl) Ev.none Cop.isnot_none) (Xs.ret (Ev.nm ky_r rfl))))
theorem mapb3_great {n : Nat} {c : Nat} (hy : (c : Int) ∈ greatCodes) : Fsp (n + 1) 14 [.str ⟨#[c]⟩] (.str (Txt.lower ⟨#[c]⟩)) :=
  .one ky_code (Xs.asg ky_r (Ev.getB3 (Ev.fb gfb_ord Bsp.ord (Evs.c (Ev.nm ky_code rfl) Evs.nil)) (.inl ⟨rfl, hy⟩)) (Xs.if_next (b := false) (EvT.cp (Ev.nm ky_r rfl) Ev.none Cop.isnot_none) Xs.nil
    (Xs.ret (Ev.meth0 (Ev.nm ky_code rfl) (by intro _; rfl) rfl F.slot_str_lower F.type_str_lower (Bsp.lower (by simp [Str.length]))))))
end Mine
namespace Mine
section
variable {t : Bool} {n : Nat} {sc : Scope} {ρ : List (Nat × PV)} {ω : Option (Nat × List PV)} {out : Fl} {rest : List Stmt}
theorem reps_ints {O : Addr → Prop} {h : Heap} {a : Int} : ∀ {k : Nat} {vs : List Value} {i : Nat}, vs.length = k → (∀ j v, vs[j]? = some v → ∃ t, v = Value.int (a + ((i + j : Nat) : Int) * 1) t) → Reps O h vs ((List.range k).map fun j => PV.int (a + (i + j : Nat)))
  | 0, [], _, _, _ => .nil
  | k + 1, v :: vs, i, hl, hv => by
    rw [List.range_succ_eq_map, List.map_cons, List.map_map]
    obtain ⟨t, e⟩ := hv 0 v rfl
    rw [Int.mul_one] at e
    rw [e]
    refine .cons (.int _ _) ?_
    have := reps_ints (O := O) (h := h) (a := a) (k := k) (vs := vs) (i := i + 1) (by simpa using hl) (fun j v hj => by
      obtain ⟨t, e⟩ := hv (j + 1) v (by simpa using hj)
      exact ⟨t, by rw [e]; congr 2; omega⟩)
    have e2 : ((fun j => PV.int (a + ((i + j : Nat) : Int))) ∘ Nat.succ) = fun j => PV.int (a + ((i + 1 + j : Nat) : Int)) := by
      funext j; show PV.int (a + ((i + (j + 1) : Nat) : Int)) = _; congr 3; omega
    rw [e2]; exact this
theorem Ev.listRange {e₁ e₂ : Expr} {p p' pr pos : Pos} {a b : Int} {k : Nat} (h₁ : Ev n sc ρ e₁ (.int a)) (h₂ : Ev n sc ρ e₂ (.int b)) (hk : b - a = k) (ha : 0 ≤ a) (hb : b ≤ 1000000) (hab : a < b)
    (hg : sc.names.lookup ("range" : Str) = some .globalImplicit := by decide +kernel) (hg' : sc.names.lookup ("list" : Str) = some .globalImplicit := by decide +kernel)
    (hp : ∀ env, starEach [e₁, e₂] env = (false, eval e₁ env) :: starEach [e₂] env := by intro _; rfl) (hp' : ∀ env, starEach [e₂] env = (false, eval e₂ env) :: starEach [] env := by intro _; rfl)
    (hpl : ∀ env, (backTo pr (starEach [e₂] env)).any (·.1) = false := by intro _; rfl) :
    Ev n sc ρ (.Call (.Name "list" p) [.Call (.Name "range" p') [e₁, e₂] [] pr] [] pos) (.list ((List.range k).map fun j => PV.int (a + (j : Nat)))) := by
  intro w A env O s₀ s hA he hG hL Q E q
  obtain ⟨mg, mb, hmg, hno, hmb, hyes⟩ := gfb_list _ hG
  obtain ⟨mg', mb', hmg', hno', hmb', hyes'⟩ := gfb_range _ hG
  refine Call_ (Calls.Name_function_global he.kind (by unfold Env.kindOf; rw [he.scope]; exact hg') (Calls.loadGlobal_builtin (by rw [he.globals]; exact hmg) hno (by rw [he.builtins]; exact hmb) hyes ?_) (by decide +kernel))
  refine PyProof.Rows.callWith_type1 (spliced_cons ?_) rfl
  refine Call_ (Calls.Name_function_global he.kind (by unfold Env.kindOf; rw [he.scope]; exact hg) (Calls.loadGlobal_builtin (by rw [he.globals]; exact hmg') hno' (by rw [he.builtins]; exact hmb') hyes' ?_) (by decide +kernel))
  refine PyProof.Rows.callWith_type1 (Evs.cons h₁ (Evs.cons h₂ Evs.nil hp') hp w A env O s₀ s pr hA he hG hL _ _ fun vs s₁ e₁ r₁ => ?_) (hp env) (hpl env)
  obtain _ | ⟨ra, _ | ⟨rb, _ | _⟩⟩ := r₁
  cases ra; cases rb
  refine call_range_2 (spliced_nil ?_)
  rename_i ta tb
  have e2 : Ext s₁ { s₁ with heap := s₁.heap.push { cls := .type "range", data := .fields #[.int a ta, .int b tb, .int 1 s₁.toks] }, toks := s₁.toks + 1 } := .of fun b o x => Heap.get?_push_of_some _ x
  refine call_list_range (n := k) hA.1 (IsRange.new ..) (small_range (by omega) (by omega) (by omega) (by omega)) (by rw [rangeSize_one, if_pos hab]; exact hk) (by omega) fun h' tk acc' c' hk' hl' hit => ?_
  obtain ⟨hsz, hit⟩ := hit
  have e3 : Ext { s₁ with heap := s₁.heap.push { cls := .type "range", data := .fields #[.int a ta, .int b tb, .int 1 s₁.toks] }, toks := s₁.toks + 1 } { s₁ with heap := h', toks := tk } := .of hk'
  have ex := (e₁.trans e2).trans e3
  refine q _ _ ex (.list (vs := acc'.toList) (fun ho => ?_) ⟨_, hl', rfl, c', by simp⟩ ?_)
  · obtain ⟨o, e⟩ := (hL.own.step (e₁.trans e2)) _ ho
    exact Nat.lt_irrefl _ (Heap.lt_size e)
  · have := reps_ints (O := O) (h := h') (a := a) (k := k) (vs := acc'.toList) (i := 0) (by simpa using hsz) (fun j v hv => by
      obtain ⟨t, e⟩ := hit j v (by simpa using hv)
      exact ⟨t, by rw [e, Nat.zero_add]⟩)
    simpa using this
end

/-! the law's words -/
noncomputable def unseenNats : List Nat := [173, 847, 6150, 6155, 6156, 6157, 8203, 8204, 8205, 8288, 65279] ++ (List.range 16).map (65024 + ·)
theorem unseen_ints : [173, 847, 6150, 6155, 6156, 6157, 8203, 8204, 8205, 8288, 65279].map PV.int ++ (List.range 16).map (fun j => PV.int (65024 + ((j : Nat) : Int))) = unseenNats.map fun c : Nat => PV.int (c : Int) := by rfl
noncomputable def item (L k : Nat) : Nat × Str :=
  match L with
  | 1 => (65 + k % 26, ⟨#[97 + k % 26]⟩)
  | 2 => ([223, 64256, 8360, 8470].getD (k % 4) 0, ["ss", "ff", "rs", "no"].getD (k % 4) "")
  | 3 => ([64259, 64260, 8481, 13227].getD (k % 4) 0, ["ffi", "ffl", "tel", "mpa"].getD (k % 4) "")
  | _ => (unseenNats.getD (k % 27) 0, "")
noncomputable def itemV (p : Nat × Str) : PV := .tup [.str ⟨#[p.1]⟩, .str p.2]
theorem fmodN {k m : Nat} : Int.fmod (k : Int) (m : Int) = ((k % m : Nat) : Int) := by
  rw [Int.fmod_eq_emod_of_nonneg _ (by omega)]; rfl
theorem fdivN {k m : Nat} : Int.fdiv (k : Int) (m : Int) = ((k / m : Nat) : Int) := by
  rw [Int.fdiv_eq_ediv_of_nonneg _ (by omega)]; rfl
theorem lt4 {p : Nat → Prop} (h0 : p 0) (h1 : p 1) (h2 : p 2) (h3 : p 3) : ∀ j, j < 4 → p j := by
  intro j h
  match j, h with
  | 0, _ => exact h0
  | 1, _ => exact h1
  | 2, _ => exact h2
  | 3, _ => exact h3
section
variable {n : Nat} {sc : Scope} {ρ : List (Nat × PV)}
theorem Ev.nmod {a b : Expr} {pos : Pos} {k m : Nat} (ha : Ev n sc ρ a (.int k)) (hb : Ev n sc ρ b (.int m)) (hm : m ≠ 0) : Ev n sc ρ (.BinOp a .Mod b pos) (.int ((k % m : Nat) : Int)) :=
  (Ev.bin ha hb (Bop.mod_int (by omega))).to (by rw [fmodN])
theorem Ev.ndiv {a b : Expr} {pos : Pos} {k m : Nat} (ha : Ev n sc ρ a (.int k)) (hb : Ev n sc ρ b (.int m)) (hm : m ≠ 0) (hs : m.log2 < 9000) : Ev n sc ρ (.BinOp a .FloorDiv b pos) (.int ((k / m : Nat) : Int)) :=
  (Ev.bin ha hb (Bop.fdiv_int (by omega) (by simpa using hs))).to (by rw [fdivN])
end
section
variable {n : Nat} {sc : Scope} {ρ : List (Nat × PV)}
theorem Ev.tp {es : List Expr} {k : Nat} {pos : Pos} {xs : List PV} (h : Evs n sc ρ es xs) (hl : decide (xs.length ≤ 1000000) = true := by rfl) : Ev n sc ρ (.Tuple es k pos) (.tup xs) := Ev.tup h (of_decide_eq_true hl)
theorem Ev.ls {es : List Expr} {pos : Pos} {xs : List PV} (h : Evs n sc ρ es xs) (hl : decide (xs.length ≤ 1000000) = true := by rfl) : Ev n sc ρ (.List es pos) (.list xs) := Ev.list h (of_decide_eq_true hl)
end
theorem item_walk1 {n k : Nat} : Fsp (n + 1) 22 [.int 1, .int k] (itemV (item 1 k)) := by
  have e1 : itemV (item 1 k) = .tup [.str ⟨#[((65 : Int) + ((k % 26 : Nat) : Int)).toNat]⟩, .str ⟨#[((97 : Int) + ((k % 26 : Nat) : Int)).toNat]⟩] := by
    show PV.tup [.str ⟨#[65 + k % 26]⟩, .str ⟨#[97 + k % 26]⟩] = _
    congr 5
  rw [e1]
  exact .two ky_letters ky_which (Xs.if_ret (b := true) (EvT.cp (Ev.nm ky_letters rfl) Ev.int Cop.eq_int) (Xs.ret (Ev.tp (Evs.c (Ev.fb gfb_chr (Bsp.chr (by omega) (by omega)) (Evs.c ((Ev.bin Ev.int (Ev.nmod (m := 26) (Ev.nm ky_which rfl) Ev.int (by decide)) Bop.add_int)) Evs.nil))
    (Evs.c (Ev.fb gfb_chr (Bsp.chr (by omega) (by omega)) (Evs.c ((Ev.bin Ev.int (Ev.nmod (m := 26) (Ev.nm ky_which rfl) Ev.int (by decide)) Bop.add_int)) Evs.nil)) Evs.nil)))))
theorem item_walk2 {n k : Nat} : Fsp (n + 1) 22 [.int 2, .int k] (itemV (item 2 k)) := by
  have hj : k % 4 < 4 := Nat.mod_lt _ (by decide)
  have key : ∀ j, j < 4 → k % 4 = j → Fsp (n + 1) 22 [.int 2, .int k] (.tup [.str ⟨#[[223, 64256, 8360, 8470].getD j 0]⟩, .str (["ss", "ff", "rs", "no"].getD j "")]) := by
    refine lt4 ?_ ?_ ?_ ?_ <;> intro hj
    all_goals
      exact .two ky_letters ky_which (Xs.if_next (b := false) (EvT.cp (Ev.nm ky_letters rfl) Ev.int Cop.eq_int) Xs.nil (Xs.if_ret (b := true) (EvT.cp (Ev.nm ky_letters rfl) Ev.int Cop.eq_int) (Xs.ret (Ev.tp
        (Evs.c (Ev.sb Ev.str ((Ev.nmod (m := 4) (Ev.nm ky_which rfl) Ev.int (by decide)).to (by rw [hj])) (Gop.str (by omega) (by omega) (by rfl)))
        (Evs.c (Ev.sb (Ev.ls (Evs.c Ev.str (Evs.c Ev.str (Evs.c Ev.str (Evs.c Ev.str Evs.nil))))) ((Ev.nmod (m := 4) (Ev.nm ky_which rfl) Ev.int (by decide)).to (by rw [hj])) (Gop.list (by omega) (by omega) (by rfl))) Evs.nil))))))
  exact key _ hj rfl
theorem item_walk3 {n k : Nat} : Fsp (n + 1) 22 [.int 3, .int k] (itemV (item 3 k)) := by
  have hj : k % 4 < 4 := Nat.mod_lt _ (by decide)
  have key : ∀ j, j < 4 → k % 4 = j → Fsp (n + 1) 22 [.int 3, .int k] (.tup [.str ⟨#[[64259, 64260, 8481, 13227].getD j 0]⟩, .str (["ffi", "ffl", "tel", "mpa"].getD j "")]) := by
    refine lt4 ?_ ?_ ?_ ?_ <;> intro hj
    all_goals
      exact .two ky_letters ky_which (Xs.if_next (b := false) (EvT.cp (Ev.nm ky_letters rfl) Ev.int Cop.eq_int) Xs.nil (Xs.if_next (b := false) (EvT.cp (Ev.nm ky_letters rfl) Ev.int Cop.eq_int) Xs.nil (Xs.if_ret (b := true) (EvT.cp (Ev.nm ky_letters rfl) Ev.int Cop.eq_int) (Xs.ret (Ev.tp
        (Evs.c (Ev.sb Ev.str ((Ev.nmod (m := 4) (Ev.nm ky_which rfl) Ev.int (by decide)).to (by rw [hj])) (Gop.str (by omega) (by omega) (by rfl)))
        (Evs.c (Ev.sb (Ev.ls (Evs.c Ev.str (Evs.c Ev.str (Evs.c Ev.str (Evs.c Ev.str Evs.nil))))) ((Ev.nmod (m := 4) (Ev.nm ky_which rfl) Ev.int (by decide)).to (by rw [hj])) (Gop.list (by omega) (by omega) (by rfl))) Evs.nil)))))))
  exact key _ hj rfl
end Mine
namespace Mine
theorem unseen_at (j : Nat) (h : j < 27) : ∃ c, unseenNats[j]? = some c ∧ unseenNats.getD j 0 = c ∧ c ≤ 65279 := by
  have : ∀ j, j < 27 → ∃ c, unseenNats[j]? = some c ∧ unseenNats.getD j 0 = c ∧ c ≤ 65279 := by
    intro j h
    have hl : j < unseenNats.length := by rw [show unseenNats.length = 27 from by decide]; exact h
    refine ⟨unseenNats[j], List.getElem?_eq_getElem hl, by rw [List.getD_eq_getElem?_getD, List.getElem?_eq_getElem hl]; rfl, ?_⟩
    have : ∀ c ∈ unseenNats, c ≤ 65279 := by decide
    exact this _ (List.getElem_mem hl)
  exact this j h
theorem item_walk0 {n k : Nat} : Fsp (n + 1) 22 [.int 0, .int k] (itemV (item 0 k)) := by
  have hj : k % 27 < 27 := Nat.mod_lt _ (by decide)
  obtain ⟨c, h1, h2, h3⟩ := unseen_at _ hj
  have e1 : itemV (item 0 k) = .tup [.str ⟨#[((c : Nat) : Int).toNat]⟩, .str ""] := by
    show PV.tup [.str ⟨#[unseenNats.getD (k % 27) 0]⟩, .str ""] = _
    rw [h2]; rfl
  rw [e1]
  refine .two ky_letters ky_which ?_
  refine Xs.if_next (b := false) (EvT.cp (Ev.nm ky_letters rfl) Ev.int Cop.eq_int) Xs.nil ?_
  refine Xs.if_next (b := false) (EvT.cp (Ev.nm ky_letters rfl) Ev.int Cop.eq_int) Xs.nil ?_
  refine Xs.if_next (b := false) (EvT.cp (Ev.nm ky_letters rfl) Ev.int Cop.eq_int) Xs.nil ?_
  have h16 : ([173, 847, 6150, 6155, 6156, 6157, 8203, 8204, 8205, 8288, 65279].map PV.int).length + ((List.range 16).map (fun j => PV.int (65024 + ((j : Nat) : Int)))).length ≤ 1000000 := by rw [List.length_map, List.length_map, List.length_range]; decide
  refine @Xs.asg _ _ _ _ _ _ _ _ _ _ _ (.list (unseenNats.map fun c : Nat => PV.int (c : Int))) _ ky_unseen ?_ (Xs.ret (Ev.tp (Evs.c (Ev.fb gfb_chr (Bsp.chr (by omega) (by omega)) (Evs.c (Ev.sb (Ev.nm ky_unseen rfl) (Ev.nmod (m := 27) (Ev.nm ky_which rfl) Ev.int (by decide)) (Gop.list (y := .int (c : Int)) (by omega) (by omega) (by rw [Int.toNat_natCast, List.getElem?_map, h1]; rfl))) Evs.nil)) (Evs.c Ev.str Evs.nil)))) rfl (by decide +kernel) rfl (fun _ => rfl)
  rw [← unseen_ints]
  refine @Ev.bin _ _ _ _ _ _ _ (.list ([173, 847, 6150, 6155, 6156, 6157, 8203, 8204, 8205, 8288, 65279].map PV.int)) (.list ((List.range 16).map (fun j => PV.int (65024 + ((j : Nat) : Int))))) _ ?_ (Ev.listRange (k := 16) Ev.int Ev.int (by decide) (by decide) (by decide) (by decide)) (Bop.add_list h16)
  exact @Ev.ls _ _ _ _ _ _ (@Evs.c _ _ _ _ _ _ _ Ev.int (@Evs.c _ _ _ _ _ _ _ Ev.int (@Evs.c _ _ _ _ _ _ _ Ev.int (@Evs.c _ _ _ _ _ _ _ Ev.int (@Evs.c _ _ _ _ _ _ _ Ev.int (@Evs.c _ _ _ _ _ _ _ Ev.int (@Evs.c _ _ _ _ _ _ _ Ev.int (@Evs.c _ _ _ _ _ _ _ Ev.int (@Evs.c _ _ _ _ _ _ _ Ev.int (@Evs.c _ _ _ _ _ _ _ Ev.int (@Evs.c _ _ _ _ _ _ _ Ev.int Evs.nil (fun _ => rfl)) (fun _ => rfl)) (fun _ => rfl)) (fun _ => rfl)) (fun _ => rfl)) (fun _ => rfl)) (fun _ => rfl)) (fun _ => rfl)) (fun _ => rfl)) (fun _ => rfl)) (fun _ => rfl)) rfl
theorem item_walk {n L k : Nat} (hL : L < 4) : Fsp (n + 1) 22 [.int L, .int k] (itemV (item L k)) := by
  match L, hL with
  | 0, _ => exact item_walk0
  | 1, _ => exact item_walk1
  | 2, _ => exact item_walk2
  | 3, _ => exact item_walk3
noncomputable def wordRaw (v : Nat) : Str := ⟨#[(item (1 + v % 3) (v / 12)).1]⟩ ++ ⟨#[(item (v / 3 % 4) (v / 312)).1]⟩
noncomputable def wordMeant (v : Nat) : Str := (item (1 + v % 3) (v / 12)).2 ++ (item (v / 3 % 4) (v / 312)).2
noncomputable def wordV (v : Nat) : PV := .tup [.str (wordRaw v), .str (wordMeant v)]
theorem item_short (L k : Nat) : (item L k).2.length ≤ 3 := by
  have h4 : k % 4 < 4 := Nat.mod_lt _ (by decide)
  unfold item
  split
  · show (1 : Nat) ≤ 3; omega
  · revert h4; generalize k % 4 = j; revert j; refine lt4 ?_ ?_ ?_ ?_ <;> decide +kernel
  · revert h4; generalize k % 4 = j; revert j; refine lt4 ?_ ?_ ?_ ?_ <;> decide +kernel
  · show (0 : Nat) ≤ 3; omega
theorem word_walk {n v : Nat} : Fsp (n + 2) 23 [.int v] (wordV v) := by
  refine .one ky_v ?_
  refine Xs.asg ky_ahead (u := itemV (item (1 + v % 3) (v / 12))) (Ev.fn gf_f22 (item_walk (L := 1 + v % 3) (k := v / 12) (by omega)) (Evs.c ((Ev.bin Ev.int (Ev.nmod (m := 3) (Ev.nm ky_v rfl) Ev.int (by decide)) Bop.add_int).to (by congr 1)) (Evs.c (Ev.ndiv (m := 12) (Ev.nm ky_v rfl) Ev.int (by decide) (by decide)) Evs.nil))) ?_
  refine Xs.asg ky_behind (u := itemV (item (v / 3 % 4) (v / 312))) (Ev.fn gf_f22 (item_walk (L := v / 3 % 4) (k := v / 312) (by omega)) (Evs.c (Ev.nmod (m := 4) (Ev.ndiv (m := 3) (Ev.nm ky_v rfl) Ev.int (by decide) (by decide)) Ev.int (by decide)) (Evs.c (Ev.ndiv (m := 312) (Ev.nm ky_v rfl) Ev.int (by decide) (by decide)) Evs.nil))) ?_
  have h1 := item_short (1 + v % 3) (v / 12)
  have h2 := item_short (v / 3 % 4) (v / 312)
  exact Xs.ret (Ev.tp (Evs.c (Ev.bin (Ev.sb (Ev.nm ky_ahead rfl) Ev.int (Gop.tup (by decide) (by decide) rfl)) (Ev.sb (Ev.nm ky_behind rfl) Ev.int (Gop.tup (by decide) (by decide) rfl)) (Bop.add_str (by rw [sizeLine_eq]; simp [Str.length])))
    (Evs.c (Ev.bin (Ev.sb (Ev.nm ky_ahead rfl) Ev.int (Gop.tup (by decide) (by decide) rfl)) (Ev.sb (Ev.nm ky_behind rfl) Ev.int (Gop.tup (by decide) (by decide) rfl)) (Bop.add_str (by rw [sizeLine_eq]; omega))) Evs.nil)))
end Mine
namespace Mine
theorem decode_few {n : Nat} {x : Str} (hx : x.length ≤ 1000000) (h : (Txt.splitMax x "'" 2).length ≤ 2) : Fsp (n + 1) 9 [.str x] (.tup [.none, .none, .str x]) := by
  refine .one ky_s (Xs.asg ky_parts (Ev.meth (Ev.nm ky_s rfl) (Evs.c (Ev.gl gf_TICK) (Evs.c Ev.int Evs.nil)) (by intro _; rfl) (by intro _; rfl) rfl F.slot_str_split F.type_str_split (by intro _; rfl) (by intro _; rfl) (Bsp.split2 (by decide +kernel) (by decide) hx)) ?_)
  refine Xs.if_ret (b := true) ((EvT.cp (Ev.fb gfb_len (Bsp.len_list (by simp only [strsOf, List.length_map]; omega)) (Evs.c (Ev.nm ky_parts rfl) Evs.nil)) Ev.int Cop.le_int).to (by simp only [strsOf, List.length_map]; simpa using (by omega))) ?_
  exact Xs.ret (Ev.tp (Evs.c Ev.none (Evs.c Ev.none (Evs.c (Ev.nm ky_s rfl) Evs.nil))))
theorem decode_more {n : Nat} {x : Str} {ys : List Str} (hx : x.length ≤ 1000000) (hy : Txt.splitMax x "'" 2 = ys) (h : ys.length = 3) : Fsp (n + 1) 9 [.str x] (.list (strsOf ys)) := by
  subst hy
  refine .one ky_s (Xs.asg ky_parts (Ev.meth (Ev.nm ky_s rfl) (Evs.c (Ev.gl gf_TICK) (Evs.c Ev.int Evs.nil)) (by intro _; rfl) (by intro _; rfl) rfl F.slot_str_split F.type_str_split (by intro _; rfl) (by intro _; rfl) (Bsp.split2 (by decide +kernel) (by decide) hx)) ?_)
  refine Xs.if_next (b := false) ((EvT.cp (Ev.fb gfb_len (Bsp.len_list (by simp only [strsOf, List.length_map]; omega)) (Evs.c (Ev.nm ky_parts rfl) Evs.nil)) Ev.int Cop.le_int).to (by simp only [strsOf, List.length_map, h]; decide)) Xs.nil ?_
  exact Xs.ret (Ev.nm ky_parts rfl)
end Mine
namespace Mine
section
variable {t : Bool} {n : Nat} {sc : Scope} {ρ ρ' : List (Nat × PV)} {ω : Option (Nat × List PV)} {out : Fl} {rest : List Stmt}
theorem Xs.forRet {target iter : Expr} {body : List Stmt} {pos : Pos} {xs : List PV} (hi : EvI n sc ρ iter xs) (hn : 3 ≤ n) (j : Nat) (hj : j < xs.length) {u : PV} (R : Nat → List (Nat × PV)) (W : Nat → Option (Nat × List PV)) (h0 : ∀ p ∈ R 0, p ∈ ρ) (hW : W 0 = ω)
    (turn : ∀ i x, i < j → xs[i]? = some x → ∃ ρ₁, Tg n sc target x (R i) (W i) ρ₁ ∧ Xs true n sc ρ₁ (W i) body (.next (R (i + 1)) (W (i + 1)))) (last : ∀ x, xs[j]? = some x → ∃ ρ₁, Tg n sc target x (R j) (W j) ρ₁ ∧ Xs false n sc ρ₁ (W j) body (.ret u))
    (hs : ∀ env x, foldedSetIterable iter env x = pure x) : Xs t n sc ρ ω (.For target iter body [] pos :: rest) (.ret u) := by
  subst hW
  intro w A env O D s₀ s hA he hG hS Q E q
  refine wpAny_execs_cons (wpAny_For (hi w A env _ s₀ s hA he (hS.gf hG) hS.loc _ _ fun I fp₀ gs s₁ e₁ itf hfp hgs => ?_) (hs env))
  obtain ⟨J, it, hJ⟩ := itf _ (fun _ h => h) (fun _ h => .inl h)
  have S₁ := hS.step e₁
  have F₀ := Frs.nil.grow hS (fp' := fp₀) fun b hb => .inr (hfp b hb).1
  have fg : ∀ g ∈ gs, s₀.gens.size ≤ g := fun g hg => by
    have h1 := hgs g hg
    have h2 : s₀.gens.size ≤ s.gens.size := by
      rcases Nat.eq_zero_or_pos s₀.gens.size with e | e
      · omega
      · have := hS.ext.gens (s₀.gens.size - 1) _ (Array.getElem?_eq_getElem (by omega))
        have := (Array.getElem?_eq_some_iff.mp this).1
        omega
    omega
  refine codeAny_forLoop_any (fun m s' => ∃ i, i ≤ j ∧ m = j + 1 - i ∧ St s₀ env O (R i) (W i) D s' ∧ ∃ fp, Frs s₀ env O D fp ∧ J i fp s') (fun m s' => ?_) (j + 1) ⟨0, Nat.zero_le _, rfl, S₁.sub h0, fp₀, F₀, hJ⟩
  rintro ⟨i, hi', rfl, S', fp, F, hJ'⟩
  obtain ⟨f0, fL, fD, fC, fO⟩ := id F
  have hlt : i < xs.length := by omega
  obtain ⟨x, hx⟩ : ∃ x, xs[i]? = some x := ⟨_, List.getElem?_eq_getElem hlt⟩
  refine it.item i fp s' x _ _ (hA.less hn) S'.loc.own hJ' hx fun v s₂ fp' hfp' m₂ J₂ r₂ => ?_
  have S₂ := S'.mv m₂ (fun b hb o its k => it.noseq i fp s' b o its k hJ' hb) f0 fL fD fC fO fg
  have F' := F.grow S' hfp'
  obtain ⟨oI, nI, hoI, hcI, hnI⟩ := it.cls _ _ _ J₂
  refine wp_letOwned hoI hcI hnI ?_
  by_cases hij : i < j
  · obtain ⟨ρ₁, htg, hbody⟩ := turn i x hij hx
    refine htg w A env O D s₀ s₂ v hA he S₂ r₂ _ _ fun s₃ S₃ k₃ g₃ => ?_
    have J₃ : J (i + 1) fp' s₃ := it.frame _ _ _ _ J₂ (fun b hb o e => k₃ b o (fun z => F'.fL (z ▸ hb)) e) (fun b o its k _ e d => k₃ b o (fun z => by
      obtain ⟨m, ⟨oL, _, _, hoL, hdL, _⟩, _⟩ := S₂.loc.ns
      rw [z, hoL] at e; cases e; rw [hdL] at d; cases d) e) (fun g _ x e => by rw [g₃]; exact e) (gf_hide hG S₃.ext F'.f0)
    obtain ⟨sh, eh, Sh, hh, hg⟩ := S₃.hide he.one
    refine hbody w A env O D sh s₃ hA he (hG.ext eh) Sh _ _ fun s₄ D₄ hD₄ S₄ => ?_
    obtain rfl := hD₄ rfl
    have S₄' := S₄.rebase eh
    refine ⟨j + 1 - (i + 1), by omega, i + 1, hij, rfl, S₄', fp', F', it.frame _ _ _ _ J₃ (fun b hb o e => S₄.ext.heap _ _ (hh b o e (fun z => F'.fL (z ▸ hb)) (fun z => F'.fD b z.symm hb) fun x c hc z => F'.fC x c hc (z ▸ hb)))
      (fun b o its k hb e d => S₄.ext.heap _ _ (hh b o e (fun z => ?_) (fun z => hb (.inr z)) fun x c hc z => ?_)) (fun g _ x e => S₄.ext.gens g x (by rw [hg]; exact e)) (gf_hide hG S₄'.ext F'.f0)⟩
    · obtain ⟨m, ⟨oL, _, _, hoL, hdL, _⟩, _⟩ := S₃.loc.ns
      rw [z, hoL] at e; cases e; rw [hdL] at d; cases d
    · obtain ⟨_, v, o', e', d'⟩ := S₃.cell x c hc
      rw [z, e'] at e; cases e; rw [d'] at d; cases d
  · obtain rfl : i = j := by omega
    obtain ⟨ρ₁, htg, hbody⟩ := last x hx
    refine htg w A env O D s₀ s₂ v hA he S₂ r₂ _ _ fun s₃ S₃ k₃ g₃ => ?_
    exact hbody w A env O D s₀ s₃ hA he hG S₃ _ _ fun v s₄ e₄ r₄ => q v s₄ e₄ r₄
end

/-! the plain row of blocks -/
noncomputable abbrev Cell := Str × Nat
noncomputable def cellV (c : Cell) : PV := .tup [.str c.1, .int c.2]
noncomputable def cellsV (l : List Cell) : PV := .list (l.map cellV)
noncomputable def fits (z : Nat) (c : Cell) : Bool := c.1 == "" && decide (z ≤ c.2)
/-- the sizes of the free blocks that a split leaves -/
noncomputable def doubles (fuel h top : Nat) : List Nat := match fuel with
  | 0 => []
  | f + 1 => if h < top then h :: doubles f (2 * h) top else []
end Mine
namespace Mine
noncomputable def firstFit (l : List Cell) (w : Str) (z : Nat) : List Cell :=
  match l.findIdx? (fits z) with
  | some k => l.take k ++ [(w, z)] ++ (doubles 9 z (l.getD k ("", 0)).2).map (fun h => (("" : Str), h)) ++ l.drop (k + 1)
  | none => l
section
variable {n : Nat} {sc : Scope} {ρ : List (Nat × PV)}
theorem EvI.rg {e : Expr} {p pos : Pos} {k : Nat} (h : Ev n sc ρ e (.int k)) (hk : k ≤ 100000) (hg : sc.names.lookup ("range" : Str) = some .globalImplicit := by decide +kernel) (hp : ∀ env, starEach [e] env = (false, eval e env) :: starEach [] env := by intro _; rfl) :
    EvI n sc ρ (.Call (.Name "range" p) [e] [] pos) (intsFrom 0 k) := EvI.range1 h hk hg hp
end
section
variable {n : Nat} {sc : Scope} {ρ : List (Nat × PV)}
theorem Ev.slTo {value e : Expr} {p pos : Pos} {o r : PV} {k : Int} (hv : Ev n sc ρ value o) (hu : Ev n sc ρ e (.int k)) (hg : Sop o Option.none (some k) r) : Ev n sc ρ (.Subscript value (.Slice Option.none (some e) Option.none p) pos) r := Ev.slice (lo := Option.none) (hi := some k) hv trivial hu hg
theorem Ev.slFrom {value e : Expr} {p pos : Pos} {o r : PV} {k : Int} (hv : Ev n sc ρ value o) (hu : Ev n sc ρ e (.int k)) (hg : Sop o (some k) Option.none r) : Ev n sc ρ (.Subscript value (.Slice (some e) Option.none Option.none p) pos) r := Ev.slice (lo := some k) (hi := Option.none) hv hu trivial hg
end
theorem cells_at {l : List Cell} {i : Nat} {c : Cell} (h : l[i]? = some c) : (l.map cellV)[((i : Int)).toNat]? = some (cellV c) := by rw [Int.toNat_natCast, List.getElem?_map, h]; rfl
noncomputable def ffR (l : List Cell) (w : Str) (z : Nat) : List (Nat × PV) := [(30, cellsV l), (27, .str w), (31, .int z)]
theorem ff_split {f : Nat} {top : Nat} {half : Nat} (h : ¬ half < top) : doubles f half top = [] := by
  cases f with
  | zero => rfl
  | succ f => unfold doubles; rw [if_neg h]
theorem first_fit_walk {n : Nat} {l : List Cell} {w : Str} {z : Nat} (hl : l.length ≤ 1000) (hz : 1 ≤ z) (hc : ∀ c ∈ l, c.2 ≤ 256) (hz2 : z ≤ 256) : Fsp (n + 4) 25 [cellsV l, .str w, .int z] (cellsV (firstFit l w z)) := by
  have hlen : (l.map cellV).length = l.length := List.length_map _
  refine .three ky_cells ky_word ky_size ?_
  have hI : ∀ (p p' p'' pos pos' : Pos), EvI (n + 3) (fS 25) (ffR l w z) (.Call (.Name "range" p) [.Call (.Name "len" p') [.Name "cells" p''] [] pos'] [] pos) (intsFrom 0 l.length) := fun p p' p'' pos pos' =>
    EvI.rg ((Ev.fb gfb_len (Bsp.len_list (xs := l.map cellV) (by rw [hlen]; omega)) (Evs.c (Ev.nm ky_cells rfl) Evs.nil)).to (by rw [hlen])) (by omega)
  have hil : (intsFrom 0 l.length).length = l.length := by simp [intsFrom]
  have hat : ∀ i x, (intsFrom 0 l.length)[i]? = some x → i < l.length ∧ x = .int (i : Int) := fun i x hx => by
    unfold intsFrom at hx
    rw [List.getElem?_map, Option.map_eq_some_iff] at hx
    obtain ⟨a, ha, rfl⟩ := hx
    obtain ⟨hlt, e⟩ := List.getElem?_eq_some_iff.mp ha
    rw [List.getElem_range] at e
    subst e
    rw [List.length_range] at hlt
    exact ⟨hlt, by simp⟩
  unfold firstFit
  cases hfi : l.findIdx? (fits z) with
  | none =>
    have hno : ∀ c ∈ l, fits z c = false := by simpa using List.findIdx?_eq_none_iff.mp hfi
    refine Xs.for (hI _ _ _ _ _) (by omega) (fun _ => ffR l w z) (fun _ => none) (fun p hp => hp) rfl (fun i x hx => ?_) (Xs.ret (Ev.nm ky_cells rfl)) (by intro _ _; rfl)
    obtain ⟨hlt, rfl⟩ := hat i x hx
    obtain ⟨c, hc'⟩ : ∃ c, l[i]? = some c := ⟨_, List.getElem?_eq_getElem hlt⟩
    refine ⟨_, Tg.v ky_k, ?_⟩
    refine Xs.if_next (b := false) ((EvT.and2 (EvT.cp (Ev.sb (Ev.sb (Ev.nm ky_cells rfl) (Ev.nm ky_k rfl) (Gop.list (by omega) (by omega) (cells_at hc'))) Ev.int (Gop.tup (by decide) (by decide) rfl)) Ev.str Cop.eq_str)
      (fun _ => EvT.cp (Ev.sb (Ev.sb (Ev.nm ky_cells rfl) (Ev.nm ky_k rfl) (Gop.list (by omega) (by omega) (cells_at hc'))) Ev.int (Gop.tup (by decide) (by decide) rfl)) (Ev.nm ky_size rfl) Cop.ge_int)).to ?_) Xs.nil (Xs.done (by simp [drp, ffR]))
    have := hno c (List.mem_of_getElem? hc')
    unfold fits at this
    simpa using this
  | some j =>
    obtain ⟨hjl, hfit, hbef⟩ := List.findIdx?_eq_some_iff_getElem.mp hfi
    have hcj : l[j]? = some l[j] := List.getElem?_eq_getElem hjl
    have hgd : l.getD j ("", 0) = l[j] := by rw [List.getD_eq_getElem?_getD, hcj]; rfl
    obtain ⟨c, hce⟩ : ∃ c, c = l[j] := ⟨_, rfl⟩
    dsimp only
    rw [hgd]
    rw [← hce] at hfit hcj ⊢
    have hct : c.2 ≤ 256 := hc c (List.mem_of_getElem? hcj)
    have hfs : (c.1 == "") = true ∧ z ≤ c.2 := by unfold fits at hfit; simpa using hfit
    refine Xs.forRet (hI _ _ _ _ _) (by omega) j (by rw [hil]; exact hjl) (fun _ => ffR l w z) (fun _ => none) (fun p hp => hp) rfl (fun i x hij hx => ?_) (fun x hx => ?_) (by intro _ _; rfl)
    · obtain ⟨hlt, rfl⟩ := hat i x hx
      obtain ⟨c', hc'⟩ : ∃ c', l[i]? = some c' := ⟨_, List.getElem?_eq_getElem hlt⟩
      refine ⟨_, Tg.v ky_k, ?_⟩
      refine Xs.if_next (b := false) ((EvT.and2 (EvT.cp (Ev.sb (Ev.sb (Ev.nm ky_cells rfl) (Ev.nm ky_k rfl) (Gop.list (by omega) (by omega) (cells_at hc'))) Ev.int (Gop.tup (by decide) (by decide) rfl)) Ev.str Cop.eq_str)
        (fun _ => EvT.cp (Ev.sb (Ev.sb (Ev.nm ky_cells rfl) (Ev.nm ky_k rfl) (Gop.list (by omega) (by omega) (cells_at hc'))) Ev.int (Gop.tup (by decide) (by decide) rfl)) (Ev.nm ky_size rfl) Cop.ge_int)).to ?_) Xs.nil (Xs.done (by simp [drp, ffR]))
      have := hbef i hij
      rw [List.getElem?_eq_getElem hlt] at hc'
      rw [Option.some.inj hc'] at this
      unfold fits at this
      simpa using this
    · obtain ⟨hlt, rfl⟩ := hat j x hx
      refine ⟨_, Tg.v ky_k, ?_⟩
      refine Xs.if_ret (b := true) ((EvT.and2 (EvT.cp (Ev.sb (Ev.sb (Ev.nm ky_cells rfl) (Ev.nm ky_k rfl) (Gop.list (by omega) (by omega) (cells_at hcj))) Ev.int (Gop.tup (by decide) (by decide) rfl)) Ev.str Cop.eq_str)
        (fun _ => EvT.cp (Ev.sb (Ev.sb (Ev.nm ky_cells rfl) (Ev.nm ky_k rfl) (Gop.list (by omega) (by omega) (cells_at hcj))) Ev.int (Gop.tup (by decide) (by decide) rfl)) (Ev.nm ky_size rfl) Cop.ge_int)).to (by simpa using hfs)) ?_
      refine Xs.thw ky_rest (Xs.asg ky_half (Ev.nm ky_size rfl) ?_)
      refine Xs.loop (σ := Nat × Nat × List Nat) (fun s => (34, .int s.2.1) :: (32, .int j) :: ffR l w z) (fun s => some (33, s.2.2.map fun h => cellV ("", h)))
        (fun s => s.1 + s.2.2.length = 9 ∧ 2 ^ s.2.2.length ≤ s.2.1 ∧ s.2.2 ++ doubles s.1 s.2.1 c.2 = doubles 9 z c.2) (fun s => decide (s.2.1 < c.2)) (fun s => (s.1 - 1, s.2.1 * 2, s.2.2 ++ [s.2.1])) (fun s => s.1) (9, z, []) (by simp [drp, ffR]) rfl ⟨rfl, hz, rfl⟩ ?_ ?_ ?_ ?_
      · rintro ⟨f, half, done⟩ ⟨h1, h2, h3⟩
        exact (EvT.cp (Ev.nm ky_half rfl) (Ev.sb (Ev.sb (Ev.nm ky_cells rfl) (Ev.nm ky_k rfl) (Gop.list (by omega) (by omega) (cells_at hcj))) Ev.int (Gop.tup (by decide) (by decide) rfl)) Cop.lt_int).to (by simp)
      · rintro ⟨f, half, done⟩ ⟨h1, h2, h3⟩ h4
        have h5 : half < c.2 := by simpa using h4
        dsimp only at *
        have hf : 0 < f := by
          rcases Nat.eq_zero_or_pos f with rfl | h
          · have : done.length = 9 := by omega
            rw [this] at h2
            omega
          · exact h
        obtain ⟨f', rfl⟩ : ∃ f', f = f' + 1 := ⟨f - 1, by omega⟩
        refine ⟨⟨by simp; omega, by rw [List.length_append, List.length_singleton, Nat.pow_succ]; omega, ?_⟩, by omega⟩
        rw [← h3, List.append_assoc]
        congr 1
        show half :: doubles f' (half * 2) c.2 = doubles (f' + 1) half c.2
        conv => rhs; unfold doubles
        rw [if_pos h5, Nat.mul_comm]
      · rintro ⟨f, half, done⟩ ⟨h1, h2, h3⟩ h4
        dsimp only at *
        refine Xs.app ky_rest (Ev.tp (Evs.c Ev.str (Evs.c (Ev.nm ky_half rfl) Evs.nil))) (by rw [List.length_map]; omega) ?_
        rw [List.map_append]
        refine Xs.asg ky_half (u := .int ((half * 2 : Nat) : Int)) ((Ev.bin (Ev.nm ky_half rfl) Ev.int (Bop.mul_int (IntMulOk.of_right (by decide)))).to (by simp)) (Xs.done (by simp [drp, ffR]))
      · rintro ⟨f, half, done⟩ ⟨h1, h2, h3⟩ h4
        have h5 : ¬ half < c.2 := by simpa using h4
        dsimp only at *
        rw [ff_split h5, List.append_nil] at h3
        subst h3
        have hdl : (doubles 9 z c.2).length ≤ 9 := by omega
        have e1 : PV.list (l.take j |>.map cellV) = .list ((l.map cellV).take ((j : Int)).toNat) := by rw [Int.toNat_natCast, List.map_take]
        have e2 : PV.list ((l.drop (j + 1)).map cellV) = .list ((l.map cellV).drop (((j : Int) + 1)).toNat) := by rw [show ((j : Int) + 1).toNat = j + 1 from by omega, List.map_drop]
        have e3 : cellsV (l.take j ++ [(w, z)] ++ (doubles 9 z c.2).map (fun h => (("" : Str), h)) ++ l.drop (j + 1)) = .list (((((l.take j).map cellV ++ [cellV (w, z)]) ++ (doubles 9 z c.2).map fun h => cellV ("", h))) ++ (l.drop (j + 1)).map cellV) := by
          unfold cellsV
          simp only [List.map_append, List.map_map, List.map_cons, List.map_nil]
          rfl
        rw [e3]
        have l1 : ((l.take j).map cellV).length ≤ 1000 := by rw [List.length_map, List.length_take]; omega
        have l2 : ((l.drop (j + 1)).map cellV).length ≤ 1000 := by rw [List.length_map, List.length_drop]; omega
        have l3 : ((doubles 9 z c.2).map fun h => cellV ("", h)).length ≤ 9 := by rw [List.length_map]; exact hdl
        refine Xs.freeze (Xs.ret (Ev.bin (Ev.bin (Ev.bin ((Ev.slTo (k := (j : Int)) (Ev.nm ky_cells rfl) (Ev.nm ky_k rfl) (Sop.list_to (by omega) (by rw [hlen]; omega))).to e1.symm)
          (Ev.ls (Evs.c (Ev.tp (Evs.c (Ev.nm ky_word rfl) (Evs.c (Ev.nm ky_size rfl) Evs.nil))) Evs.nil)) (Bop.add_list (by simp only [List.length_singleton]; omega))) (Ev.nm ky_rest rfl) (Bop.add_list (by simp only [List.length_append, List.length_singleton]; omega)))
          ((Ev.slFrom (k := (j : Int) + 1) (Ev.nm ky_cells rfl) (Ev.bin (Ev.nm ky_k rfl) Ev.int Bop.add_int) (Sop.list_from (by omega) (by rw [hlen]; omega))).to e2.symm) (Bop.add_list (by simp only [List.length_append, List.length_singleton]; omega))))
end Mine
namespace Mine

/-! a generator's code, between two yields -/
noncomputable def forK (c : Code) : Flow → Sem Fin := fun f => match f with
  | .next | .cont => .pure (.again c)
  | .brk => .pure (.done .next)
  | .ret v => .pure (.done (.ret v))
noncomputable def noteH (env : Env) : Value → Sem Fin := fun e => (do noteFrame e env; theTreesLotGoes e : Sem Unit).wrap (fun _ => .raise e) .raise id id
section
variable {w : World} {A : Around} {R : GenEnd} {Y : Protocol} {n : Nat} {s₀ : Shared} {c : Code} {fs : List Frame} {s : Shared} {env : Env}
  {K : Flow → Sem Fin} {H : Value → Sem Fin} {gd : Bool → Bool} {lv : List Value → List Value}
theorem seg_run {α : Type} {m : Sem α} {K : α → Sem Fin} {H : Value → Sem Fin} {gd : Bool → Bool} {lv : List Value → List Value}
    (h : wpAny (MM w) (A.over c fs) m (fun a s' => Seg (MM w) A R Y n s₀ c (K a) fs s') (fun _ _ => False) s) : Seg (MM w) A R Y n s₀ c (m.wrap K H gd lv) fs s :=
  seg_wrap (wpAny_mono h (fun _ _ q => q) fun _ _ f => f.elim)
theorem seg_forLoop {target : Expr} {it : Value} {body orelse : List Stmt}
    (h : wpAny (MM w) (A.over (.forLoop target it body orelse env) fs) (pyNext it) (fun r s₁ => match r with
      | none => Seg (MM w) A R Y n s₀ (.block orelse env) ((MM w).den (.block orelse env)) fs s₁
      | some v => wpAny (MM w) (A.over (.forLoop target it body orelse env) fs) (letOwnedTupleGo target it v) (fun _ s₂ => wpAny (MM w) (A.over (.forLoop target it body orelse env) fs) (assign target env v) (fun _ s₃ =>
          Seg (MM w) A R Y n s₀ (.forLoop target it body orelse env) ((execs body env).wrap (forK (.forLoop target it body orelse env)) (noteH env) id id) fs s₃) (fun _ _ => False) s₂) (fun _ _ => False) s₁) (fun _ _ => False) s) :
    Seg (MM w) A R Y n s₀ (.forLoop target it body orelse env) ((MM w).den (.forLoop target it body orelse env)) fs s := by
  show Seg _ A R Y n s₀ _ ((forTurn target it body orelse env).onRaise (fun x => do noteFrame x env; theTreesLotGoes x)) fs s
  unfold forTurn
  rw [Sem.onRaise_eq_wrap, Sem.bind_eq_wrap', Sem.wrap_wrap]
  refine seg_run (wpAny_standAt ?_)
  rw [Sem.bind_eq_wrap', Sem.wrap_wrap]
  refine seg_run (wpAny_onRaise (wpAny_mono h (fun r s₁ h₁ => ?_) fun _ _ f => f.elim))
  cases r with
  | none => exact seg_again rfl h₁
  | some v =>
    dsimp only
    rw [Sem.bind_eq_wrap', Sem.wrap_wrap]
    refine seg_run (wpAny_mono h₁ (fun _ s₂ h₂ => ?_) fun _ _ f => f.elim)
    rw [Sem.bind_eq_wrap', Sem.wrap_wrap]
    refine seg_run (wpAny_mono h₂ (fun _ s₃ h₃ => ?_) fun _ _ f => f.elim)
    rw [Sem.bind_eq_wrap', Sem.wrap_wrap]
    rw [Sem.wrap_congr (execs body env) _ _ (K' := forK (.forLoop target it body orelse env)) (H' := noteH env) (fun f => by cases f <;> rfl)
      (fun e => by first | exact Sem.bind_eq_wrap _ _ | (show (do noteFrame e env; theTreesLotGoes e : Sem Unit).bind (fun _ => .raise e) = _; rw [Sem.bind_eq_wrap]; rfl))]
    exact h₃
theorem seg_If {test : Expr} {body orelse : List Stmt} {pos : Pos} {b : Bool} (h : wpAny (MM w) (A.over c fs) (isTrue test env (eval test env)) (fun b' s' => b' = b ∧ Seg (MM w) A R Y n s₀ c ((execs (bif b then body else orelse) env).wrap K H gd lv) fs s') (fun _ _ => False) s) :
    Seg (MM w) A R Y n s₀ c ((exec (.If test body orelse pos) env).wrap K H gd lv) fs s := by
  show Seg _ A R Y n s₀ c ((standAt pos >>= fun _ => (isTrue test env (eval test env) >>= fun b => if b then execs body env else execs orelse env)).wrap K H gd lv) fs s
  rw [Sem.bind_eq_wrap', Sem.wrap_wrap]
  refine seg_run (wpAny_standAt ?_)
  rw [Sem.bind_eq_wrap', Sem.wrap_wrap]
  refine seg_run (wpAny_mono h (fun b' s' h' => ?_) fun _ _ f => f.elim)
  obtain ⟨rfl, h'⟩ := h'
  cases b' <;> exact h'
noncomputable def forRetK (env : Env) (K : Flow → Sem Fin) (H : Value → Sem Fin) (gd : Bool → Bool) (lv : List Value → List Value) : Result → Sem Fin := fun r =>
  ((match r with | .ok f => (.pure f : Sem Flow) | .error e => .raise e).onRaise fun (x : Value) => do
        if (← field x 1) == Value.none then unsupported "frame.own-activation:exception-without-traceback"
        setFlight x env.frame).wrap K H gd lv
theorem seg_For {target iter : Expr} {body orelse : List Stmt} {pos : Pos} (hs : ∀ x, foldedSetIterable iter env x = pure x)
    (h : wpAny (MM w) (A.over c fs) (eval iter env) (fun x s₁ => wpAny (MM w) (A.over c fs) (pyIter x) (fun it s₂ => ∀ p, Seg (MM w) A R Y n s₀ (.forLoop target it body orelse env) ((MM w).den (.forLoop target it body orelse env)) (.ret (forRetK env K H gd lv) none (gd false) (lv []) c p [] :: fs) s₂) (fun _ _ => False) s₁) (fun _ _ => False) s) :
    Seg (MM w) A R Y n s₀ c ((exec (.For target iter body orelse pos) env).wrap K H gd lv) fs s := by
  rw [exec_For]
  rw [Sem.bind_eq_wrap', Sem.wrap_wrap]
  refine seg_run (wpAny_standAt ?_)
  rw [Sem.bind_eq_wrap', Sem.wrap_wrap]
  refine seg_run (wpAny_mono h (fun x s₁ h₁ => ?_) fun _ _ f => f.elim)
  rw [hs]
  show Seg _ A R Y n s₀ c (Sem.wrap K H _ _ (standAt iter.pos >>= fun _ => (holding [x] (pyIter x) >>= fun it => runOwn (.forLoop target it body orelse env) env))) fs s₁
  rw [Sem.bind_eq_wrap', Sem.wrap_wrap]
  refine seg_run (wpAny_standAt ?_)
  rw [Sem.bind_eq_wrap', Sem.wrap_wrap]
  refine seg_run (wpAny_holding (wpAny_mono h₁ (fun it s₂ h₂ => ?_) fun _ _ f => f.elim))
  exact seg_call h₂
end
end Mine
namespace Mine

/-- what _iter_escaped_chars reads off: each place with its signs -/
noncomputable def toks : List Nat → Nat → Bool → List (Nat × List Nat)
  | [], _, _ => []
  | c :: cs, i, true => (i, [92, c]) :: toks cs (i + 1) false
  | c :: cs, i, false => if c = 92 then toks cs (i + 1) true else (i, [c]) :: toks cs (i + 1) false
/-- no lone backslash at the end -/
noncomputable def whole : List Nat → Bool → Bool
  | [], e => !e
  | c :: cs, true => whole cs false
  | c :: cs, false => if c = 92 then whole cs true else whole cs false
noncomputable def tokV (p : Nat × List Nat) : PV := .tup [.int p.1, .str ⟨p.2.toArray⟩]

noncomputable abbrev genv (L a : Addr) (cd : Value) (q : Str) : Env := newEnv (fS 6) L mainGlobals [] q (some a) cd none builtinsNs
theorem genv_ok {L a : Addr} {cd : Value} {q : Str} : EnvOk (genv L a cd q) (fS 6) := ⟨rfl, by show (fS 6).kind = _; decide +kernel, rfl, rfl, Nat.zero_le _, fun x hx => by
  have h : ∀ y ∈ (fS 6).names, y.2 ≠ .cell := by decide +kernel
  exact absurd rfl (h _ (lookup_in hx))⟩
/-- the generator's own objects, as they stand at a yield -/
structure GRaw (L e it : Addr) (x : Str) (t : Tok) (i : Nat) (esc : Bool) (s : Shared) : Prop where
  ns : ∃ m, s.heap.Ns L m ∧ (∃ u, m "addr" = some (.str x u)) ∧ m "escape" = some (.bool esc)
  en : ∃ old, IsEnum s.heap e it i old
  si : s.heap.IsStrIter it (strIterType x) x t i
theorem GRaw.keeps {L e it : Addr} {x : Str} {t : Tok} {i : Nat} {esc : Bool} {s s' : Shared} (g : GRaw L e it x t i esc s) (hk : ∀ a, a = L ∨ a = e ∨ a = it → ∀ o, s.heap.get? a = some o → s'.heap.get? a = some o) : GRaw L e it x t i esc s' :=
  ⟨let ⟨m, ⟨o, es, ep, h, r⟩, q⟩ := g.ns; ⟨m, ⟨o, es, ep, hk L (.inl rfl) _ h, r⟩, q⟩, let ⟨old, h⟩ := g.en; ⟨old, hk e (.inr (.inl rfl)) _ h⟩, let ⟨o, h, r⟩ := g.si; ⟨o, hk it (.inr (.inr rfl)) _ h, r⟩⟩
/-- what a stretch keeps -/
structure Kp (L e it : Addr) (s s' : Shared) : Prop where
  heap : ∀ b o, b ≠ L → b ≠ e → b ≠ it → s.heap.get? b = some o → s'.heap.get? b = some o
  gens : ∀ (i : Nat) x, s.gens[i]? = some x → s'.gens[i]? = some x
  bare : AllBare s.gens → AllBare s'.gens
  os : s'.os = s.os
noncomputable def was (s : Shared) : Addr → Prop := fun a => ∃ o, s.heap.get? a = some o
noncomputable def genR (L e it : Addr) : GenEnd := fun n s₀ r s₁ => r = .ok (.ret .none) ∧ n = 0 ∧ Kp L e it s₀ s₁
noncomputable def genY (L e it : Addr) (x : Str) (items : List PV) : Protocol := fun k s₀ v s₁ κ => ∃ y, items[items.length - 1 - k]? = some y ∧ Rep (was s₀) s₁.heap v y ∧ Kp L e it s₀ s₁ ∧ (∃ i esc t, GRaw L e it x t i esc s₁) ∧
  ∀ s'', (∀ a, a = L ∨ a = e ∨ a = it → ∀ o, s₁.heap.get? a = some o → s''.heap.get? a = some o) → GF (hideAll s''.heap [L, e, it]) → κ (.send .none) s''
/-- the frame within a stretch that began at s₀ -/
structure GIn (L e it : Addr) (env : Env) (x : Str) (t : Tok) (i : Nat) (ρ : List (Nat × PV)) (s₀ b s : Shared) : Prop where
  st : St b env (was s₀) ρ none none s
  en : ∃ old, IsEnum s.heap e it i old
  si : s.heap.IsStrIter it (strIterType x) x t i
  gf : GF b.heap
  be : b.heap.get? e = none
  bi : b.heap.get? it = none
  back : ∀ a o, a ≠ L → a ≠ e → a ≠ it → s₀.heap.get? a = some o → b.heap.get? a = some o
  gens : b.gens = s₀.gens
  os : b.os = s₀.os
  Le : L ≠ e
  Li : L ≠ it
  ei : e ≠ it
  eL : env.locals = L
  nc : env.cells = []
theorem GIn.kp {L e it : Addr} {env : Env} {x : Str} {t : Tok} {i : Nat} {ρ : List (Nat × PV)} {s₀ b s : Shared} (g : GIn L e it env x t i ρ s₀ b s) : Kp L e it s₀ s :=
  ⟨fun a o h1 h2 h3 h => g.st.ext.heap a o (g.back a o h1 h2 h3 h), fun j y h => g.st.ext.gens j y (by rw [g.gens]; exact h), fun h => g.st.ext.bare (by rw [g.gens]; exact h), g.st.ext.os.trans g.os⟩
theorem GIn.step {L e it : Addr} {env : Env} {x : Str} {t : Tok} {i : Nat} {ρ : List (Nat × PV)} {s₀ b s s' : Shared} (g : GIn L e it env x t i ρ s₀ b s) (h : Ext s s') : GIn L e it env x t i ρ s₀ b s' :=
  { g with st := g.st.step h, en := let ⟨old, q⟩ := g.en; ⟨old, h.heap _ _ q⟩, si := let ⟨o, q, r⟩ := g.si; ⟨o, h.heap _ _ q, r⟩ }
theorem GIn.sub {L e it : Addr} {env : Env} {x : Str} {t : Tok} {i : Nat} {ρ ρ' : List (Nat × PV)} {s₀ b s : Shared} (g : GIn L e it env x t i ρ s₀ b s) (h : ∀ p ∈ ρ', p ∈ ρ) : GIn L e it env x t i ρ' s₀ b s := { g with st := g.st.sub h }
/-- a new stretch -/
theorem GRaw.enter {L e it : Addr} {x : Str} {t : Tok} {i : Nat} {esc : Bool} {s : Shared} {a : Addr} {cd : Value} {q : Str} (g : GRaw L e it x t i esc s) (hG : GF (hideAll s.heap [L, e, it])) (h1 : L ≠ e) (h2 : L ≠ it) (h3 : e ≠ it) :
    ∃ b, GIn L e it (genv L a cd q) x t i [(6, .str x), (8, .bool esc)] s b s := by
  obtain ⟨m, hm, ⟨u, hu⟩, hE⟩ := g.ns
  have e1 : Ext { s with heap := hideAll s.heap [L, e, it] } s := ⟨fun b o e => of_hideAll _ e, fun _ _ e => e, fun e => e, rfl⟩
  refine ⟨{ s with heap := hideAll s.heap [L, e, it] }, ⟨fun y c hc => (by simp [newEnv] at hc), ⟨e1, hideAll_none _ (.head _), ?_, m, hm, fun p hp y hy => ?_⟩, trivial⟩, g.en, g.si, hG, hideAll_none _ (.tail _ (.head _)), hideAll_none _ (.tail _ (.tail _ (.head _))),
    fun b o n1 n2 n3 h => hideAll_get _ h fun hb => ?_, rfl, rfl, h1, h2, h3, rfl, rfl⟩
  · rintro b (hb | hb)
    · exact hb
    · cases hb
  · have l1 : (fS 6).names.lookup ("addr" : Str) = some .local := by decide +kernel
    have l2 : (fS 6).names.lookup ("escape" : Str) = some .local := by decide +kernel
    simp only [List.mem_cons, List.not_mem_nil, or_false] at hp
    rcases hp with rfl | rfl
    · obtain rfl : y = "addr" := by have := ky_get ky_addr (by decide); rw [hy] at this; exact Option.some.inj this
      exact ⟨_, .inl ⟨l1, hu⟩, .str _ _⟩
    · obtain rfl : y = "escape" := by have := ky_get ky_escape (by decide); rw [hy] at this; exact Option.some.inj this
      exact ⟨_, .inl ⟨l2, hE⟩, .bool _⟩
  · simp only [List.mem_cons, List.not_mem_nil, or_false] at hb
    rcases hb with hb | hb | hb
    · exact n1 hb
    · exact n2 hb
    · exact n3 hb
theorem GIn.raw {L e it : Addr} {x : Str} {t : Tok} {i : Nat} {esc : Bool} {a : Addr} {cd : Value} {q : Str} {ρ : List (Nat × PV)} {s₀ b s : Shared} (g : GIn L e it (genv L a cd q) x t i ρ s₀ b s) (h6 : (6, PV.str x) ∈ ρ) (h8 : (8, PV.bool esc) ∈ ρ) : GRaw L e it x t i esc s := by
  refine ⟨?_, g.en, g.si⟩
  obtain ⟨m, hm, hr⟩ := g.st.loc.ns
  have l1 : (fS 6).names.lookup ("addr" : Str) = some .local := by decide +kernel
  have l2 : (fS 6).names.lookup ("escape" : Str) = some .local := by decide +kernel
  refine ⟨m, hm, ?_, ?_⟩
  · obtain ⟨v, hv, r⟩ := hr _ h6 "addr" (show nms[6]? = some _ from ky_get ky_addr (by decide))
    cases r
    rcases hv with ⟨_, q⟩ | ⟨q, _⟩
    · exact ⟨_, q⟩
    · rw [show Env.kindOf (genv L a cd _) "addr" = some .local from l1] at q; cases q
  · obtain ⟨v, hv, r⟩ := hr _ h8 "escape" (show nms[8]? = some _ from ky_get ky_escape (by decide))
    cases r
    rcases hv with ⟨_, q⟩ | ⟨q, _⟩
    · exact q
    · rw [show Env.kindOf (genv L a cd _) "escape" = some .local from l2] at q; cases q
/-- a store to a local of the generator's frame -/
theorem GIn.store {L e it : Addr} {env : Env} {x : Str} {t : Tok} {i : Nat} {ρ : List (Nat × PV)} {s₀ b s : Shared} (g : GIn L e it env x t i ρ s₀ b s) (he : EnvOk env (fS 6)) {w : World} {A : Around} {E : Value → Shared → Prop} {y : Str} {k : Nat} {v : Value} {u : PV} {Q : Unit → Shared → Prop}
    (hk : ky y = k) (r : Rep (was s₀) s.heap v u) (q : ∀ s', GIn L e it env x t i ((k, u) :: drp k ρ) s₀ b s' → Q () s') (h57 : decide (k < 57) = true := by rfl) (hl : (fS 6).names.lookup y = some .local := by decide +kernel) : wpAny (MM w) A (storeName env y v) Q E s := by
  subst hk
  refine wp_store he g.st (r.mono (fun a h => h.elim id fun z => by cases z) fun _ _ _ e => e) h57 hl rfl fun s' S' k' _ => q s' { g with st := S', en := ?_, si := ?_ }
  · obtain ⟨old, h⟩ := g.en
    exact ⟨old, k' _ _ (fun z => g.Le (by rw [← g.eL, z])) h⟩
  · obtain ⟨o, h, r⟩ := g.si
    exact ⟨o, k' _ _ (fun z => g.Li (by rw [← g.eL, z])) h, r⟩
/-- the enumerate's own step -/
theorem GIn.mvE {L e it : Addr} {env : Env} {x : Str} {t : Tok} {i i' : Nat} {ρ : List (Nat × PV)} {s₀ b s : Shared} {h' : Heap} {tk : Nat} (g : GIn L e it env x t i ρ s₀ b s) (kp : ∀ a o, a ∉ [e, it] → s.heap.get? a = some o → h'.get? a = some o)
    (en : ∃ old, IsEnum h' e it i' old) (si : h'.IsStrIter it (strIterType x) x t i') : GIn L e it env x t i' ρ s₀ b { s with heap := h', toks := tk } := by
  have kp' : ∀ a o, a ≠ e → a ≠ it → s.heap.get? a = some o → h'.get? a = some o := fun a o n1 n2 => kp a o fun hm => by
    simp only [List.mem_cons, List.not_mem_nil, or_false] at hm
    exact hm.elim n1 n2
  have nseq : ∀ a o its k, s.heap.get? a = some o → o.data = .seq its k → a ≠ e ∧ a ≠ it := fun a o its k h d => by
    constructor
    · rintro rfl
      obtain ⟨old, q⟩ := g.en
      rw [q] at h; cases h; cases d
    · rintro rfl
      obtain ⟨o', q, _, d'⟩ := g.si
      rw [q] at h; cases h; rw [d'] at d; cases d
  obtain ⟨m, ⟨oL, es, ep, hoL, rL⟩, hr⟩ := g.st.loc.ns
  refine { g with st := ⟨fun y c hc => ?_, ⟨⟨fun a o h => kp' a o (fun z => ?_) (fun z => ?_) (g.st.ext.heap a o h), g.st.ext.gens, g.st.ext.bare, g.st.ext.os⟩, g.st.loc.fresh, fun a ha => ?_, m, ⟨oL, es, ep, kp' _ _ ?_ ?_ hoL, rL⟩, fun p hp y hy => ?_⟩, trivial⟩, en := en, si := si }
  · rw [g.nc] at hc; cases hc
  · rw [z, g.be] at h; cases h
  · rw [z, g.bi] at h; cases h
  · obtain ⟨o, h⟩ := g.st.loc.own a ha
    by_cases z : a = e
    · obtain ⟨old, q⟩ := en; exact ⟨_, z ▸ q⟩
    by_cases z' : a = it
    · obtain ⟨o, q, _⟩ := si; exact ⟨o, z' ▸ q⟩
    exact ⟨o, kp' a o z z' h⟩
  · rw [g.eL]; exact g.Le
  · rw [g.eL]; exact g.Li
  · obtain ⟨v, hv, r⟩ := hr p hp y hy
    refine ⟨v, ?_, r.kept fun a o its k _ h d => kp' a o (nseq a o its k h d).1 (nseq a o its k h d).2 h⟩
    rcases hv with q | ⟨_, c, hc, _⟩
    · exact .inl q
    · rw [g.nc] at hc; cases hc
theorem enum_walk {w : World} {A : Around} (hh : A.handled = none) (e it : Addr) (hei : e ≠ it) (x : Str) (t : Tok) : ∃ Mid, WalksT pw w A e [e, it] [e, it] x.cps.size (fun i vals => ∃ u y, (∃ c u', x.cps[i]? = some c ∧ y = Value.str ⟨#[c]⟩ u') ∧ vals = #[.int i u, y])
    (fun i h => (∃ old, IsEnum h e it i old) ∧ h.IsStrIter it (strIterType x) x t i) Mid := by
  cases ha : x.cps.all (· < 128)
  · have : strIterType x = "str_iterator" := by simp [strIterType, ha]
    rw [this]
    exact ⟨_, WalksT.enumerateD (Draws.strWide (A := A.in1) hh it x t) e hei (fun h => hei (List.mem_singleton.mp h)) (.head _)⟩
  · have : strIterType x = "str_ascii_iterator" := by simp [strIterType, ha]
    rw [this]
    exact ⟨_, WalksT.enumerateD (Draws.strAscii (A := A.in1) hh it x t) e hei (fun h => hei (List.mem_singleton.mp h)) (.head _)⟩

/-! the loop of _iter_escaped_chars -/
noncomputable def gFor : Expr × List Stmt := match (fB 6).drop 2 with
  | .For t _ b _ _ :: _ => (t, b)
  | _ => (default, [])
theorem seg_block_nil {w : World} {A : Around} {R : GenEnd} {Y : Protocol} {n : Nat} {s₀ : Shared} {s : Shared} {env : Env} {k : Result → Sem Fin} {h g l c₁ p₁ kp} {fs : List Frame}
    (q : Seg (MM w) A R Y n s₀ c₁ (k (.ok .next)) fs s) : Seg (MM w) A R Y n s₀ (.block [] env) ((MM w).den (.block [] env)) (.ret k h g l c₁ p₁ kp :: fs) s :=
  seg_leaf (.ok .next) q
theorem over_zero {w : World} {A : Around} {L : Env} {body body' : List Stmt} {tg : Expr} {v : Value} {k : Result → Sem Fin} {l : List Value} {p : Pos} (hA : Rm 3 A) :
    Rm 0 (A.in1.over (.func body L) []) ∧ Rm 0 (A.in1.over (.forLoop tg v body' [] L) [.ret k none false l (.func body L) p []]) := by
  obtain ⟨h1, h2, h3⟩ := hA
  refine ⟨⟨h1, ?_, ?_⟩, ⟨h1, ?_, ?_⟩⟩
  · show A.depth + 0 + 1 + 0 ≤ 500; omega
  · show A.units + 1 + 0 + 3 + 20 * 0 ≤ 5000; omega
  · show A.depth + 1 + 0 + 0 ≤ 500; omega
  · show A.units + 1 + 3 + 0 + 20 * 0 ≤ 5000; omega
end Mine
namespace Mine
theorem Ext.of' {s s' : Shared} (h : ∃ h' tk, s' = { s with heap := h', toks := tk } ∧ ∀ b o, s.heap.get? b = some o → h'.get? b = some o) : Ext s s' := by
  obtain ⟨h', tk, rfl, hk⟩ := h
  exact .of hk
/-- the stores of a turn -/
theorem gen_assign {w : World} {A : Around} (hA : Rm 0 A) {L e it a : Addr} {cd : Value} {q : Str} {x : Str} {t : Tok} {i : Nat} {c : Nat} {esc : Bool} {s₀ b s : Shared} {T : Addr} {u : Tok} {u' : Tok} (g : GIn L e it (genv L a cd q) x t (i + 1) [(6, .str x), (8, .bool esc)] s₀ b s)
    (hT : IsTup s.heap T #[.int i u, .str ⟨#[c]⟩ u']) {Q : Unit → Shared → Prop} {E : Value → Shared → Prop}
    (k : ∀ s', GIn L e it (genv L a cd q) x t (i + 1) [(9, .str ⟨#[c]⟩), (7, .int i), (6, .str x), (8, .bool esc)] s₀ b s' → Q () s') :
    wpAny (MM w) A (assign gFor.1 (genv L a cd q) (.ref T)) Q E s := by
  refine assign_Tuple_tuple hA.1 hT rfl rfl fun h' hx' => ?_
  have hfr : s.heap.get? s.heap.objs.size = none := ext_fresh (.refl s)
  have ex : Ext s { s with heap := h' } := .of (tk := s.toks) fun b o e => hx' b o (fun z => by rw [z, hfr] at e; cases e) e
  have g₁ := g.step ex
  show wpAny _ _ (assignInOrder [assign (.Name "pos" _) _, assign (.Name "ch" _) _] [.int i u, .str ⟨#[c]⟩ u']) Q E _
  unfold assignInOrder
  refine wpAny_bind (wpAny_holding (wpAny_assign_Name (g₁.store genv_ok ky_pos (.int _ _) fun s₂ g₂ => ?_)))
  unfold assignInOrder
  refine wpAny_bind (wpAny_holding (wpAny_assign_Name (g₂.store genv_ok ky_ch (.str _ _) fun s₃ g₃ => ?_)))
  unfold assignInOrder
  exact wpAny_pure (k s₃ (g₃.sub (by simp [drp])))
structure GEnd (L e it : Addr) (env : Env) (s₀ b s : Shared) : Prop where
  st : St b env (fun _ => False) [(8, .bool false)] none none s
  gf : GF b.heap
  back : ∀ a o, a ≠ L → a ≠ e → a ≠ it → s₀.heap.get? a = some o → b.heap.get? a = some o
  gens : b.gens = s₀.gens
  os : b.os = s₀.os
theorem GEnd.kp {L e it : Addr} {env : Env} {s₀ b s : Shared} (g : GEnd L e it env s₀ b s) : Kp L e it s₀ s :=
  ⟨fun a o h1 h2 h3 h => g.st.ext.heap a o (g.back a o h1 h2 h3 h), fun j y h => g.st.ext.gens j y (by rw [g.gens]; exact h), fun h => g.st.ext.bare (by rw [g.gens]; exact h), g.st.ext.os.trans g.os⟩
theorem GIn.fin {L e it : Addr} {env : Env} {x : Str} {t : Tok} {i : Nat} {s₀ b s : Shared} {h' : Heap} {tk : Nat} (g : GIn L e it env x t i [(6, .str x), (8, .bool false)] s₀ b s) (kp : ∀ a o, a ∉ [e, it] → s.heap.get? a = some o → h'.get? a = some o) : GEnd L e it env s₀ b { s with heap := h', toks := tk } := by
  have kp' : ∀ a o, a ≠ e → a ≠ it → s.heap.get? a = some o → h'.get? a = some o := fun a o n1 n2 => kp a o fun hm => by
    simp only [List.mem_cons, List.not_mem_nil, or_false] at hm
    exact hm.elim n1 n2
  obtain ⟨m, ⟨oL, es, ep, hoL, rL⟩, hr⟩ := g.st.loc.ns
  refine ⟨⟨fun y c hc => ?_, ⟨⟨fun a o h => kp' a o (fun z => ?_) (fun z => ?_) (g.st.ext.heap a o h), g.st.ext.gens, g.st.ext.bare, g.st.ext.os⟩, g.st.loc.fresh, fun a ha => ?_, m, ⟨oL, es, ep, kp' _ _ ?_ ?_ hoL, rL⟩, fun p hp y hy => ?_⟩, trivial⟩, g.gf, g.back, g.gens, g.os⟩
  · rw [g.nc] at hc; cases hc
  · rw [z, g.be] at h; cases h
  · rw [z, g.bi] at h; cases h
  · rcases ha with ha | ha
    · exact ha.elim
    · cases ha
  · rw [g.eL]; exact g.Le
  · rw [g.eL]; exact g.Li
  · obtain ⟨v, hv, r⟩ := hr p (.tail _ hp) y hy
    obtain rfl := List.mem_singleton.mp hp
    refine ⟨v, ?_, r.flat rfl⟩
    rcases hv with q | ⟨_, c, hc, _⟩
    · exact .inl q
    · rw [g.nc] at hc; cases hc

section
variable {w : World} {A : Around} {L e it a : Addr} {cd : Value} {q : Str} {x : Str} {t : Tok} {items : List PV}
theorem seg_yield1 {n : Nat} {e' : Expr} {ypos pos : Pos} {c : Code} {fs : List Frame} {K : Flow → Sem Fin} {H : Value → Sem Fin} {rest : List Stmt} {i : Nat} {esc : Bool} {s₀ b s : Shared} {ρ : List (Nat × PV)} {y : PV} {env : Env}
    (henv : env = genv L a cd q) (hfs : splitAtGen fs = none) (hfg : fs.any Frame.guarded = false) (hA : Rm 0 (A.over c fs)) (g : GIn L e it env x t i ρ s₀ b s) (h6 : (6, PV.str x) ∈ ρ) (h8 : (8, PV.bool esc) ∈ ρ)
    (hv : Ev 0 (fS 6) ρ e' y) (hi : items[items.length - 1 - n]? = some y)
    (k : ∀ s₀' b', GIn L e it env x t i [(6, .str x), (8, .bool esc)] s₀' b' s₀' → Seg (MM w) A (genR L e it) (genY L e it x items) n s₀' c ((execs rest env).wrap K H id id) fs s₀') :
    Seg (MM w) A (genR L e it) (genY L e it x items) (n + 1) s₀ c ((execs (.Expr (.Yield (some e') ypos) pos :: rest) env).wrap K H id id) fs s := by
  subst henv
  have hco : (fS 6).isCoroutine = false := by decide +kernel
  refine seg_execs_cons (seg_Expr_Yield hfs rfl hfg (hv w _ _ _ b s hA genv_ok (g.st.gf g.gf) g.st.loc _ _ fun v s₁ e₁ r₁ => ?_) hco (by unfold interactive; rw [genv_ok.kind]; rfl))
  intro kap hk
  have g₁ := g.step e₁
  refine ⟨y, hi, r₁.mono (fun b hb => .inl hb) (fun _ _ _ e => e), g₁.kp, ⟨i, esc, t, g₁.raw h6 h8⟩, fun s'' hkeep hG => hk .none s'' ?_⟩
  obtain ⟨b', g'⟩ := (GRaw.keeps (g₁.raw h6 h8) hkeep).enter (a := a) (cd := cd) (q := q) hG g.Le g.Li g.ei
  exact k s'' b' g'

theorem seg_test {n : Nat} {test : Expr} {body orelse : List Stmt} {pos : Pos} {c : Code} {fs : List Frame} {K : Flow → Sem Fin} {H : Value → Sem Fin} {rest : List Stmt} {i : Nat} {s₀ b s : Shared} {ρ : List (Nat × PV)} {bb : Bool} {env : Env} {R : GenEnd} {Y : Protocol}
    (he : EnvOk env (fS 6)) (hA : Rm 0 (A.over c fs)) (g : GIn L e it env x t i ρ s₀ b s) (ht : EvT 0 (fS 6) ρ test bb)
    (k : ∀ s', GIn L e it env x t i ρ s₀ b s' → Seg (MM w) A R Y n s₀ c ((execs (bif bb then body else orelse) env).wrap (fun f => match f with | .next => (execs rest env).wrap K H id id | f => K f) H id id) fs s') :
    Seg (MM w) A R Y n s₀ c ((execs (.If test body orelse pos :: rest) env).wrap K H id id) fs s :=
  seg_execs_cons (seg_If (ht w _ _ _ b s hA he (g.st.gf g.gf) g.st.loc _ _ fun s₁ e₁ => ⟨rfl, k s₁ (g.step e₁)⟩))
theorem seg_asg {n : Nat} {e' : Expr} {y : Str} {kk : Nat} {p' pos : Pos} {c : Code} {fs : List Frame} {K : Flow → Sem Fin} {H : Value → Sem Fin} {rest : List Stmt} {i : Nat} {s₀ b s : Shared} {ρ : List (Nat × PV)} {u : PV} {env : Env} {R : GenEnd} {Y : Protocol}
    (he : EnvOk env (fS 6)) (hA : Rm 0 (A.over c fs)) (g : GIn L e it env x t i ρ s₀ b s) (hk : ky y = kk) (hv : Ev 0 (fS 6) ρ e' u) (hf : flat u = true)
    (k : ∀ s', GIn L e it env x t i ((kk, u) :: drp kk ρ) s₀ b s' → Seg (MM w) A R Y n s₀ c ((execs rest env).wrap K H id id) fs s') (h57 : decide (kk < 57) = true := by rfl) (hl : (fS 6).names.lookup y = some .local := by decide +kernel)
    (hs : ∀ env : Env, swapsWith e' (some (.Name y p')) pos.line env = pure false := by intro _; rfl) :
    Seg (MM w) A R Y n s₀ c ((execs (.Assign [.Name y p'] e' pos :: rest) env).wrap K H id id) fs s :=
  seg_execs_cons (seg_run (wpAny_Assign_Name (hv w _ _ _ b s hA he (g.st.gf g.gf) g.st.loc _ _ fun v s₁ e₁ r₁ => (g.step e₁).store he hk (r₁.flat hf) (fun s₂ g₂ => k s₂ g₂) h57 hl) (hs env)))
theorem drop_head {α : Type} {items : List α} {n : Nat} {y : α} {ys : List α} (h : items.drop (items.length - (n + 1)) = y :: ys) (hle : n + 1 ≤ items.length) : items[items.length - 1 - n]? = some y ∧ items.drop (items.length - n) = ys := by
  have e1 : items.length - 1 - n = items.length - (n + 1) := by omega
  have e2 : items.length - n = items.length - (n + 1) + 1 := by omega
  constructor
  · have := congrArg (fun l => l[0]?) h
    rw [e1]; simpa [List.getElem?_drop] using this
  · have := congrArg List.tail h
    rw [e2, ← List.tail_drop]; exact this

theorem gen_loop (hA : Rm 3 A) {body : List Stmt} {k : Result → Sem Fin} {l : List Value} {p : Pos}
    (hk : ∀ s₀ b s, GEnd L e it (genv L a cd q) s₀ b s → Seg (MM w) A.in1 (genR L e it) (genY L e it x items) 0 s₀ (.func body (genv L a cd q)) (k (.ok .next)) [] s) :
    ∀ (cs : List Nat) (i : Nat) (esc : Bool) (m : Nat) (s₀ b s : Shared), x.cps.toList.drop i = cs → i ≤ x.cps.size → whole cs esc = true → items.drop (items.length - m) = (toks cs i esc).map tokV → m = (toks cs i esc).length → m ≤ items.length →
      GIn L e it (genv L a cd q) x t i [(6, .str x), (8, .bool esc)] s₀ b s →
      Seg (MM w) A.in1 (genR L e it) (genY L e it x items) m s₀ (.forLoop gFor.1 (.ref e) gFor.2 [] (genv L a cd q)) ((MM w).den (.forLoop gFor.1 (.ref e) gFor.2 [] (genv L a cd q))) [.ret k none false l (.func body (genv L a cd q)) p []] s := by
  obtain ⟨hR1, hR2⟩ := over_zero (w := w) (A := A) (L := genv L a cd q) (body := body) (body' := gFor.2) (tg := gFor.1) (v := .ref e) (k := k) (l := l) (p := p) hA
  intro cs
  induction cs with
  | nil =>
    intro i esc m s₀ b s hd hi hw hit hm hml g
    obtain ⟨Mid, W⟩ := enum_walk (w := w) (A := A.in1.over (.forLoop gFor.1 (.ref e) gFor.2 [] (genv L a cd q)) [.ret k none false l (.func body (genv L a cd q)) p []]) hR2.1 e it g.ei x t
    obtain rfl : esc = false := by simpa [whole] using hw
    obtain rfl : m = 0 := by simpa [toks] using hm
    obtain rfl : i = x.cps.size := by
      have := congrArg List.length hd
      rw [List.length_drop, Array.length_toList, List.length_nil] at this
      omega
    refine seg_forLoop (W.done s _ _ ⟨g.en, g.si⟩ fun h' tk hk' => seg_block_nil ?_)
    exact hk s₀ b _ (g.fin hk')
  | cons c cs ih =>
    intro i esc m s₀ b s hd hi hw hit hm hml g
    obtain ⟨Mid, W⟩ := enum_walk (w := w) (A := A.in1.over (.forLoop gFor.1 (.ref e) gFor.2 [] (genv L a cd q)) [.ret k none false l (.func body (genv L a cd q)) p []]) hR2.1 e it g.ei x t
    have hlt : i < x.cps.size := by
      have := congrArg List.length hd
      rw [List.length_drop, Array.length_toList, List.length_cons] at this
      omega
    have hxi : x.cps[i]? = some c := by
      have h1 : x.cps.toList[i]? = some c := by
        have := congrArg (fun l => l[0]?) hd
        simpa [List.getElem?_drop] using this
      simpa using h1
    have hd' : x.cps.toList.drop (i + 1) = cs := by
      have := congrArg List.tail hd
      simpa [List.tail_drop] using this
    refine seg_forLoop (W.item i s _ _ hlt ⟨g.en, g.si⟩ fun T vals h' tk hP hT hTup hMid hkeep => ?_)
    obtain ⟨u, y, ⟨c', u', hc', rfl⟩, rfl⟩ := hP
    rw [hxi] at hc'
    obtain rfl := Option.some.inj hc'
    dsimp only
    have hTw := W.apart _ _ _ hMid
    refine W.go _ _ _ i T _ _ _ hMid fun h'' hst hkeep' => ?_
    have g₁ : GIn L e it (genv L a cd q) x t (i + 1) [(6, .str x), (8, .bool esc)] s₀ b { s with heap := h'', toks := tk } := g.mvE (fun b o hb h => hkeep' b o hb (hkeep b o hb h)) hst.1 hst.2
    have hTup' : IsTup h'' T #[.int i u, .str ⟨#[c]⟩ u'] := let ⟨o, h1, h2⟩ := hTup; ⟨o, hkeep' T o hTw h1, h2⟩
    refine gen_assign (s := { s with heap := h'', toks := tk }) hR2 g₁ hTup' fun s₃ g₃ => ?_
    cases esc with
    | true =>
      have hw' : whole cs false = true := by simpa [whole] using hw
      have htk : toks (c :: cs) i true = (i, [92, c]) :: toks cs (i + 1) false := by simp [toks]
      rw [htk] at hit hm
      obtain ⟨m, rfl⟩ : ∃ m', m = m' + 1 := ⟨m - 1, by rw [List.length_cons] at hm; omega⟩
      have hm' : m = (toks cs (i + 1) false).length := by rw [List.length_cons] at hm; omega
      obtain ⟨hy, hrest⟩ := drop_head (by simpa using hit) hml
      refine seg_test genv_ok hR2 g₃ (EvT.b (Ev.nm ky_escape rfl)) fun s₄ g₄ => ?_
      refine seg_yield1 (esc := true) (y := tokV (i, [92, c])) rfl rfl rfl hR2 g₄ (by simp) (by simp) ?_ hy fun s₀' b' g₅ => ?_
      · exact Ev.tp (Evs.c (Ev.nm ky_pos rfl) (Evs.c ((Ev.bin Ev.str (Ev.nm ky_ch rfl) (Bop.add_str (by rw [sizeLine_eq, show Str.length (⟨#[c]⟩ : Str) = 1 from rfl, show Str.length ("\\" : Str) = 1 from by decide +kernel]; omega))).to (by rw [show ("\\" : Str) = ⟨#[92]⟩ from by decide +kernel]; rfl)) Evs.nil))
      refine seg_asg genv_ok hR2 g₅ ky_escape Ev.bool rfl fun s₆ g₆ => ?_
      refine seg_execs_nil (seg_execs_nil (seg_again rfl (ih (i + 1) false m s₀' b' s₆ hd' (by omega) hw' (by simpa using hrest) hm' (by omega) (g₆.sub (by simp [drp])))))
    | false =>
      refine seg_test genv_ok hR2 g₃ (EvT.b (Ev.nm ky_escape rfl)) fun s₄ g₄ => ?_
      by_cases h92 : c = 92
      · subst h92
        have hw' : whole cs true = true := by simpa [whole] using hw
        have htk : toks (92 :: cs) i false = toks cs (i + 1) true := by simp [toks]
        rw [htk] at hit hm
        refine seg_test (bb := true) genv_ok hR2 g₄ (EvT.cp (Ev.nm ky_ch rfl) Ev.str Cop.eq_str) fun s₅ g₅ => ?_
        refine seg_asg genv_ok hR2 g₅ ky_escape Ev.bool rfl fun s₆ g₆ => ?_
        refine seg_execs_nil (seg_execs_nil (seg_execs_nil (seg_again rfl (ih (i + 1) true m s₀ b s₆ hd' (by omega) hw' hit hm hml (g₆.sub (by simp [drp]))))))
      · have hw' : whole cs false = true := by simpa [whole, h92] using hw
        have htk : toks (c :: cs) i false = (i, [c]) :: toks cs (i + 1) false := by simp [toks, h92]
        rw [htk] at hit hm
        obtain ⟨m, rfl⟩ : ∃ m', m = m' + 1 := ⟨m - 1, by rw [List.length_cons] at hm; omega⟩
        have hm' : m = (toks cs (i + 1) false).length := by rw [List.length_cons] at hm; omega
        obtain ⟨hy, hrest⟩ := drop_head (by simpa using hit) hml
        refine seg_test (bb := false) genv_ok hR2 g₄ ((EvT.cp (Ev.nm ky_ch rfl) Ev.str Cop.eq_str).to ?_) fun s₅ g₅ => ?_
        · rw [show ("\\" : Str) = ⟨#[92]⟩ from by decide +kernel]
          refine beq_eq_false_iff_ne.mpr fun z => h92 ?_
          injection z with z
          simpa using z
        refine seg_yield1 (esc := false) (y := tokV (i, [c])) rfl rfl rfl hR2 g₅ (by simp) (by simp) ?_ hy fun s₀' b' g₆ => ?_
        · exact Ev.tp (Evs.c (Ev.nm ky_pos rfl) (Evs.c (Ev.nm ky_ch rfl) Evs.nil))
        refine seg_execs_nil (seg_execs_nil (seg_execs_nil (seg_again rfl (ih (i + 1) false m s₀' b' _ hd' (by omega) hw' (by simpa using hrest) hm' (by omega) g₆))))
end
end Mine
namespace Mine
theorem gen_start {w : World} {A : Around} {L a : Addr} {cd : Value} {q : Str} {x : Str} {t : Tok} {items : List PV} {s : Shared} {m : Str → Option Value} (hA : Rm 3 A) (hm : s.heap.Ns L m) (hx : m "addr" = some (.str x t)) (hG : GF (hideAll s.heap [L]))
    (hw : whole x.cps.toList false = true) (hit : items = (toks x.cps.toList 0 false).map tokV) :
    Seg (MM w) A.in1 (genR L (s.heap.objs.size + 1) s.heap.objs.size) (genY L (s.heap.objs.size + 1) s.heap.objs.size x items) items.length s (.func (fB 6) (genv L a cd q)) ((MM w).den (.func (fB 6) (genv L a cd q))) [] s := by
  have hR1 : Rm 0 (A.in1.over (.func (fB 6) (genv L a cd q)) []) := (over_zero (w := w) (A := A) (L := genv L a cd q) (body := fB 6) (body' := []) (tg := default) (v := .none) (k := fun _ => .pure (.done .next)) (l := []) (p := default) hA).1
  have lp : (genv L a cd q).kindOf "pos" = some .local := by show (fS 6).names.lookup ("pos" : Str) = some .local; decide +kernel
  have le : (genv L a cd q).kindOf "escape" = some .local := by show (fS 6).names.lookup ("escape" : Str) = some .local; decide +kernel
  have la : (genv L a cd q).kindOf "addr" = some .local := by show (fS 6).names.lookup ("addr" : Str) = some .local; decide +kernel
  have hkn : (fS 6).kind = .function := by decide +kernel
  have hke : (genv L a cd q).scope.kind = .function := hkn
  have hloc : ((genv L a cd q).scope.kind == .class || ((genv L a cd q).scope.kind == .module && (genv L a cd q).locals != (genv L a cd q).globals)) = false := by rw [hke]; rfl
  have n1 : ("addr" : Str) ≠ "pos" := by decide +kernel
  have n2 : ("addr" : Str) ≠ "escape" := by decide +kernel
  refine seg_func (seg_execs_cons (seg_run (wpAny_Assign_Name (wpAny_Constant_int ?_) rfl)))
  refine wpAny_storeName_local lp hm (fun h₁ hn₁ hs₁ => ?_) hloc
  refine seg_execs_cons (seg_run (wpAny_Assign_Name (wpAny_pure ?_) rfl))
  refine wpAny_storeName_local le hn₁ (fun h₂ hn₂ hs₂ => ?_) hloc
  have z₁ : h₁.objs.size = s.heap.objs.size := hs₁.1
  have z₂ : h₂.objs.size = s.heap.objs.size := hs₂.1.trans z₁
  have k₂ : ∀ b o, b ≠ L → s.heap.get? b = some o → h₂.get? b = some o := fun b o hb h => (hs₂.2 b hb).trans ((hs₁.2 b hb).trans h)
  have G₂ : GF h₂ := hG.keeps fun b o h => k₂ b o (fun z => by rw [z, hideAll_none _ (.head _)] at h; cases h) (of_hideAll _ h)
  have hx₂ : (fun y => if y = ("escape" : Str) then some (Value.bool false) else if y = ("pos" : Str) then some (Value.int 0 s.toks) else m y) "addr" = some (.str x t) := by
    dsimp only
    rw [if_neg n2, if_neg n1]; exact hx
  have hes₂ : (fun y => if y = ("escape" : Str) then some (Value.bool false) else if y = ("pos" : Str) then some (Value.int 0 s.toks) else m y) "escape" = some (.bool false) := if_pos rfl
  refine seg_execs_cons (seg_For (fun _ => rfl) ?_)
  obtain ⟨mg, mb, hmg, hno, hmb, hyes⟩ := gfb_enumerate _ G₂
  refine Call_ (Calls.Name_function_global hke (show (fS 6).names.lookup ("enumerate" : Str) = some .globalImplicit by decide +kernel) (Calls.loadGlobal_builtin hmg hno hmb hyes ?_) (by decide +kernel))
  refine PyProof.Rows.callWith_type1 (spliced_cons ?_) rfl
  refine wpAny_Name (wpAny_loadName_local hke la hn₂ hx₂ (spliced_nil ?_)) (by decide +kernel)
  refine call_enumerate_str fun h₃ hen hsi hz₃ hk₃ => ?_
  dsimp only at hen hsi hk₃ ⊢
  rw [z₂] at hen hsi ⊢
  refine wpAny_pyIter_enum hen fun p => ?_
  have hLlt : L < s.heap.objs.size := by obtain ⟨o, _, _, h, _⟩ := hm; exact Heap.lt_size h
  have fr : ∀ b, s.heap.objs.size ≤ b → s.heap.get? b = none := fun b hb => by
    cases e : s.heap.get? b with
    | none => rfl
    | some o => exact absurd (Heap.lt_size e) (Nat.not_lt.mpr hb)
  have raw : GRaw L (s.heap.objs.size + 1) s.heap.objs.size x t 0 false { s with heap := h₃, toks := s.toks + 1 + 1 + 1 } := ⟨⟨_, ns_keeps hn₂ hk₃, ⟨t, hx₂⟩, hes₂⟩, ⟨_, hen⟩, hsi⟩
  have k₃ : ∀ b o, b ≠ L → s.heap.get? b = some o → h₃.get? b = some o := fun b o hb h => hk₃ b o (k₂ b o hb h)
  have hm₃ := ns_keeps hn₂ hk₃
  have bk : ∀ b o, (hideAll s.heap [L, s.heap.objs.size + 1, s.heap.objs.size]).get? b = some o → s.heap.get? b = some o := fun b o h => of_hideAll _ h
  have gi : GIn L (s.heap.objs.size + 1) s.heap.objs.size (genv L a cd q) x t 0 [(6, .str x), (8, .bool false)] s { s with heap := hideAll s.heap [L, s.heap.objs.size + 1, s.heap.objs.size] } { s with heap := h₃, toks := s.toks + 1 + 1 + 1 } := by
    refine ⟨⟨fun y c hc => (by simp [newEnv] at hc), ⟨⟨fun b o h => k₃ b o (fun z => ?_) (bk b o h), fun _ _ h => h, fun h => h, rfl⟩, hideAll_none _ (.head _), ?_, _, hm₃, fun p hp y hy => ?_⟩, trivial⟩, raw.en, raw.si, ?_, hideAll_none _ (.tail _ (.head _)), hideAll_none _ (.tail _ (.tail _ (.head _))), fun b o m1 m2 m3 h => hideAll_get _ h fun hb => ?_, rfl, rfl, ?_, ?_, ?_, rfl, rfl⟩
    · rw [z, hideAll_none _ (.head _)] at h; cases h
    · rintro b (⟨o, hb⟩ | hb)
      · by_cases z : b = L
        · rw [z]; obtain ⟨o, _, _, h, _⟩ := hm₃; exact ⟨o, h⟩
        · exact ⟨o, k₃ b o z hb⟩
      · cases hb
    · simp only [List.mem_cons, List.not_mem_nil, or_false] at hp
      rcases hp with rfl | rfl
      · obtain rfl : y = "addr" := by have := ky_get ky_addr (by decide); rw [hy] at this; exact Option.some.inj this
        exact ⟨_, .inl ⟨la, hx₂⟩, .str _ _⟩
      · obtain rfl : y = "escape" := by have := ky_get ky_escape (by decide); rw [hy] at this; exact Option.some.inj this
        exact ⟨_, .inl ⟨le, hes₂⟩, .bool _⟩
    · refine hG.keeps fun b o h => hideAll_get _ (of_hideAll _ h) fun hb => ?_
      simp only [List.mem_cons, List.not_mem_nil, or_false] at hb
      rcases hb with z | z | z
      · rw [z, hideAll_none _ (.head _)] at h; cases h
      · have := of_hideAll _ h; rw [z, fr _ (Nat.le_succ _)] at this; cases this
      · have := of_hideAll _ h; rw [z, fr _ (Nat.le_refl _)] at this; cases this
    · simp only [List.mem_cons, List.not_mem_nil, or_false] at hb
      rcases hb with hb | hb | hb
      · exact m1 hb
      · exact m2 hb
      · exact m3 hb
    · exact Nat.ne_of_lt (Nat.lt_succ_of_lt hLlt)
    · exact Nat.ne_of_lt hLlt
    · exact Nat.succ_ne_self _
  refine gen_loop hA (t := t) (body := fB 6) (l := []) (fun s₀ b s' gE => ?_) x.cps.toList 0 false items.length s _ _ (List.drop_zero ..) (Nat.zero_le _) hw ?_ ?_ (Nat.le_refl _) gi
  · refine seg_execs_cons (seg_If ((EvT.b (Ev.nm ky_escape rfl)) w _ _ _ b s' hR1 genv_ok (gE.gf.ext gE.st.ext) gE.st.loc _ _ fun s₁ e₁ => ⟨rfl, ?_⟩))
    refine seg_execs_nil (seg_execs_nil (seg_end (.ok (.ret .none)) ⟨rfl, rfl, ?_⟩))
    exact (⟨gE.st.step e₁, gE.gf, gE.back, gE.gens, gE.os⟩ : GEnd _ _ _ _ s₀ b s₁).kp
  · rw [Nat.sub_self, List.drop_zero]; exact hit
  · rw [hit, List.length_map]
end Mine
namespace Mine
/-- a StopIteration without a value is made and raised -/
theorem stop_raised {α β : Type} {f : β → Sem α} {w : World} {A : Around} {E : Value → Shared → Prop} {s : Shared} {Q : α → Shared → Prop} (hh : A.handled = none)
    (q : ∀ e h', (∀ b o, s.heap.get? b = some o → h'.get? b = some o) → Shared.TypeIs { s with heap := h' } e "StopIteration" → E e { s with heap := h' }) :
    wpAny (MM w) A (newExc (.type "StopIteration") [] >>= fun e => (raiseNew e : Sem β) >>= f) Q E s := by
  simp only [newExc, newTuple, raiseNew]
  refine wpAny_bind (wpAny_bind (wpAny_newObj_type ?_ (by size_fits)))
  have first : firstArgMember (.type "StopIteration") [] = pure Value.none := by simp only [firstArgMember]; rfl
  refine wpAny_bind (wpAny_of_eq first (wpAny_newObj_type (wpAny_bind (wpAny_bind (wpAny_handled ?_))) (by size_fits)))
  rw [hh]
  exact wpAny_throw (q _ _ (fun b o hb => Heap.get?_push_of_some _ (Heap.get?_push_of_some _ hb)) ⟨_, Heap.get?_push_size _ rfl, rfl⟩)
/-- waking a generator function: what it comes to, its state bare -/
theorem next_gen {w : World} {A : Around} {E : Value → Shared → Prop} {s : Shared} {I : Addr} {g n : Nat} {gs : GenState} {P : Nat → Shared → Shared → Prop} {Y : Protocol} {Q : Option Value → Shared → Prop} (hh : A.handled = none)
    (hl : s.heap.NoLimit) (hroom : A.depth < recursionLimit) (hI : s.heap.IsGen I g) (hgs : s.gens[g]? = some gs)
    (hgo : gs.Goes (MM w) A.in1 (fun n s₀ r s₁ => r = .ok (.ret .none) ∧ P n s₀ s₁) Y n (.send .none) (s.setGen g .running))
    (hY : ∀ v s₁ gs', gs'.bare = true → Y (n - 1) (s.setGen g .running) v s₁ (fun r' s'' => match n with
        | 0 => False
        | m + 1 => gs'.Goes (MM w) A.in1 (fun n s₀ r s₁ => r = .ok (.ret .none) ∧ P n s₀ s₁) Y m r' s'') → Q (some v) (s₁.setGen g gs'))
    (hP : ∀ s₁, P n (s.setGen g .running) s₁ → ∀ h', (∀ b o, s₁.heap.get? b = some o → h'.get? b = some o) → Q none { s₁.setGen g .finished with heap := h' }) : wpAny (MM w) A (pyNext (.ref I)) Q E s := by
  unfold pyNext
  refine wpAny_bind (wpAny_attempt (wpAny_callSpecial?_slot (name := Str.ofString "__next__") hI.typeIs slot_gen_next (wpAny_call_entry slot_gen_next hI.typeIs entry_gen_next ?_ (args_gen_next _))))
  show wpAny _ A.in1 (Builtin.Generator.genWake (.ref I) (.send .none)) _ _ s
  unfold Builtin.Generator.genWake
  refine wpAny_bind (wpAny_holding (wpAny_genNumber hI (wpAny_bind (wpAny_genState hgs ?_))))
  -- a generator that is awake, or at its end, goes nowhere
  have asleep : (∃ c, gs = .fresh c) ∨ ∃ k l c p fs cl, gs = .suspended k l c p fs cl := by
    cases gs with
    | fresh c => exact .inl ⟨c, rfl⟩
    | suspended k l c p fs cl => exact .inr ⟨k, l, c, p, fs, cl, rfl⟩
    | running => exact hgo.elim
    | finished => exact hgo.elim
  rcases asleep with ⟨c, rfl⟩ | ⟨k, l, c, p, fs, cl, rfl⟩
  all_goals
    refine wpAny_bind (wpAny_roomToWake hl hroom (wpAny_resumeQ hgs hgo (fun x s₁ hx => ?_) fun v s₁ gs' hb hv => wpAny_pure ⟨v, rfl, wpAny_pure (hY v s₁ gs' hb hv)⟩))
    obtain ⟨rfl, hp⟩ := hx
    exact stop_raised (A := A.in1) (s := s₁.setGen g .finished) hh fun e h' hk ht => wpAny_bind (wpAny_isInstance ht isSubtype_stop (wpAny_pure (hP s₁ hp h' hk)))
end Mine
namespace Mine
theorem setGen_ne {s : Shared} {g j : Nat} {y : GenState} (h : j ≠ g) : (s.setGen g y).gens[j]? = s.gens[j]? := (GenOnly.setGen s g y).2 j h
theorem setGen_bare {s : Shared} {g : Nat} {y : GenState} (h : AllBare s.gens) (hy : y.bare = true) : AllBare (s.setGen g y).gens := by
  intro z hz
  obtain ⟨j, hj, rfl⟩ := Array.mem_iff_getElem.mp hz
  by_cases e : j = g
  · subst e
    have hj' : j < s.gens.size := by rwa [(GenOnly.setGen s j y).1] at hj
    have := setGen_self (s := s) (x := y) (Array.getElem?_eq_getElem hj')
    rw [Array.getElem?_eq_getElem hj] at this
    rw [Option.some.inj this]; exact hy
  · have := setGen_ne (s := s) (y := y) e
    rw [Array.getElem?_eq_getElem hj] at this
    obtain ⟨hj', e'⟩ := Array.getElem?_eq_some_iff.mp this.symm
    exact e' ▸ h _ (Array.getElem_mem hj')
theorem mv_gen {L e it : Addr} {fp : List Addr} {g : Nat} {s s₁ s' : Shared} {y : GenState} (kp : Kp L e it (s.setGen g .running) s₁) (hfp : ∀ b o, s.heap.get? b = some o → b ∉ fp → b ≠ L ∧ b ≠ e ∧ b ≠ it) (hy : y.bare = true)
    (hh : ∀ b o, s₁.heap.get? b = some o → s'.heap.get? b = some o) (hg : s'.gens = (s₁.setGen g y).gens) (ho : s'.os = s₁.os) : Mv fp [g] s s' where
  heap := fun b o hb h => hh b o (kp.heap b o (hfp b o h hb).1 (hfp b o h hb).2.1 (hfp b o h hb).2.2 h)
  gens := fun j z hj h => by
    have hj' : j ≠ g := fun e => hj (e ▸ List.mem_singleton_self _)
    rw [hg, setGen_ne hj']
    exact kp.gens j z (by rw [setGen_ne hj']; exact h)
  bare := fun h => by rw [hg]; exact setGen_bare (kp.bare (setGen_bare h rfl)) hy
  os := ho.trans kp.os

/-- the generator, as an iterator -/
noncomputable def GJ (w : World) (A : Around) (I L a : Addr) (cd : Value) (q x : Str) (items : List PV) (g : Nat) : Nat → List Addr → Shared → Prop := fun i fp s =>
  s.heap.IsGen I g ∧ GF (hideAll s.heap fp) ∧ I ≠ L ∧
  ((i = 0 ∧ fp = [I, L] ∧ (∃ m t, s.heap.Ns L m ∧ m "addr" = some (.str x t)) ∧ s.gens[g]? = some (.fresh (.func (fB 6) (genv L a cd q)))) ∨
   (0 < i ∧ ∃ e it esc j t, fp = [I, L, e, it] ∧ GRaw L e it x t j esc s ∧ I ≠ e ∧ I ≠ it ∧ L ≠ e ∧ L ≠ it ∧ e ≠ it ∧ ∃ gs, s.gens[g]? = some gs ∧ ∀ s'', (∀ b, b = L ∨ b = e ∨ b = it → ∀ o, s.heap.get? b = some o → s''.heap.get? b = some o) → GF (hideAll s''.heap [L, e, it]) →
      gs.Goes (MM w) A.in1 (genR L e it) (genY L e it x items) (items.length - i) (.send .none) s''))
theorem gj_go {w : World} {A : Around} {I L a : Addr} {cd : Value} {q x : Str} {items : List PV} {g i : Nat} {fp : List Addr} {s : Shared} (hA : Rm 3 A) (hw : whole x.cps.toList false = true) (hit : items = (toks x.cps.toList 0 false).map tokV) (h : GJ w A I L a cd q x items g i fp s) :
    ∃ e it gs, s.gens[g]? = some gs ∧ gs.Goes (MM w) A.in1 (genR L e it) (genY L e it x items) (items.length - i) (.send .none) (s.setGen g .running) ∧ (∀ b o, s.heap.get? b = some o → b ∉ fp → b ≠ I ∧ b ≠ L ∧ b ≠ e ∧ b ≠ it) ∧
      (∀ b ∈ [I, L, e, it], b ∈ fp ∨ s.heap.get? b = none) ∧ I ≠ e ∧ I ≠ it ∧ L ≠ e ∧ L ≠ it ∧ e ≠ it ∧ (∀ b ∈ fp, b ∈ [I, L, e, it]) := by
  obtain ⟨⟨oI, nm, qn, hI, rI⟩, hG, hIL, h⟩ := h
  rcases h with ⟨rfl, rfl, ⟨m, t, hm, hx⟩, hg⟩ | ⟨h0, e, it, esc, j, t, rfl, raw, n1, n2, n3, n4, n5, gs, hg, hgo⟩
  · have hLlt : L < s.heap.objs.size := by obtain ⟨o, _, _, h, _⟩ := hm; exact Heap.lt_size h
    have hIlt : I < s.heap.objs.size := Heap.lt_size hI
    have fr : ∀ b, s.heap.objs.size ≤ b → s.heap.get? b = none := fun b hb => by
      cases e : s.heap.get? b with
      | none => rfl
      | some o => exact absurd (Heap.lt_size e) (Nat.not_lt.mpr hb)
    have hGL : GF (hideAll s.heap [L]) := hG.keeps fun b o hb => hideAll_get _ (of_hideAll _ hb) fun hm => by
      rw [List.mem_singleton.mp hm, hideAll_none _ (.tail _ (.head _))] at hb; cases hb
    refine ⟨s.heap.objs.size + 1, s.heap.objs.size, _, hg, ⟨rfl, ?_⟩, fun b o hb hn => ?_, fun b hb => ?_, Nat.ne_of_lt (Nat.lt_succ_of_lt hIlt), Nat.ne_of_lt hIlt, Nat.ne_of_lt (Nat.lt_succ_of_lt hLlt), Nat.ne_of_lt hLlt, Nat.succ_ne_self _, fun b hb => ?_⟩
    · exact gen_start (s := s.setGen g .running) hA hm hx hGL hw hit
    · simp only [List.mem_cons, List.not_mem_nil, or_false, not_or] at hn
      have := Heap.lt_size hb
      exact ⟨hn.1, hn.2, Nat.ne_of_lt (Nat.lt_succ_of_lt this), Nat.ne_of_lt this⟩
    · simp only [List.mem_cons, List.not_mem_nil, or_false] at hb ⊢
      rcases hb with rfl | rfl | rfl | rfl
      · exact .inl (.inl rfl)
      · exact .inl (.inr rfl)
      · exact .inr (fr _ (Nat.le_succ _))
      · exact .inr (fr _ (Nat.le_refl _))
    · simp only [List.mem_cons, List.not_mem_nil, or_false] at hb ⊢
      rcases hb with rfl | rfl <;> simp
  · refine ⟨e, it, gs, hg, hgo _ (fun _ _ _ h => h) (hG.keeps fun b o hb => hideAll_get _ (of_hideAll _ hb) fun hm => ?_), fun b o hb hn => ?_, fun b hb => .inl hb, n1, n2, n3, n4, n5, fun b hb => hb⟩
    · rw [hideAll_none _ (.tail _ hm)] at hb; cases hb
    · simp only [List.mem_cons, List.not_mem_nil, or_false, not_or] at hn
      exact hn
theorem gj_gf {L I e it : Addr} {fp : List Addr} {g : Nat} {s s₁ : Shared} {y : GenState} (hG : GF (hideAll s.heap fp)) (kp : Kp L e it (s.setGen g .running) s₁) (h1 : ∀ b o, s.heap.get? b = some o → b ∉ fp → b ≠ I ∧ b ≠ L ∧ b ≠ e ∧ b ≠ it) : GF (hideAll (s₁.setGen g y).heap [I, L, e, it]) :=
  hG.keeps fun b o hb => by
    have hs := of_hideAll _ hb
    have hn : b ∉ fp := fun hm => by rw [hideAll_none _ hm] at hb; cases hb
    obtain ⟨a1, a2, a3, a4⟩ := h1 b o hs hn
    refine hideAll_get _ (kp.heap b o a2 a3 a4 hs) fun hm => ?_
    simp only [List.mem_cons, List.not_mem_nil, or_false] at hm
    rcases hm with z | z | z | z
    · exact a1 z
    · exact a2 z
    · exact a3 z
    · exact a4 z
theorem rep_was {O : Addr → Prop} {s s₁ : Shared} {v : Value} {y : PV} (hO : Own O s) (r : Rep (was s) s₁.heap v y) : Rep O s₁.heap v y := r.mono (fun a ha => hO a ha) fun _ _ _ e => e
theorem itr_gen {w : World} {A : Around} {O : Addr → Prop} {I L a : Addr} {cd : Value} {q x : Str} {items : List PV} {g : Nat} (hw : whole x.cps.toList false = true) (hit : items = (toks x.cps.toList 0 false).map tokV) :
    ItrG w A O I items [g] (GJ w A I L a cd q x items g) where
  noseq := by
    rintro i fp s b o its k ⟨⟨oI, nm, qn, hI, _, hd, _⟩, _, _, h⟩ hb ho d
    have hbI : b ≠ I := fun z => by rw [z, hI] at ho; cases ho; rw [hd] at d; cases d
    rcases h with ⟨_, rfl, ⟨m, t, hm, _⟩, _⟩ | ⟨_, e, it, esc, j, t, rfl, raw, _⟩
    · simp only [List.mem_cons, List.not_mem_nil, or_false] at hb
      rcases hb with hb | rfl
      · exact hbI hb
      · exact ns_noSeq hm o its k ho d
    · simp only [List.mem_cons, List.not_mem_nil, or_false] at hb
      rcases hb with hb | rfl | rfl | rfl
      · exact hbI hb
      · obtain ⟨m, hm, _⟩ := raw.ns
        exact ns_noSeq hm o its k ho d
      · obtain ⟨old, h⟩ := raw.en
        rw [h] at ho; cases ho; cases d
      · obtain ⟨o', h, _, d'⟩ := raw.si
        rw [h] at ho; cases ho; rw [d'] at d; cases d
  cls := by
    rintro i fp s ⟨⟨oI, nm, qn, hI, hc, _⟩, _⟩
    exact ⟨oI, _, hI, hc, by decide⟩
  frame := by
    rintro i fp s s' ⟨⟨oI, nm, qn, hI, rI⟩, hG, hIL, h⟩ h1 h2 h3 h4
    have hI' : I ∈ fp := by rcases h with ⟨_, rfl, _⟩ | ⟨_, e, it, esc, j, t, rfl, _⟩ <;> exact .head _
    refine ⟨⟨oI, nm, qn, h1 I hI' _ hI, rI⟩, h4, hIL, ?_⟩
    rcases h with ⟨h0, rfl, ⟨m, t, ⟨oL, es, ep, hL, rL⟩, hx⟩, hg⟩ | ⟨h0, e, it, esc, j, t, rfl, raw, n1, n2, n3, n4, n5, gs, hg, hgo⟩
    · exact .inl ⟨h0, rfl, ⟨m, t, ⟨oL, es, ep, h1 L (.tail _ (.head _)) _ hL, rL⟩, hx⟩, h3 g (.head _) _ hg⟩
    · have hk : ∀ b, b = L ∨ b = e ∨ b = it → ∀ o, s.heap.get? b = some o → s'.heap.get? b = some o := by
        rintro b (rfl | rfl | rfl) o ho
        · exact h1 _ (.tail _ (.head _)) o ho
        · exact h1 _ (.tail _ (.tail _ (.head _))) o ho
        · exact h1 _ (.tail _ (.tail _ (.tail _ (.head _)))) o ho
      exact .inr ⟨h0, e, it, esc, j, t, rfl, raw.keeps hk, n1, n2, n3, n4, n5, gs, h3 g (.head _) _ hg, fun s'' hs hG' => hgo s'' (fun b hb o ho => hs b hb o (hk b hb o ho)) hG'⟩
  self := fun i fp s A' Q E h q' => wpAny_pyIter_gen h.1 q'
  item := by
    intro i fp s y₀ Q E hA hO hJ hx k
    obtain ⟨e, it, gs, hg, hgo, h1, h2, n1, n2, n3, n4, n5, h3⟩ := gj_go hA hw hit hJ
    obtain ⟨hI, hG, hIL, _⟩ := hJ
    have hlt := (List.getElem?_eq_some_iff.mp hx).1
    obtain ⟨m, hm⟩ : ∃ m, items.length - i = m + 1 := ⟨items.length - i - 1, by omega⟩
    rw [hm] at hgo
    have hlim : s.heap.NoLimit := (hG.keeps fun b o h => of_hideAll _ h : GF s.heap).lim
    refine next_gen (P := fun n s₀ s₁ => n = 0 ∧ Kp L e it s₀ s₁) hA.1 hlim hA.depth hI hg hgo (fun v s₁ gs' hb hv => ?_) (fun s₁ hp h' hk => ?_)
    · obtain ⟨y, hy, r, kp, ⟨j, esc, t, raw⟩, κ⟩ := hv
      have hidx : items.length - 1 - (m + 1 - 1) = i := by omega
      rw [hidx, hx] at hy
      obtain rfl := Option.some.inj hy
      have hI' : s₁.heap.IsGen I g := let ⟨oI, nm, qn, hI, rI⟩ := hI; ⟨oI, nm, qn, kp.heap I oI hIL n1 n2 hI, rI⟩
      have hsz : g < s₁.gens.size := by
        have e1 := kp.gens g _ (setGen_self hg)
        exact (Array.getElem?_eq_some_iff.mp e1).1
      refine k v _ [I, L, e, it] h2 (mv_gen kp (fun b o hb hn => ⟨(h1 b o hb hn).2.1, (h1 b o hb hn).2.2.1, (h1 b o hb hn).2.2.2⟩) hb (fun b o h => h) rfl rfl) ⟨hI', gj_gf hG kp h1, hIL, .inr ⟨Nat.succ_pos _, e, it, esc, j, t, rfl, ⟨raw.ns, raw.en, raw.si⟩, n1, n2, n3, n4, n5, gs', setGen_self (Array.getElem?_eq_getElem hsz), fun s'' hs hG' => ?_⟩⟩ (rep_was (s := s.setGen g .running) hO r)
      have hm' : items.length - (i + 1) = m := by omega
      rw [hm']
      exact κ s'' hs hG'
    · exact absurd hp.1 (Nat.succ_ne_zero m)
  done := by
    intro fp s Q E hA hO hJ k
    obtain ⟨e, it, gs, hg, hgo, h1, h2, n1, n2, n3, n4, n5, h3⟩ := gj_go hA hw hit hJ
    obtain ⟨hI, hG, hIL, _⟩ := hJ
    rw [Nat.sub_self] at hgo
    have hlim : s.heap.NoLimit := (hG.keeps fun b o h => of_hideAll _ h : GF s.heap).lim
    refine next_gen (P := fun n s₀ s₁ => n = 0 ∧ Kp L e it s₀ s₁) hA.1 hlim hA.depth hI hg hgo (fun v s₁ gs' hb hv => ?_) (fun s₁ hp h' hk => ?_)
    · obtain ⟨y, hy, r, kp, raw, κ⟩ := hv
      exact (κ s₁ (fun _ _ _ h => h) ((gj_gf (y := .running) hG kp h1).keeps fun b o hb => hideAll_get _ (of_hideAll _ hb) fun hm => by rw [hideAll_none _ (.tail _ hm)] at hb; cases hb)).elim
    · exact k _ (mv_gen (y := .finished) hp.2 (fun b o hb hn => ⟨(h1 b o hb hn).2.1, (h1 b o hb hn).2.2.1, (h1 b o hb hn).2.2.2⟩) rfl hk rfl rfl)
end Mine
namespace Mine
section
variable {n : Nat} {sc : Scope} {ρ : List (Nat × PV)}
theorem EvI.esc {e : Expr} {p pos : Pos} {x : Str} (h : Ev n sc ρ e (.str x)) (hw : whole x.cps.toList false = true) (hg : sc.names.lookup ("_iter_escaped_chars" : Str) = some .globalImplicit := by decide +kernel)
    (hp : ∀ env, starEach [e] env = (false, eval e env) :: starEach [] env := by intro _; rfl) :
    EvI n sc ρ (.Call (.Name "_iter_escaped_chars" p) [e] [] pos) ((toks x.cps.toList 0 false).map tokV) := by
  intro w A env O s₀ s hA he hG hL Q E q
  obtain ⟨mg, hmg, a, hfa, hfn⟩ := gf_f6 _ hG
  refine Call_ (Calls.Name_function_global he.kind (by unfold Env.kindOf; rw [he.scope]; exact hg) (Calls.loadGlobal_global (by rw [he.globals]; exact hmg) hfa ?_) (by decide +kernel))
  obtain ⟨o, name, qual, doc, pm, an, cd, ct, ho, hdat, hc⟩ := hfn.is
  refine callWith_def hdat (Evs.cons h Evs.nil hp w A env O s₀ s pos hA he hG hL _ _ fun vs s₁ e₁ r₁ => ⟨e₁.heap _ _ ho, ?_⟩) (hp env)
  obtain _ | ⟨ra, _ | _⟩ := r₁
  cases ra
  rename_i t
  have hco : (fS 6).isCoroutine = false := by decide +kernel
  have hgn : (fS 6).isGenerator = true := by decide +kernel
  have hkn : (fS 6).kind = .function := by decide +kernel
  have hcell : ∀ y ∈ (fS 6).names, y.2 ≠ .cell := by decide +kernel
  have hla : (fS 6).names.lookup ("addr" : Str) = some .local := by decide +kernel
  have hG₁ := hG.ext e₁
  have hc₁ := (let ⟨c1, o1, vs, t, x1, x2, x3⟩ := hc; ⟨c1, o1, vs, t, x1, e₁.heap _ _ x2, x3⟩ : s₁.heap.CodeRec cd qual)
  refine wpAny_call (codeAny_call_generator hA.depth (e₁.heap _ _ ho) hdat hco hgn rfl hc₁ ?_)
  have hb : bindArgs { name := name, qualname := qual, params := fA 6, body := .stmts (fB 6), scope := fS 6, globals := mainGlobals, closure := [], defaults := .none, kwdefaults := .none, doc := doc, pyModule := pm, annotations := an, code := cd, closureTuple := ct, builtins := builtinsNs } ⟨[.str x t], []⟩ = pure [(("addr" : Str), .str x t)] := by
    unfold bindArgs; rfl
  refine wpAny_of_eq hb ?_
  refine wpAny_newFunctionEnv hcell (fun y hy => by rw [List.mem_singleton.mp hy]; exact hla) (fun h₁ hns hsb => ?_) hkn
  dsimp only at hns hsb ⊢
  have hsz : h₁.objs.size = s₁.heap.objs.size + 1 := by rw [hsb.1, Heap.size_push]
  have k₁ : ∀ b o, s₁.heap.get? b = some o → h₁.get? b = some o := fun b o h => hsb.extBut b o (Nat.ne_of_lt (Heap.lt_size h)) (Heap.get?_push_of_some _ h)
  refine ⟨hG₁.lim.keeps k₁, ?_⟩
  generalize hgo : ({ cls := .type "generator", data := .fields #[.int s₁.gens.size 0, .str name (s₁.toks + [(("addr" : Str), Value.str x t)].length), .str qual (s₁.toks + [(("addr" : Str), Value.str x t)].length + 1)] } : Obj) = go
  have hI : (h₁.push go).get? h₁.objs.size = some go := Heap.get?_push_size _ (by subst hgo; rfl)
  have k₂ : ∀ b o, s₁.heap.get? b = some o → (h₁.push go).get? b = some o := fun b o h => Heap.get?_push_of_some _ (k₁ b o h)
  have ex : Ext s₁ { s₁ with heap := h₁.push go, gens := s₁.gens.push (.fresh (.func (fB 6) (genv s₁.heap.objs.size a cd (qual ++ ".<locals>.")))), toks := s₁.toks + [(("addr" : Str), Value.str x t)].length + 1 + 1 } :=
    ⟨k₂, fun i y h => by
      dsimp only
      rw [Array.getElem?_push]
      have := (Array.getElem?_eq_some_iff.mp h).1
      rw [if_neg (Nat.ne_of_lt this)]; exact h, fun h => h.push rfl, rfl⟩
  have hgen : (h₁.push go).IsGen h₁.objs.size s₁.gens.size := ⟨go, _, _, hI, by subst hgo; rfl, by subst hgo; rfl, by subst hgo; rfl⟩
  refine wpAny_pyIter_gen hgen ?_
  have hL₁ : (h₁.push go).Ns s₁.heap.objs.size (fun y => [(("addr" : Str), Value.str x t)].reverse.lookup y) := ns_keeps hns fun b o h => Heap.get?_push_of_some _ h
  have fr : ∀ b, s₁.heap.objs.size ≤ b → s.heap.get? b = none := fun b hb => by
    cases e : s.heap.get? b with
    | none => rfl
    | some o => exact absurd (Heap.lt_size (e₁.heap _ _ e)) (Nat.not_lt.mpr hb)
  have hfp : ∀ b ∈ [h₁.objs.size, s₁.heap.objs.size], s.heap.get? b = none := fun b hb => by
    simp only [List.mem_cons, List.not_mem_nil, or_false] at hb
    rcases hb with rfl | rfl
    · exact fr _ (by rw [hsz]; exact Nat.le_succ _)
    · exact fr _ (Nat.le_refl _)
  refine q h₁.objs.size [h₁.objs.size, s₁.heap.objs.size] [s₁.gens.size] _ (e₁.trans ex) (fun O' ho1 ho2 => ⟨_, itr_gen (L := s₁.heap.objs.size) (a := a) (cd := cd) (q := qual ++ ".<locals>.") (x := x) hw rfl, hgen, ?_, ?_, .inl ⟨rfl, rfl, ⟨_, t, hL₁, by simp⟩, ?_⟩⟩) (fun b hb => ⟨hfp b hb, ?_⟩) (fun g hg' => ?_)
  · exact gf_hide hG (e₁.trans ex) hfp
  · rw [hsz]; exact Nat.succ_ne_self _
  · show (s₁.gens.push _)[s₁.gens.size]? = _
    rw [Array.getElem?_push_size]
  · simp only [List.mem_cons, List.not_mem_nil, or_false] at hb
    rcases hb with rfl | rfl
    · exact ⟨_, hI⟩
    · obtain ⟨o, _, _, h, _⟩ := hL₁; exact ⟨o, h⟩
  · rw [List.mem_singleton.mp hg']
    rcases Nat.eq_zero_or_pos s.gens.size with e | e
    · omega
    · have := e₁.gens (s.gens.size - 1) _ (Array.getElem?_eq_getElem (by omega))
      have := (Array.getElem?_eq_some_iff.mp this).1
      omega
end
end Mine
namespace Mine
theorem Cop.notin_str {x y : Str} : Cop .NotIn (.str y) (.str x) (!(!(Builtin.Str.occurrences x y 0 x.length 1).isEmpty)) := by
  rintro w A O s _ _ hA hO (_ | _) (_ | _) Q E q
  exact PySem.P.notIn_str (q _ (.refl _))
theorem strip_walk {n : Nat} {x : Str} (h : (Builtin.Str.occurrences x "\"" 0 x.length 1).isEmpty = true) : Fsp (n + 1) 7 [.str x] (.str x) :=
  .one ky_addr (Xs.if_ret (b := true) ((EvT.cp Ev.str (Ev.nm ky_addr rfl) Cop.notin_str).to (by rw [h]; rfl)) (Xs.ret (Ev.nm ky_addr rfl)))
noncomputable abbrev Tok := Nat × List Nat
noncomputable def tokS (p : Nat × List Nat) : Str := ⟨p.2.toArray⟩
noncomputable def parStep (d : Int) (p : Nat × List Nat) : Int := if tokS p == "(" then d + 1 else if tokS p == ")" then d - 1 else d
theorem check_walk {n : Nat} {x : Str} (h : (Builtin.Str.occurrences x "\"" 0 x.length 1).isEmpty = true) (hw : whole x.cps.toList false = true)
    (hd : ∀ pre post, toks x.cps.toList 0 false = pre ++ post → 0 ≤ pre.foldl parStep 0) : Fsp (n + 4) 8 [.str x] (.bool ((toks x.cps.toList 0 false).foldl parStep 0 == 0)) := by
  refine .one ky_addr (Xs.asg ky_addr (Ev.fn gf_f7 (strip_walk h) (Evs.c (Ev.nm ky_addr rfl) Evs.nil)) (Xs.asg ky_opens Ev.int ?_))
  refine Xs.each (toks x.cps.toList 0 false) tokV (EvI.esc (Ev.nm ky_addr rfl) hw) (by omega) (fun d : Int => [(13, .int d), (6, .str x)]) (fun _ => none) parStep 0 (by simp [drp]) rfl (fun pre p post hl => ?_) (Xs.ret (Ev.cp (Ev.nm ky_opens rfl) Ev.int Cop.eq_int))
  have h1 := hd (pre ++ [p]) post (by rw [hl]; simp)
  rw [List.foldl_append] at h1
  generalize pre.foldl parStep 0 = d at h1 ⊢
  refine ⟨_, Tg.v2 ky_pos ky_ch, ?_⟩
  have h1 : 0 ≤ parStep d p := h1
  cases hp : tokS p == "(" with
  | true =>
    have e : parStep d p = d + 1 := by unfold parStep; rw [if_pos hp]
    rw [e]
    exact Xs.if_next (b := true) ((EvT.cp (Ev.nm ky_ch rfl) Ev.str Cop.eq_str).to hp) (Xs.iadd ky_opens rfl Ev.int (Xs.done (ρ' := [(13, .int (d + 1)), (6, .str x)]) (by simp [drp]))) Xs.nil
  | false =>
    refine Xs.if_next (b := false) (ρ₁ := [(13, .int (parStep d p)), (6, .str x)]) (ω₁ := none) ((EvT.cp (Ev.nm ky_ch rfl) Ev.str Cop.eq_str).to hp) ?_ Xs.nil
    cases hp2 : tokS p == ")" with
    | true =>
      have e : parStep d p = d - 1 := by unfold parStep; rw [if_neg (by rw [hp]; decide), if_pos hp2]
      rw [e] at h1 ⊢
      refine Xs.if_next (b := true) ((EvT.cp (Ev.nm ky_ch rfl) Ev.str Cop.eq_str).to hp2) (Xs.isub ky_opens rfl Ev.int (Xs.if_next (b := false) (ρ₁ := [(13, .int (d - 1)), (6, .str x)]) ((EvT.cp (Ev.nm ky_opens rfl) Ev.int Cop.lt_int).to (by simpa using h1)) (Xs.done (by simp [drp])) Xs.nil)) Xs.nil
    | false =>
      have e : parStep d p = d := by unfold parStep; rw [if_neg (by rw [hp]; decide), if_neg (by rw [hp2]; decide)]
      rw [e]
      exact Xs.if_next (b := false) ((EvT.cp (Ev.nm ky_ch rfl) Ev.str Cop.eq_str).to hp2) (Xs.done (by simp [drp])) Xs.nil
end Mine
namespace Mine
noncomputable abbrev Leaf := Str × Nat × Nat
noncomputable def leafV (l : Leaf) : PV := .tup [.str l.1, .int l.2.1, .int l.2.2]
noncomputable abbrev LS := Int × Str × List Leaf
noncomputable def leafStep (s : LS) (p : Nat × List Nat) : LS :=
  if tokS p == "(" then (s.1 + 1, s.2.1, s.2.2) else if tokS p == ")" then (s.1 - 1, s.2.1, s.2.2) else if tokS p == "." then (s.1, s.2.1, s.2.2 ++ [(("" : Str), 256 / 2 ^ s.1.toNat, p.1)])
  else if ((s.2.1 ++ ⟨(p.2.drop 1).toArray⟩ : Str).length : Int) == s.1 then (s.1, "", s.2.2 ++ [(s.2.1 ++ ⟨(p.2.drop 1).toArray⟩, 256 / 2 ^ s.1.toNat, p.1)]) else (s.1, s.2.1 ++ ⟨(p.2.drop 1).toArray⟩, s.2.2)
noncomputable def okLS (s : LS) : Prop := 0 ≤ s.1 ∧ s.1 ≤ 1000 ∧ s.2.1.length ≤ 1000 ∧ s.2.2.length ≤ 10000
theorem toks_len : ∀ {cs : List Nat} {i : Nat} {e : Bool} {p : Nat × List Nat}, p ∈ toks cs i e → 1 ≤ p.2.length ∧ p.2.length ≤ 2
  | [], _, _, _, h => by simp [toks] at h
  | c :: cs, i, true, p, h => by
    simp only [toks, List.mem_cons] at h
    rcases h with rfl | h
    · simp
    · exact toks_len h
  | c :: cs, i, false, p, h => by
    unfold toks at h
    split at h
    · exact toks_len h
    · rcases List.mem_cons.mp h with rfl | h
      · simp
      · exact toks_len h
theorem size_int {d : Int} (h0 : 0 ≤ d) : PV.int (Int.fdiv 256 (2 ^ d.toNat)) = .int ((256 / 2 ^ d.toNat : Nat) : Int) := by
  have : (2 : Int) ^ d.toNat = ((2 ^ d.toNat : Nat) : Int) := by rw [Int.natCast_pow]; rfl
  rw [this]; exact congrArg PV.int (fdivN (k := 256))
section
variable {n : Nat} {sc : Scope} {ρ : List (Nat × PV)}
theorem Ev.size {a b c : Expr} {p1 p2 : Pos} {d : Int} (ha : Ev n sc ρ a (.int 256)) (hb : Ev n sc ρ b (.int 2)) (hc : Ev n sc ρ c (.int d)) (h0 : 0 ≤ d) (h1 : d ≤ 1000) : Ev n sc ρ (.BinOp a .FloorDiv (.BinOp b .Pow c p1) p2) (.int ((256 / 2 ^ d.toNat : Nat) : Int)) := by
  have hp : (2 : Int) ^ d.toNat = ((2 ^ d.toNat : Nat) : Int) := by rw [Int.natCast_pow]; rfl
  refine (Ev.bin ha (Ev.bin hb hc (Bop.pow_int h0 (by omega) (by decide))) (Bop.fdiv_int ?_ ?_)).to (size_int h0)
  · rw [hp]; exact Int.natCast_ne_zero.mpr (Nat.ne_of_gt (Nat.pow_pos (by decide)))
  · rw [hp, Int.natAbs_natCast, Nat.log2_two_pow]; omega
end
theorem leaves_walk {n : Nat} {x : Str} (hw : whole x.cps.toList false = true) (hok : ∀ pre post, toks x.cps.toList 0 false = pre ++ post → okLS (pre.foldl leafStep (0, "", []))) :
    Fsp (n + 4) 24 [.str x] (.list (((toks x.cps.toList 0 false).foldl leafStep (0, "", [])).2.2.map leafV)) := by
  refine .one ky_memory (Xs.thw ky_leaves (Xs.asg ky_depth Ev.int (Xs.asg ky_word Ev.str ?_)))
  refine Xs.each (toks x.cps.toList 0 false) tokV (EvI.esc (Ev.nm ky_memory rfl) hw) (by omega) (fun s : LS => [(24, .str x), (26, .int s.1), (27, .str s.2.1)]) (fun s => some (25, s.2.2.map leafV)) leafStep (0, "", []) (by simp [drp]) rfl (fun pre p post hl => ?_)
    (Xs.freeze (Xs.ret (Ev.nm ky_leaves rfl)))
  have h1 := hok pre (p :: post) hl
  have hp := toks_len (p := p) (cs := x.cps.toList) (i := 0) (e := false) (by rw [hl]; simp)
  generalize pre.foldl leafStep (0, "", []) = s at h1 ⊢
  obtain ⟨d, wd, ls⟩ := s
  obtain ⟨h0, h2, h3, h4⟩ := h1
  dsimp only at h0 h2 h3 h4 ⊢
  refine ⟨_, Tg.v2 ky_place ky_unit, ?_⟩
  have hll : (ls.map leafV).length ≤ 100000 := by rw [List.length_map]; omega
  have hul : (tokS p).length = p.2.length := by simp [tokS, Str.length]
  cases hp1 : tokS p == "(" with
  | true =>
    have e : leafStep (d, wd, ls) p = (d + 1, wd, ls) := by unfold leafStep; rw [if_pos hp1]
    rw [e]
    exact Xs.if_next (b := true) ((EvT.cp (Ev.nm ky_unit rfl) Ev.str Cop.eq_str).to hp1) (Xs.asg ky_depth (Ev.bin (Ev.nm ky_depth rfl) Ev.int Bop.add_int) (Xs.done (ρ' := [(24, .str x), (26, .int (d + 1)), (27, .str wd)]) (by simp [drp]))) Xs.nil
  | false =>
    refine Xs.if_next (b := false) (ρ₁ := [(24, .str x), (26, .int (leafStep (d, wd, ls) p).1), (27, .str (leafStep (d, wd, ls) p).2.1)]) (ω₁ := some (25, (leafStep (d, wd, ls) p).2.2.map leafV)) ((EvT.cp (Ev.nm ky_unit rfl) Ev.str Cop.eq_str).to hp1) ?_ Xs.nil
    cases hp2 : tokS p == ")" with
    | true =>
      have e : leafStep (d, wd, ls) p = (d - 1, wd, ls) := by unfold leafStep; rw [if_neg (by rw [hp1]; decide), if_pos hp2]
      rw [e]
      exact Xs.if_next (b := true) ((EvT.cp (Ev.nm ky_unit rfl) Ev.str Cop.eq_str).to hp2) (Xs.asg ky_depth (Ev.bin (Ev.nm ky_depth rfl) Ev.int Bop.sub_int) (Xs.done (ρ' := [(24, .str x), (26, .int (d - 1)), (27, .str wd)]) (by simp [drp]))) Xs.nil
    | false =>
      refine Xs.if_next (b := false) (ρ₁ := [(24, .str x), (26, .int (leafStep (d, wd, ls) p).1), (27, .str (leafStep (d, wd, ls) p).2.1)]) (ω₁ := some (25, (leafStep (d, wd, ls) p).2.2.map leafV)) ((EvT.cp (Ev.nm ky_unit rfl) Ev.str Cop.eq_str).to hp2) ?_ Xs.nil
      cases hp3 : tokS p == "." with
      | true =>
        have e : leafStep (d, wd, ls) p = (d, wd, ls ++ [(("" : Str), 256 / 2 ^ d.toNat, p.1)]) := by unfold leafStep; rw [if_neg (by rw [hp1]; decide), if_neg (by rw [hp2]; decide), if_pos hp3]
        rw [e, List.map_append]
        exact Xs.if_next (b := true) ((EvT.cp (Ev.nm ky_unit rfl) Ev.str Cop.eq_str).to hp3) (Xs.app ky_leaves (Ev.tp (Evs.c Ev.str (Evs.c (Ev.size Ev.int Ev.int (Ev.nm ky_depth rfl) h0 h2) (Evs.c (Ev.nm ky_place rfl) Evs.nil)))) hll (Xs.done (by simp [drp]))) Xs.nil
      | false =>
        refine Xs.if_next (b := false) (ρ₁ := [(24, .str x), (26, .int (leafStep (d, wd, ls) p).1), (27, .str (leafStep (d, wd, ls) p).2.1)]) (ω₁ := some (25, (leafStep (d, wd, ls) p).2.2.map leafV)) ((EvT.cp (Ev.nm ky_unit rfl) Ev.str Cop.eq_str).to hp3) ?_ Xs.nil
        have hdl : Str.length (⟨(p.2.drop 1).toArray⟩ : Str) ≤ 2 := by simp [Str.length]; omega
        refine Xs.asg ky_word (u := .str (wd ++ ⟨(p.2.drop 1).toArray⟩)) ((Ev.bin (Ev.nm ky_word rfl) (Ev.slFrom (Ev.nm ky_unit rfl) Ev.int (Sop.str_from (by decide) (by rw [show (⟨p.2.toArray⟩ : Str).length = p.2.length from hul]; omega) (by rw [show (⟨p.2.toArray⟩ : Str).length = p.2.length from hul]; omega))) (Bop.add_str (by rw [sizeLine_eq]; simp [Str.length] at *; omega))).to (by rfl)) ?_
        have hwl : (wd ++ ⟨(p.2.drop 1).toArray⟩ : Str).length ≤ 1002 := by
          have : (wd ++ ⟨(p.2.drop 1).toArray⟩ : Str).length = wd.length + (⟨(p.2.drop 1).toArray⟩ : Str).length := by
            show (wd.cps ++ (p.2.drop 1).toArray).size = _
            rw [Array.size_append]; rfl
          omega
        generalize hwd : (wd ++ ⟨(p.2.drop 1).toArray⟩ : Str) = w' at hwl ⊢
        cases hlen : ((w'.length : Int) == d) with
        | true =>
          have e : leafStep (d, wd, ls) p = (d, ("" : Str), ls ++ [(w', 256 / 2 ^ d.toNat, p.1)]) := by
            unfold leafStep; rw [if_neg (by rw [hp1]; decide), if_neg (by rw [hp2]; decide), if_neg (by rw [hp3]; decide)]
            dsimp only
            rw [hwd, if_pos hlen]
          rw [e, List.map_append]
          exact Xs.if_next (b := true) ((EvT.cp (Ev.fb gfb_len (Bsp.len_str (by omega)) (Evs.c (Ev.nm ky_word rfl) Evs.nil)) (Ev.nm ky_depth rfl) Cop.eq_int).to hlen) (Xs.app ky_leaves (Ev.tp (Evs.c (Ev.nm ky_word rfl) (Evs.c (Ev.size Ev.int Ev.int (Ev.nm ky_depth rfl) h0 h2) (Evs.c (Ev.nm ky_place rfl) Evs.nil)))) hll
            (Xs.asg ky_word Ev.str (Xs.done (ρ' := [(24, .str x), (26, .int d), (27, .str "")]) (by simp [drp])))) Xs.nil
        | false =>
          have e : leafStep (d, wd, ls) p = (d, w', ls) := by
            unfold leafStep; rw [if_neg (by rw [hp1]; decide), if_neg (by rw [hp2]; decide), if_neg (by rw [hp3]; decide)]
            dsimp only
            rw [hwd, if_neg (by rw [hlen]; decide)]
          rw [e]
          exact Xs.if_next (b := false) ((EvT.cp (Ev.fb gfb_len (Bsp.len_str (by omega)) (Evs.c (Ev.nm ky_word rfl) Evs.nil)) (Ev.nm ky_depth rfl) Cop.eq_int).to hlen) (Xs.done (by simp [drp])) Xs.nil
end Mine
namespace Mine
section
variable {t : Bool} {n : Nat} {sc : Scope} {ρ ρ' : List (Nat × PV)} {ω : Option (Nat × List PV)} {out : Fl} {rest sts : List Stmt}
/-- no list is being filled before and after -/
theorem Xs.tt (h : Xs false n sc ρ none sts (.next ρ' none)) : Xs t n sc ρ none sts (.next ρ' none) := by
  intro w A env O D s₀ s hA he hG hS Q E q
  refine h w A env O D s₀ s hA he hG hS Q E fun s' D' _ S' => q s' D' (fun _ => ?_) S'
  have h1 := hS.fill
  have h2 := S'.fill
  cases D with
  | some d => exact h1.elim
  | none => cases D' with
    | none => rfl
    | some d => exact h2.elim
theorem Xs.unp2 {x y : Str} {p p' tp pos : Pos} {k : Nat} {e : Expr} {a b : PV} {i j : Nat} (hi : ky x = i) (hj : ky y = j) (h : Ev n sc ρ e (.tup [a, b])) (K : Xs t n sc ((j, b) :: drp j ((i, a) :: drp i ρ)) ω rest out)
    (hx : decide (i < 57) = true := by rfl) (hl : sc.names.lookup x = some .local := by decide +kernel) (hω : notF ω i = true := by rfl)
    (hy : decide (j < 57) = true := by rfl) (hl' : sc.names.lookup y = some .local := by decide +kernel) (hω' : notF ω j = true := by rfl)
    (hs : ∀ env : Env, swapsWithSole [.Tuple [.Name x p, .Name y p'] k tp] e pos.line env = pure false := by intro _; rfl) (hw : ∀ env : Env, swappedStores [.Tuple [.Name x p, .Name y p'] k tp] e env = pure none := by intro _; rfl) :
    Xs t n sc ρ ω (.Assign [.Tuple [.Name x p, .Name y p'] k tp] e pos :: rest) out := by
  intro w A env O D s₀ s hA he hG hS Q E q
  refine wpAny_execs_cons (wpAny_Assign_stores (h w A env _ s₀ s hA he (hS.gf hG) hS.loc _ _ fun v s₁ e₁ r₁ => ?_) (hs env) (hw env))
  show wpAny _ A (PySem.assign (.Tuple [.Name x p, .Name y p'] k tp) env v) _ E s₁
  exact Tg.v2 hi hj hx hl hω hy hl' hω' w A env O D s₀ s₁ v hA he (hS.step e₁) r₁ _ _ fun s₂ S₂ _ _ => K w A env O D s₀ s₂ hA he hG S₂ Q E q
end

/-! the law's turn, plain -/
noncomputable def leavesOf (m : Str) : List Leaf := ((toks m.cps.toList 0 false).foldl leafStep (0, "", [])).2.2
noncomputable def dotsOf (m : Str) : List Nat := ((leavesOf m).filter fun l => l.1 == ("" : Str)).map fun l => l.2.1 * 1000 + l.2.2
noncomputable def bitsOf (g : Nat) : List Nat := ((List.range 9).filter fun k => g / 2 ^ k % 2 == 1).map (2 ^ ·)
noncomputable def sizeOf' (w : Str) : Nat := 256 / 2 ^ w.length
noncomputable def escOf (w : Str) : Str := ⟨(w.cps.toList.flatMap fun c => [92, c]).toArray⟩
noncomputable def wrapT (fuel block z : Nat) (text : Str) : Str := match fuel with
  | 0 => text
  | f + 1 => if z < block then wrapT f (block / 2) z ("(" ++ text ++ ".)") else text
noncomputable def takeS (m : Str) (k : Nat) : Str := ⟨(m.cps.toList.take k).toArray⟩
noncomputable def dropS (m : Str) (k : Nat) : Str := ⟨(m.cps.toList.drop k).toArray⟩
noncomputable abbrev LawS := Str × List Cell × Nat
/-- the place of the first free block that is great enough -/
noncomputable def spotOf (m : Str) (z : Nat) : Nat := (dotsOf m).findIdx fun d => decide (z ≤ d / 1000)
noncomputable def lawTurn (s : LawS) (w : Str) : LawS :=
  let z := sizeOf' w
  let D := dotsOf s.1
  match D[spotOf s.1 z]? with
  | some d => (takeS s.1 (d % 1000) ++ wrapT 9 (d / 1000) z (escOf w) ++ dropS s.1 (d % 1000 + 1), firstFit s.2.1 w z, s.2.2 + z)
  | none => (s.1, firstFit s.2.1 w z, s.2.2)
/-- a text that the walk can read -/
structure Reads' (m : Str) : Prop where
  short : m.length ≤ 900
  whole : Mine.whole m.cps.toList false = true
  ok : ∀ pre post, toks m.cps.toList 0 false = pre ++ post → okLS (pre.foldl leafStep (0, "", []))
/-- what a turn leans on -/
structure OkTurn (s : LawS) (w : Str) : Prop where
  rd : Reads' s.1
  rd' : Reads' (lawTurn s w).1
  wl : 1 ≤ w.length ∧ w.length ≤ 8
  wok : PyData.strOk w = true
  asc : (dotsOf s.1).Pairwise (· < ·)
  small : ∀ d ∈ dotsOf s.1, d < 300000 ∧ d % 1000 < s.1.length
  few : (dotsOf s.1).length ≤ 9
  sizes : (dotsOf s.1).map (· / 1000) = bitsOf (256 - s.2.2)
  cut : ∀ i d, (dotsOf s.1)[i]? = some d → (d / 1000 < sizeOf' w ↔ i < spotOf s.1 (sizeOf' w))
  given : s.2.2 ≤ 256
  got : spotOf s.1 (sizeOf' w) < (dotsOf s.1).length ↔ s.2.2 + sizeOf' w ≤ 256
  full : dotsOf s.1 = [] ↔ s.2.2 = 256
  cells : s.2.1.length ≤ 1000 ∧ ∀ c ∈ s.2.1, c.2 ≤ 256
  fit : (leavesOf (lawTurn s w).1).map (fun l => (l.1, l.2.1)) = (lawTurn s w).2.1
  fok : PV.ok 9 (cellsV (lawTurn s w).2.1) = true
  blk : ∀ d ∈ dotsOf s.1, d / 1000 ≤ 256
noncomputable def lawFor : Expr × List Stmt := match (fB 26).drop 13 with
  | .For t _ b _ _ :: _ => (t, b)
  | _ => (default, [])
end Mine
namespace Mine
/-! laying in order -/
noncomputable def lay (acc : List Int) (d : Int) : List Int := acc.takeWhile (fun v => decide (v ≤ d)) ++ d :: acc.dropWhile (fun v => decide (v ≤ d))
theorem take_tw {p : Int → Bool} : ∀ {l : List Int}, l.take (l.takeWhile p).length = l.takeWhile p ∧ l.drop (l.takeWhile p).length = l.dropWhile p
  | [] => by simp
  | a :: l => by
    have ih := take_tw (p := p) (l := l)
    cases h : p a <;> simp [h, ih.1, ih.2]
theorem lay_cut {acc : List Int} {d : Int} (hs : acc.Pairwise (· ≤ ·)) : Cut (fun v => decide (v ≤ d)) acc (acc.takeWhile (fun v => decide (v ≤ d))).length := by
  induction acc with
  | nil => exact ⟨by simp, fun i v h => by simp at h⟩
  | cons a l ih =>
    obtain ⟨h1, h2⟩ := List.pairwise_cons.mp hs
    obtain ⟨ih1, ih2⟩ := ih h2
    by_cases ha : a ≤ d
    · rw [List.takeWhile_cons_of_pos (by simpa using ha)]
      refine ⟨by simpa using ih1, fun i v h => ?_⟩
      cases i with
      | zero => simp at h; subst h; simpa using ha
      | succ i => have := ih2 i v (by simpa using h); simpa using this
    · rw [List.takeWhile_cons_of_neg (by simpa using ha)]
      refine ⟨by simp, fun i v h => ?_⟩
      have hv : a ≤ v := by
        cases i with
        | zero => simp at h; subst h; exact Int.le_refl _
        | succ i => exact h1 v (List.mem_of_getElem? (by simpa using h))
      simp; omega
theorem lay_perm {acc : List Int} {d : Int} : (lay acc d).Perm (d :: acc) := by
  unfold lay
  refine List.perm_middle.trans (List.Perm.cons _ ?_)
  rw [List.takeWhile_append_dropWhile]
theorem lay_sorted {acc : List Int} {d : Int} (hs : acc.Pairwise (· ≤ ·)) : (lay acc d).Pairwise (· ≤ ·) := by
  induction acc with
  | nil => simp [lay]
  | cons a l ih =>
    obtain ⟨h1, h2⟩ := List.pairwise_cons.mp hs
    unfold lay at ih ⊢
    by_cases ha : a ≤ d
    · rw [List.takeWhile_cons_of_pos (by simpa using ha), List.dropWhile_cons_of_pos (by simpa using ha), List.cons_append]
      refine List.pairwise_cons.mpr ⟨fun b hb => ?_, ih h2⟩
      have := (lay_perm (acc := l) (d := d)).mem_iff (a := b)
      unfold lay at this
      rcases List.mem_cons.mp (this.mp hb) with rfl | hb
      · exact ha
      · exact h1 b hb
    · rw [List.takeWhile_cons_of_neg (by simpa using ha), List.dropWhile_cons_of_neg (by simpa using ha), List.nil_append]
      refine List.pairwise_cons.mpr ⟨fun b hb => ?_, hs⟩
      rcases List.mem_cons.mp hb with rfl | hb
      · omega
      · have := h1 b hb; omega
theorem lays_sorted : ∀ {l acc : List Int}, acc.Pairwise (· ≤ ·) → (l.foldl lay acc).Pairwise (· ≤ ·)
  | [], _, h => h
  | d :: l, acc, h => lays_sorted (l := l) (lay_sorted h)
theorem lays_perm : ∀ {l acc : List Int}, (l.foldl lay acc).Perm (l ++ acc)
  | [], acc => .refl _
  | d :: l, acc => (lays_perm (l := l)).trans ((List.Perm.append_left l lay_perm).trans List.perm_middle)
theorem lays_eq {D : List Int} {h : Nat} (hs : D.Pairwise (· < ·)) : (D.drop h ++ D.take h).foldl lay [] = D := by
  refine List.Perm.eq_of_pairwise (le := (· ≤ ·)) (fun a b _ _ h1 h2 => Int.le_antisymm h1 h2) (lays_sorted List.Pairwise.nil) (hs.imp fun h => Int.le_of_lt h) ?_
  refine lays_perm.trans ?_
  rw [List.append_nil]
  refine List.perm_append_comm.trans ?_
  rw [List.take_append_drop]
theorem intL_ok {l : List Int} : PV.ok 9 (intL l) = true := by
  unfold intL
  show PV.oks 8 (l.map .int) = true
  induction l with
  | nil => rfl
  | cons a l ih => simp [PV.oks, PV.ok, ih]
theorem intL_nil {l : List Int} : PyData.eqv (intL l).toP (PV.list []).toP = (l == []) := by
  cases l with
  | nil => simp [intL, PV.toP, PV.toPs, PyData.eqv, PyData.eqvAll]
  | cons a l => simp [intL, PV.toP, PV.toPs, PyData.eqv, PyData.eqvAll]
end Mine
namespace Mine
theorem str_ext {x y : Str} (h : x.cps.toList = y.cps.toList) : x = y := by
  cases x; cases y
  simp only [Str.mk.injEq]
  exact Array.ext' h
theorem str_app {x y : Str} : (x ++ y).cps.toList = x.cps.toList ++ y.cps.toList := by
  show (x.cps ++ y.cps).toList = _
  rw [Array.toList_append]
theorem str_len {x : Str} : x.length = x.cps.toList.length := by simp [Str.length]
theorem str_list {l : List Nat} : (⟨l.toArray⟩ : Str).cps.toList = l := by simp
theorem glue_fold {g : Array Nat} : ∀ {l : List Str} {a : Array Nat}, (l.foldl (fun acc p => acc ++ g ++ p.cps) a).toList = a.toList ++ l.flatMap (fun p => g.toList ++ p.cps.toList)
  | [], a => by simp
  | p :: l, a => by rw [List.foldl_cons, glue_fold (l := l), List.flatMap_cons]; simp
theorem join_list {sep y : Str} {ys : List Str} : (Txt.join sep (y :: ys)).cps.toList = y.cps.toList ++ ys.flatMap (fun p => sep.cps.toList ++ p.cps.toList) := by
  show (((y :: ys).drop 1).foldl (fun acc p => acc ++ sep.cps ++ p.cps) ((y :: ys).headD Str.empty).cps).toList = _
  rw [glue_fold]; rfl
theorem empty_list : ("" : Str).cps.toList = [] := by decide +kernel
theorem join_empty {ys : List Str} : (Txt.join "" ys).cps.toList = ys.flatMap (·.cps.toList) := by
  cases ys with
  | nil => decide +kernel
  | cons y ys => rw [join_list, empty_list]; simp
theorem esc_join {w : Str} : Txt.join "" (w.cps.toList.map fun c => ("\\" : Str) ++ ⟨#[c]⟩) = escOf w := by
  apply str_ext
  rw [join_empty, List.flatMap_map]
  have hb : ("\\" : Str).cps.toList = [92] := by decide +kernel
  unfold escOf
  simp only [str_app, hb]
  simp
theorem wrap_stop {f block z : Nat} {text : Str} (h : ¬ z < block) : wrapT f block z text = text := by
  cases f with
  | zero => rfl
  | succ f => unfold wrapT; rw [if_neg h]
theorem wrap_step {f block z : Nat} {text : Str} (h : z < block) : wrapT (f + 1) block z text = wrapT f (block / 2) z ("(" ++ text ++ ".)") := by
  conv => lhs; unfold wrapT
  rw [if_pos h]
end Mine
section
set_option maxRecDepth 4000
set_option maxHeartbeats 2000000
namespace Mine
theorem bits_len (g : Nat) : (bitsOf g).length ≤ 9 := by
  unfold bitsOf
  rw [List.length_map]
  exact Nat.le_trans (List.length_filter_le _ _) (by simp)
theorem pow_int {k : Nat} : PV.int ((2 : Int) ^ ((k : Int)).toNat) = .int ((2 ^ k : Nat) : Int) := by
  rw [Int.toNat_natCast, Int.natCast_pow]; rfl
theorem beq_one {x : Nat} : (((x : Nat) : Int) == 1) = (x == 1) := by
  rw [Bool.eq_iff_iff, beq_iff_eq, beq_iff_eq]; omega
noncomputable def natL (l : List Nat) : PV := .list (l.map fun d : Nat => PV.int (d : Int))
theorem natL_int {l : List Nat} : natL l = intL (l.map fun d : Nat => (d : Int)) := by unfold natL intL; rw [List.map_map]; rfl
noncomputable def lawR (s : LawS) : List (Nat × PV) := [(24, .str s.1), (30, cellsV s.2.1), (42, .int s.2.2)]
theorem strLen_int {w : Str} : ((w.length : Int)).toNat = w.length := Int.toNat_natCast _
theorem turn_walk {n : Nat} {s : LawS} {w : Str} {t : Bool} (h : OkTurn s w) : Xs t (n + 6) (fS 26) ((27, .str w) :: lawR s) none lawFor.2 (.next (lawR (lawTurn s w)) none) := by
  have hd24 := leaves_walk (n := n + 2) h.rd.whole h.rd.ok
  obtain ⟨m, cells, given⟩ := s
  have hfew := h.few
  have hsm := h.small
  dsimp only at hfew hsm hd24
  refine Xs.tt ?_
  -- size
  refine Xs.asg ky_size (u := .int (sizeOf' w)) ((Ev.size Ev.int Ev.int (Ev.fb gfb_len (Bsp.len_str (by have := h.wl.2; omega)) (Evs.c (Ev.nm ky_word rfl) Evs.nil)) (by omega) (by have := h.wl.2; omega)).to (by rw [strLen_int]; rfl)) ?_
  -- dots
  refine Xs.asc (ρc := []) (xs := (leavesOf m).map leafV) (ys := (dotsOf m).map fun d : Nat => PV.int (d : Int)) ky_dots (EvI.list (Ev.fn gf_f24 hd24 (Evs.c (Ev.nm ky_memory rfl) Evs.nil))) ?_ (by rw [List.length_map]; omega) (by omega) ?_
  · clear hd24 hfew hsm h
    unfold dotsOf
    generalize leavesOf m = ls
    induction ls with
    | nil => exact Comp.nil
    | cons l ls ih =>
      obtain ⟨o, wd, pl⟩ := l
      cases ho : o == ("" : Str) with
      | true =>
        have hf : ((o, wd, pl) :: ls).filter (fun l : Leaf => l.1 == ("" : Str)) = (o, wd, pl) :: ls.filter (fun l : Leaf => l.1 == ("" : Str)) := List.filter_cons_of_pos (p := fun l : Leaf => l.1 == ("" : Str)) ho
        rw [hf]
        refine Comp.take (TgL.v3 ky_owner ky_width ky_place) (fun p hp => (nomatch hp)) (fun c hc => ?_) ((Ev.bin (Ev.bin (Ev.nm ky_width rfl) Ev.int (Bop.mul_int (IntMulOk.of_right (by decide)))) (Ev.nm ky_place rfl) Bop.add_int).to (by congr 1)) ih
        rw [List.mem_singleton.mp hc]
        exact (EvT.cp (Ev.nm ky_owner rfl) Ev.str Cop.eq_str).to ho
      | false =>
        have hf : ((o, wd, pl) :: ls).filter (fun l : Leaf => l.1 == ("" : Str)) = ls.filter (fun l : Leaf => l.1 == ("" : Str)) := List.filter_cons_of_neg (p := fun l : Leaf => l.1 == ("" : Str)) (by dsimp only; rw [ho]; decide)
        rw [hf]
        exact Comp.skip (TgL.v3 ky_owner ky_width ky_place) (fun p hp => (nomatch hp)) rfl ((EvT.cp (Ev.nm ky_owner rfl) Ev.str Cop.eq_str).to ho) ih
  -- free
  obtain ⟨DI, hDI⟩ : ∃ DI : List Int, DI = (dotsOf m).map fun d : Nat => (d : Int) := ⟨_, rfl⟩
  have hDl : DI.length = (dotsOf m).length := by rw [hDI, List.length_map]
  have hasc : DI.Pairwise (· < ·) := by
    rw [hDI, List.pairwise_map]
    exact h.asc.imp fun h => by omega
  have eD : (PV.list ((dotsOf m).map fun d : Nat => PV.int (d : Int))) = intL DI := by rw [hDI]; exact natL_int
  refine Xs.thw ky_free ?_
  refine Xs.each (DI.drop (DI.length / 2) ++ DI.take (DI.length / 2)) PV.int ?_ (by omega) (fun _ => [(43, intL DI), (31, .int (sizeOf' w)), (27, .str w), (24, .str m), (30, cellsV cells), (42, .int given)]) (fun acc : List Int => some (44, acc.map .int)) lay [] (by rw [eD]; simp [drp, lawR]) rfl (fun pre d post hl => ?_) ?_
  · rw [List.map_append]
    have hh : ((DI.length : Nat) / 2 : Nat) ≤ DI.length := by omega
    have el : (DI.map PV.int).length = DI.length := List.length_map _
    refine EvI.list (Ev.bin ((Ev.slFrom (k := ((DI.length / 2 : Nat) : Int)) ((Ev.nm ky_dots rfl).to eD) (Ev.ndiv (m := 2) ((Ev.fb gfb_len (Bsp.len_list (xs := DI.map .int) (by rw [el]; omega)) (Evs.c ((Ev.nm ky_dots rfl).to eD) Evs.nil)).to (by rw [el])) Ev.int (by decide) (by decide)) (Sop.list_from (by omega) (by rw [el]; omega))).to (by rw [Int.toNat_natCast, List.map_drop]))
      ((Ev.slTo (k := ((DI.length / 2 : Nat) : Int)) ((Ev.nm ky_dots rfl).to eD) (Ev.ndiv (m := 2) ((Ev.fb gfb_len (Bsp.len_list (xs := DI.map .int) (by rw [el]; omega)) (Evs.c ((Ev.nm ky_dots rfl).to eD) Evs.nil)).to (by rw [el])) Ev.int (by decide) (by decide)) (Sop.list_to (by omega) (by rw [el]; omega))).to (by rw [Int.toNat_natCast, List.map_take])) (Bop.add_list (by simp only [List.length_map, List.length_drop, List.length_take]; omega)))
  · refine ⟨_, Tg.v ky_dot, ?_⟩
    have hs : (pre.foldl lay []).Pairwise (· ≤ ·) := lays_sorted List.Pairwise.nil
    have hpl : (pre.foldl lay []).length ≤ 100000 := by
      rw [lays_perm.length_eq, List.append_nil]
      have := congrArg List.length hl
      rw [List.length_append, List.length_append, List.length_drop, List.length_take] at this
      omega
    have hc := lay_cut (d := d) hs
    have hlay : lay (pre.foldl lay []) d = (pre.foldl lay []).take ((pre.foldl lay []).takeWhile (fun v => decide (v ≤ d))).length ++ d :: (pre.foldl lay []).drop ((pre.foldl lay []).takeWhile (fun v => decide (v ≤ d))).length := by
      rw [take_tw.1, take_tw.2]; rfl
    rw [hlay]
    exact Xs.insort (n := n + 4) hc hpl ky_free (Ev.nm ky_dot rfl) (Xs.done (by simp [drp]))
  rw [lays_eq hasc]
  refine Xs.freeze ?_
  -- sizes
  have hg := h.given
  dsimp only at hg
  have hDm : ∀ k : Nat, ∀ l : List Nat, Int.fdiv 1000 1000 = 1 := fun _ _ => rfl
  refine Xs.asc (ρc := []) (xs := DI.map .int) (ys := ((dotsOf m).map (· / 1000)).map fun d : Nat => PV.int (d : Int)) ky_sizes (EvI.list (Ev.nm ky_free rfl)) ?_ (by rw [List.length_map, List.length_map]; omega) (by omega) ?_
  · rw [hDI]
    generalize dotsOf m = ls
    induction ls with
    | nil => exact Comp.nil
    | cons d ls ih => exact Comp.take (TgL.v ky_dot) (fun p hp => (nomatch hp)) (fun c hc => (nomatch hc)) (Ev.ndiv (m := 1000) (Ev.nm ky_dot rfl) Ev.int (by decide) (by decide)) ih
  have hsz := h.sizes
  dsimp only at hsz
  have eS : PV.list (((dotsOf m).map (· / 1000)).map fun d : Nat => PV.int (d : Int)) = intL (((dotsOf m).map (· / 1000)).map fun d : Nat => (d : Int)) := natL_int
  rw [eS]
  -- the first test
  refine Xs.if_next (b := false) (EvT.or_cons (EvT.cp (Ev.nm ky_free rfl) (Ev.nm ky_dots rfl) (Cop.ne_same intL_ok)) (EvT.or_cons (EvT.cp (Ev.nm ky_sizes rfl) ?_ (Cop.ne_same intL_ok)) EvT.or_nil)) Xs.nil ?_
  · rw [hsz, ← natL_int]
    refine Ev.cmpr (ρc := [(42, .int given)]) (xs := (List.range 9).map fun k : Nat => PV.int (k : Int)) (EvI.rg Ev.int (by decide)) ?_ (by rw [List.length_map]; have := bits_len (256 - given); omega) (by omega) ?_
    · unfold bitsOf
      have hk : ∀ k ∈ List.range 9, k ≤ 8 := fun k hk => by have := List.mem_range.mp hk; omega
      generalize List.range 9 = ks at hk
      induction ks with
      | nil => exact Comp.nil
      | cons k ks ih =>
        have hk8 := hk k (.head _)
        have ih := ih fun k hk' => hk k (.tail _ hk')
        have hlog : (2 ^ k : Nat).log2 < 9000 := by rw [Nat.log2_two_pow]; omega
        have hne : (2 ^ k : Nat) ≠ 0 := Nat.ne_of_gt (Nat.pow_pos (by decide))
        have hP : ((((256 - given) / 2 ^ k % 2 : Nat) : Int) == 1) = ((256 - given) / 2 ^ k % 2 == 1) := beq_one
        cases hb : ((256 - given) / 2 ^ k % 2 == 1) with
        | true =>
          rw [List.filter_cons_of_pos (p := fun k => (256 - given) / 2 ^ k % 2 == 1) hb]
          refine Comp.take (TgL.v ky_k) (by simp [drp]) (fun c hc => ?_) ((Ev.bin Ev.int (Ev.nm ky_k rfl) (Bop.pow_int (by omega) (by omega) (by decide))).to pow_int) ih
          rw [List.mem_singleton.mp hc]
          exact (EvT.cp (Ev.nmod (m := 2) (Ev.ndiv (m := 2 ^ k) ((Ev.bin Ev.int (Ev.nm ky_given rfl) Bop.sub_int).to (y := .int ((256 - given : Nat) : Int)) (by congr 1; omega)) ((Ev.bin Ev.int (Ev.nm ky_k rfl) (Bop.pow_int (by omega) (by omega) (by decide))).to pow_int) hne hlog) Ev.int (by decide)) Ev.int Cop.eq_int).to (by rw [hP, hb])
        | false =>
          rw [List.filter_cons_of_neg (p := fun k => (256 - given) / 2 ^ k % 2 == 1) (by rw [hb]; decide)]
          exact Comp.skip (TgL.v ky_k) (by simp [drp]) rfl ((EvT.cp (Ev.nmod (m := 2) (Ev.ndiv (m := 2 ^ k) ((Ev.bin Ev.int (Ev.nm ky_given rfl) Bop.sub_int).to (y := .int ((256 - given : Nat) : Int)) (by congr 1; omega)) ((Ev.bin Ev.int (Ev.nm ky_k rfl) (Bop.pow_int (by omega) (by omega) (by decide))).to pow_int) hne hlog) Ev.int (by decide)) Ev.int Cop.eq_int).to (by rw [hP, hb])) ih
    · exact .inr ⟨"given", .int given, by rw [ky_given], by rw [ky_given]; rfl, by rw [ky_given]; decide, by decide +kernel, by decide +kernel, by decide +kernel, by decide +kernel⟩
  -- at
  have hz1 : 1 ≤ sizeOf' w := by
    unfold sizeOf'
    have : 2 ^ w.length ≤ 2 ^ 8 := Nat.pow_le_pow_right (by decide) h.wl.2
    exact (Nat.le_div_iff_mul_le (Nat.pow_pos (by decide))).mpr (by omega)
  have hz2 : sizeOf' w ≤ 256 := Nat.div_le_self _ _
  obtain ⟨r, hr⟩ : ∃ r, r = spotOf m (sizeOf' w) := ⟨_, rfl⟩
  have hrl : r ≤ (dotsOf m).length := by rw [hr]; exact List.findIdx_le_length
  have hcut : Cut (fun v => decide (v < (sizeOf' w : Int))) (((dotsOf m).map (· / 1000)).map fun d : Nat => (d : Int)) r := by
    refine ⟨by rw [List.length_map, List.length_map]; exact hrl, fun i v hv => ?_⟩
    rw [List.getElem?_map, Option.map_eq_some_iff] at hv
    obtain ⟨b, hb, rfl⟩ := hv
    rw [List.getElem?_map, Option.map_eq_some_iff] at hb
    obtain ⟨d, hd, rfl⟩ := hb
    have := h.cut i d hd
    dsimp only at this
    rw [← hr] at this
    simp only [decide_eq_true_eq]
    omega
  refine Xs.asg ky_at (Ev.fd gf_f3 (bisect_left_walk (n := n + 5) hcut (by rw [List.length_map, List.length_map]; omega)) (Evs.c (Ev.nm ky_sizes rfl) (Evs.c (Ev.nm ky_size rfl) Evs.nil))) ?_
  have hgot := h.got
  have hfull := h.full
  dsimp only at hgot hfull
  rw [← hr] at hgot
  have hlen : (DI.map PV.int).length = DI.length := List.length_map _
  -- the second test
  refine Xs.if_next (b := false) (EvT.or_cons ((EvT.cp (Ev.fn gf_f18 (isterm_walk (n := n + 5)) (Evs.c (Ev.bin (Ev.bin (Ev.nm ky_given rfl) (Ev.nm ky_size rfl) Bop.add_int) Ev.int Bop.sub_int) Evs.nil)) (Ev.cp (Ev.nm ky_at rfl) (Ev.fb gfb_len (Bsp.len_list (xs := DI.map .int) (by rw [hlen]; omega)) (Evs.c (Ev.nm ky_free rfl) Evs.nil)) Cop.lt_int) Cop.isnot_bool).to ?_)
    (EvT.or_cons ((EvT.cp (Ev.fn gf_f19 (isnonterm_walk (n := n + 5)) (Evs.c (Ev.bin (Ev.bin (Ev.nm ky_given rfl) (Ev.nm ky_size rfl) Bop.add_int) Ev.int Bop.sub_int) Evs.nil)) (Ev.cp (Ev.nm ky_at rfl) (Ev.fb gfb_len (Bsp.len_list (xs := DI.map .int) (by rw [hlen]; omega)) (Evs.c (Ev.nm ky_free rfl) Evs.nil)) Cop.eq_int) Cop.isnot_bool).to ?_) EvT.or_nil)) Xs.nil ?_
  · rw [hlen, hDl, bne_eq_false_iff_eq, Bool.eq_iff_iff, decide_eq_true_iff, decide_eq_true_iff]; omega
  · rw [hlen, hDl, bne_eq_false_iff_eq, Bool.eq_iff_iff, decide_eq_true_iff, beq_iff_eq]; omega
  have hDn : (DI == []) = decide (given = 256) := by
    rw [Bool.eq_iff_iff, beq_iff_eq, decide_eq_true_iff, ← hfull, hDI, List.map_eq_nil_iff]
  have heq : PyData.eqv (intL DI).toP (PV.list []).toP = decide (given = 256) := by rw [intL_nil, hDn]
  -- the third test
  refine Xs.if_next (b := false) (EvT.or_cons ((EvT.cp (Ev.fn gf_f20 (iseof_walk (n := n + 5)) (Evs.c (Ev.bin Ev.int (Ev.nm ky_given rfl) Bop.sub_int) Evs.nil)) (Ev.cp (Ev.nm ky_free rfl) (Ev.ls Evs.nil) (Cop.eq_data intL_ok (by rfl) heq)) Cop.isnot_bool).to ?_)
    (EvT.or_cons ((EvT.cp (Ev.fn gf_f19 (isnonterm_walk (n := n + 5)) (Evs.c (Ev.nm ky_given rfl) Evs.nil)) (Ev.cp (Ev.nm ky_free rfl) (Ev.ls Evs.nil) (Cop.eq_data intL_ok (by rfl) heq)) Cop.isnot_bool).to ?_)
      (EvT.or_cons ((EvT.cp (Ev.fn gf_f18 (isterm_walk (n := n + 5)) (Evs.c (Ev.nm ky_given rfl) Evs.nil)) (Ev.cp (Ev.nm ky_free rfl) (Ev.ls Evs.nil) (Cop.ne_data intL_ok (by rfl) (by rw [heq]))) Cop.isnot_bool).to ?_) EvT.or_nil))) Xs.nil ?_
  · rw [bne_eq_false_iff_eq, Bool.eq_iff_iff, decide_eq_true_iff, beq_iff_eq]; omega
  · rw [bne_eq_false_iff_eq, Bool.eq_iff_iff, decide_eq_true_iff, decide_eq_true_iff]; omega
  · rw [bne_eq_false_iff_eq, Bool.eq_iff_iff, decide_eq_true_iff, Bool.not_eq_true', decide_eq_false_iff_not]; omega
  -- the split
  have hrd := h.rd
  have hrd' := h.rd'
  have hcl := h.cells
  dsimp only at hrd hcl
  have hmem : (lawTurn (m, cells, given) w).2.1 = firstFit cells w (sizeOf' w) := by
    unfold lawTurn; dsimp only; split <;> rfl
  obtain ⟨m', hm'⟩ : ∃ m', m' = (lawTurn (m, cells, given) w).1 := ⟨_, rfl⟩
  obtain ⟨g', hg'⟩ : ∃ g', g' = (lawTurn (m, cells, given) w).2.2 := ⟨_, rfl⟩
  have hR : lawR (lawTurn (m, cells, given) w) = [(24, .str m'), (30, cellsV (firstFit cells w (sizeOf' w))), (42, .int g')] := by
    unfold lawR; rw [hmem, ← hm', ← hg']
  rw [hR]
  refine Xs.if_next (b := decide (r < DI.length)) (ρ₁ := [(24, .str m'), (27, .str w), (31, .int (sizeOf' w)), (30, cellsV cells), (42, .int g')]) (ω₁ := none) ((EvT.cp (Ev.nm ky_at rfl) (Ev.fb gfb_len (Bsp.len_list (xs := DI.map .int) (by rw [hlen]; omega)) (Evs.c (Ev.nm ky_free rfl) Evs.nil)) Cop.lt_int).to (by rw [hlen]; congr 1; simp)) ?_ ?_
  · cases hb : decide (r < DI.length) with
    | false =>
      have hno : ¬ r < (dotsOf m).length := by rw [← hDl]; simpa using hb
      have hnone : (dotsOf m)[spotOf m (sizeOf' w)]? = none := by rw [← hr]; exact List.getElem?_eq_none (by omega)
      have e1 : m' = m := by rw [hm']; unfold lawTurn; dsimp only; rw [hnone]
      have e2 : g' = given := by rw [hg']; unfold lawTurn; dsimp only; rw [hnone]
      rw [e1, e2]
      exact Xs.done (by simp [drp, lawR])
    | true =>
      have hyes : r < (dotsOf m).length := by rw [← hDl]; simpa using hb
      obtain ⟨d, hd⟩ : ∃ d, (dotsOf m)[r]? = some d := ⟨_, List.getElem?_eq_getElem hyes⟩
      have hdm := List.mem_of_getElem? hd
      have hdsm := hsm d hdm
      have hblk := h.blk d hdm
      have e1 : m' = takeS m (d % 1000) ++ wrapT 9 (d / 1000) (sizeOf' w) (escOf w) ++ dropS m (d % 1000 + 1) := by rw [hm']; unfold lawTurn; dsimp only; rw [← hr, hd]
      have e2 : g' = given + sizeOf' w := by rw [hg']; unfold lawTurn; dsimp only; rw [← hr, hd]
      have hDd : (DI.map PV.int)[((r : Int)).toNat]? = some (.int (d : Int)) := by
        rw [Int.toNat_natCast, hDI, List.map_map, List.getElem?_map, hd]; rfl
      have hwl := h.wl
      refine Xs.unp2 ky_block ky_spot (a := .int ((d / 1000 : Nat) : Int)) (b := .int ((d % 1000 : Nat) : Int)) ((Ev.fb gfb_divmod (Bsp.divmod (by decide) (by decide)) (Evs.c (Ev.sb (Ev.nm ky_free rfl) (Ev.nm ky_at rfl) (Gop.list (by omega) (by omega) hDd)) (Evs.c Ev.int Evs.nil))).to (by rw [show ((1000 : Int)) = ((1000 : Nat) : Int) from rfl, fdivN, fmodN])) ?_
      have hel : (escOf w).length = 2 * w.length := by
        rw [str_len, str_len]; unfold escOf; rw [str_list]
        generalize w.cps.toList = l
        induction l with
        | nil => rfl
        | cons c l ih => rw [List.flatMap_cons, List.length_append, ih]; simp; omega
      have hsum : ((w.cps.toList.map fun c => ("\\" : Str) ++ ⟨#[c]⟩).map (·.length)).sum + (w.cps.toList.map fun c => ("\\" : Str) ++ ⟨#[c]⟩).length * ("" : Str).length ≤ 1000000 := by
        have e0 : ("" : Str).length = 0 := by decide +kernel
        rw [e0, Nat.mul_zero, Nat.add_zero, List.map_map]
        have : ∀ l : List Nat, (l.map ((·.length) ∘ fun c => ("\\" : Str) ++ ⟨#[c]⟩)).sum = 2 * l.length := by
          intro l
          induction l with
          | nil => rfl
          | cons c l ih =>
            rw [List.map_cons, List.sum_cons, ih]
            have : (("\\" : Str) ++ ⟨#[c]⟩ : Str).length = 2 := by rw [str_len, str_app, show ("\\" : Str).cps.toList = [92] from by decide +kernel]; rfl
            simp only [Function.comp, this, List.length_cons]; omega
        rw [this, ← str_len]; omega
      refine Xs.asg ky_text (u := .str (escOf w)) (Ev.to (x := .str (Txt.join "" (w.cps.toList.map fun c => ("\\" : Str) ++ ⟨#[c]⟩))) (@Ev.meth _ _ _ _ _ _ _ _ _ _ [.list (strsOf (w.cps.toList.map fun c => ("\\" : Str) ++ ⟨#[c]⟩))] _ _ Ev.str ?_ (by intro _; rfl) (by intro _; rfl) rfl F.slot_str_join F.type_str_join (by intro _; rfl) (by intro _; rfl) (Bsp.join hsum)) (by rw [esc_join])) ?_
      · refine Evs.c (Ev.cmpr (ρc := []) (xs := signsOf w) (EvI.str (Ev.nm ky_word rfl)) ?_ (by unfold strsOf; rw [List.length_map, List.length_map, ← str_len]; omega) (by omega)) Evs.nil
        unfold signsOf strsOf
        generalize w.cps.toList = l
        induction l with
        | nil => exact Comp.nil
        | cons c l ih => exact Comp.take (TgL.v ky_letter) (fun p hp => (nomatch hp)) (fun c hc => (nomatch hc)) (Ev.bin Ev.str (Ev.nm ky_letter rfl) (Bop.add_str (by rw [sizeLine_eq, show Str.length (⟨#[c]⟩ : Str) = 1 from rfl, show Str.length ("\\" : Str) = 1 from by decide +kernel]; omega))) ih
      -- the split of the block
      refine Xs.loop (σ := Nat × Nat × Str) (fun q => [(49, .int ((d % 1000 : Nat) : Int)), (48, .int (q.2.1 : Int)), (50, .str q.2.2), (24, .str m), (27, .str w), (31, .int (sizeOf' w)), (30, cellsV cells), (42, .int given)]) (fun _ => none)
        (fun q => wrapT q.1 q.2.1 (sizeOf' w) q.2.2 = wrapT 9 (d / 1000) (sizeOf' w) (escOf w) ∧ q.2.1 < 2 ^ q.1 ∧ q.1 ≤ 9 ∧ q.2.2.length ≤ 16 + 3 * (9 - q.1)) (fun q => decide (sizeOf' w < q.2.1)) (fun q => (q.1 - 1, q.2.1 / 2, "(" ++ q.2.2 ++ ".)")) (fun q => q.1) (9, d / 1000, escOf w)
        (by simp [drp, lawR]) rfl ⟨rfl, by show d / 1000 < 2 ^ 9; omega, Nat.le_refl _, by show (escOf w).length ≤ 16 + 3 * 0; omega⟩ ?_ ?_ ?_ ?_
      · rintro ⟨f, bl, tx⟩ _
        exact (EvT.cp (Ev.nm ky_block rfl) (Ev.nm ky_size rfl) Cop.gt_int).to (by simp)
      · rintro ⟨f, bl, tx⟩ ⟨q1, q2, q3, q4⟩ hc
        have hc2 : sizeOf' w < bl := by simpa using hc
        dsimp only at *
        have hf : 0 < f := by
          rcases Nat.eq_zero_or_pos f with rfl | hf
          · rw [Nat.pow_zero] at q2; omega
          · exact hf
        obtain ⟨f, rfl⟩ : ∃ f', f = f' + 1 := ⟨f - 1, by omega⟩
        have hl2 : ("(" ++ tx ++ ".)" : Str).length = tx.length + 3 := by
          rw [str_len, str_app, str_app, List.length_append, List.length_append, ← str_len (x := tx), show ("(" : Str).cps.toList.length = 1 from by decide +kernel, show (".)" : Str).cps.toList.length = 2 from by decide +kernel]; omega
        refine ⟨⟨?_, ?_, by simp; omega, ?_⟩, by omega⟩
        · rw [← q1, wrap_step hc2]; rfl
        · have : 2 ^ (f + 1) = 2 * 2 ^ f := by rw [Nat.pow_succ]; omega
          show bl / 2 < 2 ^ f
          omega
        · show ("(" ++ tx ++ ".)" : Str).length ≤ 16 + 3 * (9 - f)
          omega
      · rintro ⟨f, bl, tx⟩ ⟨q1, q2, q3, q4⟩ hc
        dsimp only at q4 ⊢
        have hlp : ("(" : Str).length = 1 := by decide +kernel
        have hld : (".)" : Str).length = 2 := by decide +kernel
        have hl1 : ("(" ++ tx : Str).length = tx.length + 1 := by
          rw [str_len, str_app, List.length_append, ← str_len (x := tx), show ("(" : Str).cps.toList.length = 1 from by decide +kernel]; omega
        refine Xs.asg ky_text (Ev.bin (Ev.bin Ev.str (Ev.nm ky_text rfl) (Bop.add_str (by rw [sizeLine_eq, hlp]; omega))) Ev.str (Bop.add_str (by rw [sizeLine_eq, hld, hl1]; omega))) ?_
        exact Xs.asg ky_block (Ev.ndiv (m := 2) (Ev.nm ky_block rfl) Ev.int (by decide) (by decide)) (Xs.done (by simp [drp]))
      · rintro ⟨f, bl, tx⟩ ⟨q1, q2, q3, q4⟩ hc
        have hc2 : ¬ sizeOf' w < bl := by simpa using hc
        dsimp only at q1 q4 ⊢
        rw [wrap_stop hc2] at q1
        have hml : m.length ≤ 900 := hrd.short
        have hA : (takeS m (d % 1000)).length ≤ 900 := by
          rw [str_len]; unfold takeS; rw [str_list, List.length_take, ← str_len]; omega
        have hB : (dropS m (d % 1000 + 1)).length ≤ 900 := by
          rw [str_len]; unfold dropS; rw [str_list, List.length_drop, ← str_len]; omega
        have hAt : (takeS m (d % 1000) ++ tx : Str).length ≤ 1000 := by
          rw [str_len, str_app, List.length_append, ← str_len, ← str_len]; omega
        refine Xs.asg ky_memory (u := .str m') ((Ev.bin (Ev.bin (Ev.to (y := .str (takeS m (d % 1000))) (Ev.slTo (k := ((d % 1000 : Nat) : Int)) (Ev.nm ky_memory rfl) (Ev.nm ky_spot rfl) (Sop.str_to (by omega) (by omega) (by omega))) (by rw [Int.toNat_natCast]; rfl)) (Ev.nm ky_text rfl) (Bop.add_str (by rw [sizeLine_eq]; omega)))
          (Ev.to (y := .str (dropS m (d % 1000 + 1))) (Ev.slFrom (k := ((d % 1000 : Nat) : Int) + 1) (Ev.nm ky_memory rfl) (Ev.bin (Ev.nm ky_spot rfl) Ev.int Bop.add_int) (Sop.str_from (by omega) (by omega) (by omega))) (by rw [show (((d % 1000 : Nat) : Int) + 1).toNat = d % 1000 + 1 from by omega]; rfl)) (Bop.add_str (by rw [sizeLine_eq]; omega))).to (by rw [e1, ← q1])) ?_
        refine Xs.cel ky_given (u := .int (g' : Int)) ((Ev.bin (Ev.nm ky_given rfl) (Ev.nm ky_size rfl) Bop.add_int).to (by rw [e2]; congr 1)) (Xs.done (by simp [drp]))
  -- the row and the last test
  refine Xs.asg ky_cells (Ev.fn gf_f25 (first_fit_walk (n := n + 2) hcl.1 hz1 hcl.2 hz2) (Evs.c (Ev.nm ky_cells rfl) (Evs.c (Ev.nm ky_word rfl) (Evs.c (Ev.nm ky_size rfl) Evs.nil)))) ?_
  rw [← hm'] at hrd'
  have hfit := h.fit
  rw [hmem, ← hm'] at hfit
  have hfok := h.fok
  rw [hmem] at hfok
  have hll : (leavesOf m').length ≤ 10000 := by
    have := hrd'.ok _ [] (List.append_nil _).symm
    exact this.2.2.2
  refine Xs.if_next (b := false) (ρ₁ := [(24, .str m'), (30, cellsV (firstFit cells w (sizeOf' w))), (42, .int g')]) (ω₁ := none) (EvT.cp (Ev.cmpr (ρc := []) (xs := (leavesOf m').map leafV) (ys := (firstFit cells w (sizeOf' w)).map cellV) (EvI.list (Ev.fn gf_f24 (leaves_walk (n := n + 2) hrd'.whole hrd'.ok) (Evs.c (Ev.nm ky_memory rfl) Evs.nil))) ?_ ?_ (by omega)) (Ev.nm ky_cells rfl) (Cop.ne_same hfok)) (Xs.done (by simp [drp])) Xs.nil
  · rw [← hfit]
    generalize leavesOf m' = ls
    induction ls with
    | nil => exact Comp.nil
    | cons l ls ih =>
      obtain ⟨o, wd, pl⟩ := l
      exact Comp.take (TgL.v3 ky_owner ky_width ky_place) (fun p hp => (nomatch hp)) (fun c hc => (nomatch hc)) (Ev.tp (Evs.c (Ev.nm ky_owner rfl) (Evs.c (Ev.nm ky_width rfl) Evs.nil))) ih
  · rw [List.length_map, ← hfit, List.length_map]; omega
end Mine
end
section
set_option maxRecDepth 4000
set_option maxHeartbeats 2000000
namespace Mine
/-- the numbers that the law takes -/
noncomputable def numsOf' (xs : List Int) : List Nat := (xs.take 5).map (fun x => (x % 1000000).toNat) ++ [1, 18, 24, 39, 14].drop (xs.take 5).length
noncomputable def lawInit : LawS := (".", [("", 256)], 0)
structure LawOk (ws : List Str) : Prop where
  turns : ∀ pre w post, ws = pre ++ w :: post → OkTurn (pre.foldl lawTurn lawInit) w
  quote : (Builtin.Str.occurrences (ws.foldl lawTurn lawInit).1 "\"" 0 (ws.foldl lawTurn lawInit).1.length 1).isEmpty = true
  whole : Mine.whole (ws.foldl lawTurn lawInit).1.cps.toList false = true
  never : ∀ pre post, toks (ws.foldl lawTurn lawInit).1.cps.toList 0 false = pre ++ post → 0 ≤ pre.foldl parStep 0
  level : (toks (ws.foldl lawTurn lawInit).1.cps.toList 0 false).foldl parStep 0 = 0
theorem emod_int {x : Int} : PV.int (Int.fmod x 1000000) = .int (((x % 1000000).toNat : Nat) : Int) := by
  congr 1
  rw [Int.fmod_eq_emod_of_nonneg _ (by decide)]
  have := Int.emod_nonneg x (b := 1000000) (by decide)
  omega
theorem lower_great : ∀ j, j < 26 → Txt.lower ⟨#[65 + j]⟩ = (⟨#[97 + j]⟩ : Str) ∧ ((65 + j : Nat) : Int) ∈ greatCodes := by
  have : ∀ j ∈ List.range 26, Txt.lower ⟨#[65 + j]⟩ = (⟨#[97 + j]⟩ : Str) ∧ ((65 + j : Nat) : Int) ∈ greatCodes := by decide +kernel
  exact fun j h => this j (List.mem_range.mpr h)
theorem item_seen {n L k : Nat} (h1 : 1 ≤ L) (h2 : L ≤ 3) : Fsp (n + 1) 14 [.str ⟨#[(item L k).1]⟩] (.str (item L k).2) ∧ Fsp (n + 1) 12 [.str ⟨#[(item L k).1]⟩] (.bool false) := by
  have h4 : k % 4 < 4 := Nat.mod_lt _ (by decide)
  match L, h1, h2 with
  | 1, _, _ =>
    obtain ⟨e1, e2⟩ := lower_great (k % 26) (Nat.mod_lt _ (by decide))
    have := mapb3_great (n := n) e2
    rw [e1] at this
    exact ⟨this, inb1_walk (.inr ⟨rfl, List.mem_append_left _ e2⟩)⟩
  | 2, _, _ =>
    show Fsp (n + 1) 14 [.str ⟨#[[223, 64256, 8360, 8470].getD (k % 4) 0]⟩] (.str (["ss", "ff", "rs", "no"].getD (k % 4) "")) ∧ Fsp (n + 1) 12 [.str ⟨#[[223, 64256, 8360, 8470].getD (k % 4) 0]⟩] (.bool false)
    revert h4; generalize k % 4 = j; revert j
    refine lt4 ?_ ?_ ?_ ?_ <;> exact ⟨mapb3_odd (by decide +kernel), inb1_walk (.inr ⟨rfl, by decide +kernel⟩)⟩
  | 3, _, _ =>
    show Fsp (n + 1) 14 [.str ⟨#[[64259, 64260, 8481, 13227].getD (k % 4) 0]⟩] (.str (["ffi", "ffl", "tel", "mpa"].getD (k % 4) "")) ∧ Fsp (n + 1) 12 [.str ⟨#[[64259, 64260, 8481, 13227].getD (k % 4) 0]⟩] (.bool false)
    revert h4; generalize k % 4 = j; revert j
    refine lt4 ?_ ?_ ?_ ?_ <;> exact ⟨mapb3_odd (by decide +kernel), inb1_walk (.inr ⟨rfl, by decide +kernel⟩)⟩
theorem item_unseen {n k : Nat} : Fsp (n + 1) 12 [.str ⟨#[(item 0 k).1]⟩] (.bool true) := by
  obtain ⟨c, h1, h2, h3⟩ := unseen_at (k % 27) (Nat.mod_lt _ (by decide))
  have e : (item 0 k).1 = c := h2
  rw [e]
  refine inb1_walk (.inl ⟨rfl, ?_⟩)
  have : ∀ c ∈ unseenNats, ((c : Nat) : Int) ∈ unseenCodes := by decide +kernel
  exact this c (List.mem_of_getElem? h1)
theorem law_xs {n : Nat} {xs : List Int} {v0 v1 v2 v3 v4 : Nat} (hv : numsOf' xs = [v0, v1, v2, v3, v4]) (hok : LawOk ([v0, v1, v2, v3, v4].map wordMeant)) (hx : xs.length ≤ 1000)
    (hs1 : Txt.splitMax (Txt.join "'" ([v0, v1, v2, v3, v4].map wordRaw)) "'" 2 = [wordRaw v0, wordRaw v1, Txt.join "'" ([v2, v3, v4].map wordRaw)]) (hs2 : Txt.splitMax (Txt.join "'" ([v2, v3, v4].map wordRaw)) "'" 2 = [wordRaw v2, wordRaw v3, wordRaw v4])
    (hs3 : (Txt.splitMax (wordRaw v4) "'" 2).length ≤ 2) (hl1 : (Txt.join "'" ([v0, v1, v2, v3, v4].map wordRaw)).length ≤ 1000) (hl2 : (Txt.join "'" ([v2, v3, v4].map wordRaw)).length ≤ 1000) (hro : ∀ v, PyData.strOk (wordRaw v) = true) (hmo : ∀ v, PyData.strOk (wordMeant v) = true) : Xs false (n + 6) (fS 26) [(35, .list (xs.map .int))] none (fB 26) (.ret (.bool true)) := by
  have h5 : ((xs.map PV.int).take 5).length ≤ 5 := by rw [List.length_take]; omega
  refine Xs.asc (ρc := []) (xs := (xs.take 5).map .int) (ys := ((xs.take 5).map fun x => (x % 1000000).toNat).map fun v : Nat => PV.int (v : Int)) ky_numbers (EvI.list ((Ev.slTo (k := 5) (Ev.nm ky_script rfl) Ev.int (Sop.list_to (by decide) (by rw [List.length_map]; omega))).to (by rw [List.map_take]; rfl))) ?_ (by simp only [List.length_map, List.length_take]; omega) (by omega) ?_
  · generalize xs.take 5 = l
    induction l with
    | nil => exact Comp.nil
    | cons x l ih => exact Comp.take (TgL.v ky_x) (fun p hp => (nomatch hp)) (fun c hc => (nomatch hc)) ((Ev.bin (Ev.nm ky_x rfl) Ev.int (Bop.mod_int (by decide))).to emod_int) ih
  have hl5 : (xs.take 5).length ≤ 5 := by rw [List.length_take]; omega
  have el : (((xs.take 5).map fun x => (x % 1000000).toNat).map fun v : Nat => PV.int (v : Int)).length = (xs.take 5).length := by rw [List.length_map, List.length_map]
  refine @Xs.asg _ _ _ _ _ _ _ _ _ _ _ (natL [v0, v1, v2, v3, v4]) _ ky_numbers ?_ ?_ rfl (by decide +kernel) rfl (fun _ => rfl)
  · refine Ev.to (x := .list ((((xs.take 5).map fun x => (x % 1000000).toNat).map fun v : Nat => PV.int (v : Int)) ++ ([1, 18, 24, 39, 14].map fun v : Nat => PV.int (v : Int)).drop (((xs.take 5).length : Int)).toNat)) ?_ ?_
    · refine @Ev.bin _ _ _ _ _ _ _ _ _ _ (Ev.nm ky_numbers rfl) (@Ev.slFrom _ _ _ _ _ _ _ (.list ([1, 18, 24, 39, 14].map fun v : Nat => PV.int (v : Int))) _ ((xs.take 5).length : Int) (@Ev.ls _ _ _ _ _ _ (@Evs.c _ _ _ _ _ _ _ Ev.int (@Evs.c _ _ _ _ _ _ _ Ev.int (@Evs.c _ _ _ _ _ _ _ Ev.int (@Evs.c _ _ _ _ _ _ _ Ev.int (@Evs.c _ _ _ _ _ _ _ Ev.int Evs.nil (fun _ => rfl)) (fun _ => rfl)) (fun _ => rfl)) (fun _ => rfl)) (fun _ => rfl)) rfl) ((Ev.fb gfb_len (Bsp.len_list (by rw [el]; omega)) (Evs.c (Ev.nm ky_numbers rfl) Evs.nil)).to (by rw [el])) (Sop.list_from (by omega) (by decide))) (Bop.add_list (by rw [el, List.length_drop, List.length_map]; simp; omega))
    · rw [Int.toNat_natCast, ← List.map_drop, ← List.map_append]
      unfold numsOf' at hv
      rw [hv]; rfl
  -- pairs
  refine Xs.asc (ρc := []) (xs := [v0, v1, v2, v3, v4].map fun v : Nat => PV.int (v : Int)) (ys := [v0, v1, v2, v3, v4].map wordV) ky_pairs (EvI.list (Ev.nm ky_numbers rfl)) ?_ (by simp) (by omega) ?_
  · generalize [v0, v1, v2, v3, v4] = l
    induction l with
    | nil => exact Comp.nil
    | cons v l ih => exact Comp.take (TgL.v ky_v) (fun p hp => (nomatch hp)) (fun c hc => (nomatch hc)) (Ev.fn gf_f23 (word_walk (n := n + 4)) (Evs.c (Ev.nm ky_v rfl) Evs.nil)) ih
  -- left
  refine @Xs.asg _ _ _ _ _ _ _ _ _ _ _ (.str (Txt.join "'" ([v0, v1, v2, v3, v4].map wordRaw))) _ ky_left (@Ev.meth _ _ _ _ _ _ _ _ _ _ [.list (strsOf ([v0, v1, v2, v3, v4].map wordRaw))] _ _ Ev.str ?_ (fun _ => rfl) (fun _ => rfl) rfl F.slot_str_join F.type_str_join (fun _ => rfl) (fun _ => rfl) (Bsp.join ?_)) ?_ rfl (by decide +kernel) rfl (fun _ => rfl)
  · refine Evs.c (Ev.cmpr (ρc := []) (xs := [v0, v1, v2, v3, v4].map wordV) (EvI.list (Ev.nm ky_pairs rfl)) ?_ (by simp [strsOf]) (by omega)) Evs.nil
    generalize [v0, v1, v2, v3, v4] = l
    induction l with
    | nil => exact Comp.nil
    | cons v l ih => exact Comp.take (TgL.v2 ky_raw ky_meant) (fun p hp => (nomatch hp)) (fun c hc => (nomatch hc)) (Ev.nm ky_raw rfl) ih
  · have hr : ∀ v, (wordRaw v).length = 2 := fun v => rfl
    simp only [List.map_cons, List.map_nil, List.sum_cons, List.sum_nil, hr, List.length_cons, List.length_nil]
    have : ("'" : Str).length = 1 := by decide +kernel
    omega
  -- raws, told
  refine Xs.asg ky_raws (Ev.ls Evs.nil) (Xs.asg ky_told (Ev.fn gf_f9 (decode_more (n := n + 5) (by omega) hs1 rfl) (Evs.c (Ev.nm ky_left rfl) Evs.nil)) ?_)
  refine Xs.while 2 (fun i => match i with
    | 0 => [(40, .list (strsOf [wordRaw v0, wordRaw v1, Txt.join "'" ([v2, v3, v4].map wordRaw)])), (39, .list (strsOf [])), (38, .str (Txt.join "'" ([v0, v1, v2, v3, v4].map wordRaw))), (37, .list ([v0, v1, v2, v3, v4].map wordV))]
    | 1 => [(40, .list (strsOf [wordRaw v2, wordRaw v3, wordRaw v4])), (39, .list (strsOf [wordRaw v0, wordRaw v1])), (38, .str (Txt.join "'" ([v2, v3, v4].map wordRaw))), (37, .list ([v0, v1, v2, v3, v4].map wordV))]
    | _ => [(40, .tup [.none, .none, .str (wordRaw v4)]), (39, .list (strsOf [wordRaw v0, wordRaw v1, wordRaw v2, wordRaw v3])), (38, .str (wordRaw v4)), (37, .list ([v0, v1, v2, v3, v4].map wordV))]) (fun _ => none) (by simp [drp, strsOf]) rfl ?_ ?_ ?_ ?_
  · intro i hi
    match i, hi with
    | 0, _ => exact (EvT.cp (Ev.sb (Ev.nm ky_told rfl) Ev.int (Gop.list (by decide) (by decide) rfl)) Ev.none Cop.isnot_none).to rfl
    | 1, _ => exact (EvT.cp (Ev.sb (Ev.nm ky_told rfl) Ev.int (Gop.list (by decide) (by decide) rfl)) Ev.none Cop.isnot_none).to rfl
  · intro i hi
    match i, hi with
    | 0, _ =>
      refine Xs.asg ky_raws (Ev.bin (Ev.nm ky_raws rfl) (Ev.slTo (k := 2) (Ev.nm ky_told rfl) Ev.int (Sop.list_to (by decide) (by simp [strsOf]))) (Bop.add_list (by simp [strsOf]))) ?_
      refine Xs.asg ky_left (Ev.sb (Ev.nm ky_told rfl) Ev.int (Gop.list (y := .str (Txt.join "'" ([v2, v3, v4].map wordRaw))) (by decide) (by decide) rfl)) ?_
      exact Xs.asg ky_told (Ev.fn gf_f9 (decode_more (n := n + 5) (by omega) hs2 rfl) (Evs.c (Ev.nm ky_left rfl) Evs.nil)) (Xs.done (by simp [drp, strsOf]))
    | 1, _ =>
      refine Xs.asg ky_raws (Ev.bin (Ev.nm ky_raws rfl) (Ev.slTo (k := 2) (Ev.nm ky_told rfl) Ev.int (Sop.list_to (by decide) (by simp [strsOf]))) (Bop.add_list (by simp [strsOf]))) ?_
      refine Xs.asg ky_left (Ev.sb (Ev.nm ky_told rfl) Ev.int (Gop.list (y := .str (wordRaw v4)) (by decide) (by decide) rfl)) ?_
      exact Xs.asg ky_told (Ev.fn gf_f9 (decode_few (n := n + 5) (by show (2 : Nat) ≤ _; omega) hs3) (Evs.c (Ev.nm ky_left rfl) Evs.nil)) (Xs.done (by simp [drp, strsOf]))
  · exact (EvT.cp (Ev.sb (Ev.nm ky_told rfl) Ev.int (Gop.tup (by decide) (by decide) rfl)) Ev.none Cop.isnot_none).to rfl
  -- the first test
  have okR : ∀ l : List Nat, PV.ok 9 (.list (strsOf (l.map wordRaw))) = true := fun l => by
    show PV.oks 8 _ = true
    induction l with
    | nil => rfl
    | cons v l ih => simp only [List.map_cons, strsOf, PV.oks, PV.ok, hro, Bool.true_and]; exact ih
  have okM : ∀ l : List Nat, PV.ok 9 (.list (strsOf (l.map wordMeant))) = true := fun l => by
    show PV.oks 8 _ = true
    induction l with
    | nil => rfl
    | cons v l ih => simp only [List.map_cons, strsOf, PV.oks, PV.ok, hmo, Bool.true_and]; exact ih
  refine Xs.if_next (b := false) (EvT.or_cons (EvT.cp (x := .list (strsOf ([v0, v1, v2, v3, v4].map wordRaw))) ((Ev.bin (Ev.nm ky_raws rfl) (Ev.ls (Evs.c (Ev.nm ky_left rfl) Evs.nil)) (Bop.add_list (by simp [strsOf]))).to rfl) (Ev.cmpr (ρc := []) (xs := [v0, v1, v2, v3, v4].map wordV) (EvI.list (Ev.nm ky_pairs rfl)) ?_ (by simp [strsOf]) (by omega)) (Cop.ne_same (okR _)))
    (EvT.or_cons (EvT.cp (Ev.nm ky_told rfl) (Ev.tp (Evs.c Ev.none (Evs.c Ev.none (Evs.c (Ev.nm ky_left rfl) Evs.nil)))) (Cop.ne_same (by simp [PV.ok, PV.oks, hro]))) EvT.or_nil)) Xs.nil ?_
  · generalize [v0, v1, v2, v3, v4] = l
    induction l with
    | nil => exact Comp.nil
    | cons v l ih => exact Comp.take (TgL.v2 ky_raw ky_meant) (fun p hp => (nomatch hp)) (fun c hc => (nomatch hc)) (Ev.nm ky_raw rfl) ih
  -- words
  refine Xs.asc (ρc := []) (xs := strsOf ([v0, v1, v2, v3, v4].map wordRaw)) (ys := strsOf ([v0, v1, v2, v3, v4].map wordMeant)) ky_words (EvI.list ((Ev.bin (Ev.nm ky_raws rfl) (Ev.ls (Evs.c (Ev.nm ky_left rfl) Evs.nil)) (Bop.add_list (by simp [strsOf]))).to rfl)) ?_ (by simp [strsOf]) (by omega) ?_
  · generalize [v0, v1, v2, v3, v4] = l
    induction l with
    | nil => exact Comp.nil
    | cons v l ih =>
      refine Comp.take (TgL.v ky_raw) (fun p hp => (nomatch hp)) (fun c hc => (nomatch hc)) ?_ ih
      obtain ⟨a1, a2⟩ := item_seen (n := n + 5) (L := 1 + v % 3) (k := v / 12) (by omega) (by omega)
      have hl1 := item_short (1 + v % 3) (v / 12)
      have hl2 := item_short (v / 3 % 4) (v / 312)
      have hsg : signsOf (wordRaw v) = [.str ⟨#[(item (1 + v % 3) (v / 12)).1]⟩, .str ⟨#[(item (v / 3 % 4) (v / 312)).1]⟩] := rfl
      have he0 : ("" : Str).length = 0 := by decide +kernel
      by_cases h0 : v / 3 % 4 = 0
      · have hb := item_unseen (n := n + 5) (k := v / 312)
        have hm : wordMeant v = Txt.join "" [(item (1 + v % 3) (v / 12)).2] := by
          apply str_ext
          rw [join_empty]; unfold wordMeant
          rw [h0, str_app]; rfl
        rw [hm]
        refine @Ev.meth _ _ _ _ _ _ _ _ _ _ [.list (strsOf [(item (1 + v % 3) (v / 12)).2])] _ _ Ev.str ?_ (fun _ => rfl) (fun _ => rfl) rfl F.slot_str_join F.type_str_join (fun _ => rfl) (fun _ => rfl) (Bsp.join (by simp; omega))
        refine Evs.c (Ev.cmpr (ρc := []) (xs := signsOf (wordRaw v)) (EvI.str (Ev.nm ky_raw rfl)) ?_ (by simp [strsOf]) (by omega)) Evs.nil
        rw [hsg, h0]
        refine Comp.take (TgL.v ky_sign) (fun p hp => (nomatch hp)) (fun c hc => ?_) (Ev.fn gf_f14 a1 (Evs.c (Ev.nm ky_sign rfl) Evs.nil)) (Comp.skip (TgL.v ky_sign) (fun p hp => (nomatch hp)) rfl (EvT.not (EvT.b (Ev.fn gf_f12 hb (Evs.c (Ev.nm ky_sign rfl) Evs.nil)))) Comp.nil)
        rw [List.mem_singleton.mp hc]
        exact EvT.not (EvT.b (Ev.fn gf_f12 a2 (Evs.c (Ev.nm ky_sign rfl) Evs.nil)))
      · obtain ⟨b1, b2⟩ := item_seen (n := n + 5) (L := v / 3 % 4) (k := v / 312) (by omega) (by omega)
        have hm : wordMeant v = Txt.join "" [(item (1 + v % 3) (v / 12)).2, (item (v / 3 % 4) (v / 312)).2] := by
          apply str_ext
          rw [join_empty]; unfold wordMeant
          rw [str_app]; simp
        rw [hm]
        refine @Ev.meth _ _ _ _ _ _ _ _ _ _ [.list (strsOf [(item (1 + v % 3) (v / 12)).2, (item (v / 3 % 4) (v / 312)).2])] _ _ Ev.str ?_ (fun _ => rfl) (fun _ => rfl) rfl F.slot_str_join F.type_str_join (fun _ => rfl) (fun _ => rfl) (Bsp.join (by simp; omega))
        refine Evs.c (Ev.cmpr (ρc := []) (xs := signsOf (wordRaw v)) (EvI.str (Ev.nm ky_raw rfl)) ?_ (by simp [strsOf]) (by omega)) Evs.nil
        rw [hsg]
        refine Comp.take (TgL.v ky_sign) (fun p hp => (nomatch hp)) (fun c hc => ?_) (Ev.fn gf_f14 a1 (Evs.c (Ev.nm ky_sign rfl) Evs.nil)) (Comp.take (TgL.v ky_sign) (fun p hp => (nomatch hp)) (fun c hc => ?_) (Ev.fn gf_f14 b1 (Evs.c (Ev.nm ky_sign rfl) Evs.nil)) Comp.nil)
        all_goals rw [List.mem_singleton.mp hc]
        · exact EvT.not (EvT.b (Ev.fn gf_f12 a2 (Evs.c (Ev.nm ky_sign rfl) Evs.nil)))
        · exact EvT.not (EvT.b (Ev.fn gf_f12 b2 (Evs.c (Ev.nm ky_sign rfl) Evs.nil)))
  refine Xs.if_next (b := false) (EvT.cp (Ev.nm ky_words rfl) (Ev.cmpr (ρc := []) (xs := [v0, v1, v2, v3, v4].map wordV) (ys := strsOf ([v0, v1, v2, v3, v4].map wordMeant)) (EvI.list (Ev.nm ky_pairs rfl)) ?_ (by simp [strsOf]) (by omega)) (Cop.ne_same (okM _))) Xs.nil ?_
  · generalize [v0, v1, v2, v3, v4] = l
    induction l with
    | nil => exact Comp.nil
    | cons v l ih => exact Comp.take (TgL.v2 ky_raw ky_meant) (fun p hp => (nomatch hp)) (fun c hc => (nomatch hc)) (Ev.nm ky_meant rfl) ih
  -- the memory
  refine Xs.asg ky_memory Ev.str (Xs.asg ky_cells (Ev.ls (Evs.c (Ev.tp (Evs.c Ev.str (Evs.c Ev.int Evs.nil))) Evs.nil)) (Xs.cel ky_given Ev.int ?_))
  refine Xs.each ([v0, v1, v2, v3, v4].map wordMeant) PV.str (EvI.list (Ev.nm ky_words rfl)) (by omega) lawR (fun _ => none) lawTurn lawInit (by simp [lawR, lawInit, drp, cellsV, cellV]) rfl (fun pre w post hl => ⟨_, Tg.v ky_word, ?_⟩) ?_
  · exact Xs.sub (turn_walk (n := n) (hok.turns pre w post hl)) (by simp [lawR, drp])
  have hck := check_walk (n := n + 2) hok.quote hok.whole hok.never
  rw [hok.level] at hck
  exact Xs.ret (Ev.cp (Ev.fn gf_f8 hck (Evs.c (Ev.nm ky_memory rfl) Evs.nil)) Ev.bool Cop.is_bool)
end Mine
end
namespace Mine
theorem cells_law (k : Nat) : cellsFrom k (fS 26).names [] = [(("given" : Str), k)] := by rfl
theorem law_call {n : Nat} {u x : PV} (hX : Xs false n (fS 26) [(35, u)] none (fB 26) (.ret x)) {w : World} {A : Around} {O : Addr → Prop} {s : Shared} {a : Addr} {v : Value} {Q : Value → Shared → Prop} {E : Value → Shared → Prop}
    (hA : Rm (n + 1) A) (hO : Own O s) (hG : GF s.heap) (hf : FnAt s.heap a 26 .none .none) (hr : Rep O s.heap v u) (q : ∀ v s', Ext s s' → Rep O s'.heap v x → Q v s') : wpAny (MM w) A (call (.ref a) [v]) Q E s := by
  obtain ⟨o, name, qual, doc, pm, an, cd, ct, ho, hd, hc⟩ := hf.is
  have hl : (fS 26).names.lookup ("script" : Str) = some .local := by decide +kernel
  have hlg : (fS 26).names.lookup ("given" : Str) = some .cell := by decide +kernel
  have hkn : (fS 26).kind = .function := by decide +kernel
  refine wpAny_call (codeAny_call_cells (binds := [(("script" : Str), v)]) hA.depth ho hd hG.lim hc rfl (by unfold bindArgs; rfl) rfl (fun y hy => by rw [List.mem_singleton.mp hy]; exact .inl hl) (fun s₁ X => ?_) (by show (fS 26).isCoroutine = false; decide +kernel) (by show (fS 26).isGenerator = false; decide +kernel) hkn)
  have hcl : (callEnvC { name := name, qualname := qual, params := fA 26, body := .stmts (fB 26), scope := fS 26, globals := mainGlobals, closure := [], defaults := .none, kwdefaults := .none, doc := doc, pyModule := pm, annotations := an, code := cd, closureTuple := ct, builtins := builtinsNs } s.heap.objs.size a).cells = [(("given" : Str), s.heap.objs.size + 1)] := cells_law _
  generalize henv : callEnvC { name := name, qualname := qual, params := fA 26, body := .stmts (fB 26), scope := fS 26, globals := mainGlobals, closure := [], defaults := .none, kwdefaults := .none, doc := doc, pyModule := pm, annotations := an, code := cd, closureTuple := ct, builtins := builtinsNs } s.heap.objs.size a = env at X hcl ⊢
  have hL : env.locals = s.heap.objs.size := by rw [← henv]; rfl
  have hsc : env.scope = fS 26 := by rw [← henv]; rfl
  have hks : env.kindOf "script" = some .local := by unfold Env.kindOf; rw [hsc]; exact hl
  have hok : EnvOk env (fS 26) := ⟨hsc, by rw [hsc]; exact hkn, by rw [← henv]; rfl, by rw [← henv]; rfl, by rw [hcl]; exact Nat.le_refl _, fun y hy => by
    have h1 : ∀ z ∈ (fS 26).names, z.2 = .cell → z.1 = "given" := by decide +kernel
    have h2 : y = "given" := h1 _ (lookup_in hy) rfl
    exact ⟨s.heap.objs.size + 1, by rw [hcl, h2, List.lookup_cons, beq_self_eq_true]⟩⟩
  obtain ⟨h₁, tk, rfl⟩ := X.toInCall.same
  have ex : Ext s { s with heap := h₁, toks := tk } := .of X.toInCall.keep
  have fr : ∀ b, s.heap.objs.size ≤ b → s.heap.get? b = none := fun b hb => by
    cases e : s.heap.get? b with
    | none => rfl
    | some o => exact absurd (Heap.lt_size e) (Nat.not_lt.mpr hb)
  refine hX w _ env O none s _ (hA.deeper _) hok hG ⟨fun y c hc => ?_, ⟨ex, by rw [hL]; exact fr _ (Nat.le_refl _), fun b hb => (hO.step ex) b (hb.elim id fun z => by cases z), _, X.toInCall.ns, fun p hp y hy => ?_⟩, trivial⟩ _ _ fun v' s' e r => q v' s' e r
  · refine ⟨?_, _, X.cell y c hc⟩
    rw [hcl, List.lookup_cons] at hc
    split at hc
    · cases hc; exact fr _ (Nat.le_succ _)
    · cases hc
  · obtain rfl := List.mem_singleton.mp hp
    obtain rfl : y = "script" := by have := ky_get ky_script (by decide); rw [show nms[35]? = some y from hy] at this; exact Option.some.inj this
    refine ⟨v, .inl ⟨hks, ?_⟩, (hr.ext ex).mono (fun b hb => hb.elim id fun z => by cases z) fun _ _ _ e => e⟩
    simp [bindL, hks]
end Mine
section
set_option maxRecDepth 4000
set_option maxHeartbeats 2000000
namespace Mine
open Builtin.Str
theorem split5 {a0 b0 a1 b1 a2 b2 a3 b3 a4 b4 : Nat} (h : 39 ∉ [a0, b0, a1, b1, a2, b2, a3, b3, a4, b4]) : occurrences ⟨#[a0, b0, 39, a1, b1, 39, a2, b2, 39, a3, b3, 39, a4, b4]⟩ ⟨#[39]⟩ 0 14 2 = [2, 5] := by
  simp only [List.mem_cons, List.not_mem_nil, or_false, not_or] at h
  obtain ⟨h1, h2, h3, h4, h5, h6, h7, h8, h9, h10⟩ := h
  have g1 := Ne.symm h1
  have g2 := Ne.symm h2
  have g3 := Ne.symm h3
  have g4 := Ne.symm h4
  have g5 := Ne.symm h5
  have g6 := Ne.symm h6
  have g7 := Ne.symm h7
  have g8 := Ne.symm h8
  have g9 := Ne.symm h9
  have g10 := Ne.symm h10
  rw [StrLaws.occ_eq]
  simp [List.range', List.forIn_cons, StrLaws.occBody, subAt, Str.length, g1, g2, g3, g4, g5, g6, g7, g8, g9, g10]
theorem split3 {a2 b2 a3 b3 a4 b4 : Nat} (h : 39 ∉ [a2, b2, a3, b3, a4, b4]) : occurrences ⟨#[a2, b2, 39, a3, b3, 39, a4, b4]⟩ ⟨#[39]⟩ 0 8 2 = [2, 5] := by
  simp only [List.mem_cons, List.not_mem_nil, or_false, not_or] at h
  obtain ⟨h1, h2, h3, h4, h5, h6⟩ := h
  have g1 := Ne.symm h1
  have g2 := Ne.symm h2
  have g3 := Ne.symm h3
  have g4 := Ne.symm h4
  have g5 := Ne.symm h5
  have g6 := Ne.symm h6
  rw [StrLaws.occ_eq]
  simp [List.range', List.forIn_cons, StrLaws.occBody, subAt, Str.length, g1, g2, g3, g4, g5, g6]
theorem split1 {a b : Nat} (h : 39 ∉ [a, b]) : occurrences ⟨#[a, b]⟩ ⟨#[39]⟩ 0 2 2 = [] := by
  simp only [List.mem_cons, List.not_mem_nil, or_false, not_or] at h
  obtain ⟨h1, h2⟩ := h
  have g1 := Ne.symm h1
  have g2 := Ne.symm h2
  rw [StrLaws.occ_eq]
  simp [List.range', List.forIn_cons, StrLaws.occBody, subAt, Str.length, g1, g2]
theorem tick_eq : ("'" : Str) = ⟨#[39]⟩ := by decide +kernel
theorem kind_tick (x : Str) : decide (Builtin.Str.strKind x < Builtin.Str.strKind ⟨#[39]⟩) = false := by
  have : Builtin.Str.strKind ⟨#[39]⟩ = 1 := by decide +kernel
  rw [this]
  unfold Builtin.Str.strKind
  split
  · rfl
  · split <;> rfl
theorem max5 {a0 b0 a1 b1 a2 b2 a3 b3 a4 b4 : Nat} (h : 39 ∉ [a0, b0, a1, b1, a2, b2, a3, b3, a4, b4]) : Txt.splitMax ⟨#[a0, b0, 39, a1, b1, 39, a2, b2, 39, a3, b3, 39, a4, b4]⟩ ⟨#[39]⟩ 2 = [⟨#[a0, b0]⟩, ⟨#[a1, b1]⟩, ⟨#[a2, b2, 39, a3, b3, 39, a4, b4]⟩] := by
  unfold Txt.splitMax
  rw [kind_tick]
  have e : occurrences ⟨#[a0, b0, 39, a1, b1, 39, a2, b2, 39, a3, b3, 39, a4, b4]⟩ ⟨#[39]⟩ 0 (Str.length ⟨#[a0, b0, 39, a1, b1, 39, a2, b2, 39, a3, b3, 39, a4, b4]⟩) (limitOf ⟨#[a0, b0, 39, a1, b1, 39, a2, b2, 39, a3, b3, 39, a4, b4]⟩ 2) = [2, 5] := split5 h
  rw [e]
  simp [Str.length, partsBetween, strSub]
theorem max3 {a2 b2 a3 b3 a4 b4 : Nat} (h : 39 ∉ [a2, b2, a3, b3, a4, b4]) : Txt.splitMax ⟨#[a2, b2, 39, a3, b3, 39, a4, b4]⟩ ⟨#[39]⟩ 2 = [⟨#[a2, b2]⟩, ⟨#[a3, b3]⟩, ⟨#[a4, b4]⟩] := by
  unfold Txt.splitMax
  rw [kind_tick]
  have e : occurrences ⟨#[a2, b2, 39, a3, b3, 39, a4, b4]⟩ ⟨#[39]⟩ 0 (Str.length ⟨#[a2, b2, 39, a3, b3, 39, a4, b4]⟩) (limitOf ⟨#[a2, b2, 39, a3, b3, 39, a4, b4]⟩ 2) = [2, 5] := split3 h
  rw [e]
  simp [Str.length, partsBetween, strSub]
theorem max1 {a b : Nat} (h : 39 ∉ [a, b]) : (Txt.splitMax ⟨#[a, b]⟩ ⟨#[39]⟩ 2).length ≤ 2 := by
  unfold Txt.splitMax
  rw [kind_tick]
  have e : occurrences ⟨#[a, b]⟩ ⟨#[39]⟩ 0 (Str.length ⟨#[a, b]⟩) (limitOf ⟨#[a, b]⟩ 2) = [] := split1 h
  rw [e]
  simp [Str.length]
theorem item_code (L k : Nat) : 65 ≤ (item L k).1 ∧ (item L k).1 < 0x110000 := by
  have h4 : k % 4 < 4 := Nat.mod_lt _ (by decide)
  have h26 : k % 26 < 26 := Nat.mod_lt _ (by decide)
  have h27 : k % 27 < 27 := Nat.mod_lt _ (by decide)
  unfold item
  split
  · dsimp only; omega
  · dsimp only; revert h4; generalize k % 4 = j; revert j; refine lt4 ?_ ?_ ?_ ?_ <;> decide
  · dsimp only; revert h4; generalize k % 4 = j; revert j; refine lt4 ?_ ?_ ?_ ?_ <;> decide
  · dsimp only
    obtain ⟨c, h1, h2, h3⟩ := unseen_at _ h27
    rw [h2]
    have : ∀ c ∈ unseenNats, 65 ≤ c ∧ c < 0x110000 := by decide
    exact this c (List.mem_of_getElem? h1)
theorem raw_eq (v : Nat) : wordRaw v = ⟨#[(item (1 + v % 3) (v / 12)).1, (item (v / 3 % 4) (v / 312)).1]⟩ := rfl
theorem raw_ok (v : Nat) : PyData.strOk (wordRaw v) = true := by
  rw [raw_eq]
  have h1 := (item_code (1 + v % 3) (v / 12)).2
  have h2 := (item_code (v / 3 % 4) (v / 312)).2
  unfold PyData.strOk
  simp [h1, h2]
theorem item_letters (L k : Nat) : ∀ c ∈ (item L k).2.cps.toList, 97 ≤ c ∧ c ≤ 122 := by
  have h4 : k % 4 < 4 := Nat.mod_lt _ (by decide)
  have h26 : k % 26 < 26 := Nat.mod_lt _ (by decide)
  unfold item
  split
  · intro c hc
    simp at hc
    omega
  · dsimp only; revert h4; generalize k % 4 = j; revert j; refine lt4 ?_ ?_ ?_ ?_ <;> decide +kernel
  · dsimp only; revert h4; generalize k % 4 = j; revert j; refine lt4 ?_ ?_ ?_ ?_ <;> decide +kernel
  · dsimp only; decide +kernel
theorem meant_letters (v : Nat) : ∀ c ∈ (wordMeant v).cps.toList, 97 ≤ c ∧ c ≤ 122 := by
  intro c hc
  unfold wordMeant at hc
  rw [str_app] at hc
  rcases List.mem_append.mp hc with h | h
  · exact item_letters _ _ c h
  · exact item_letters _ _ c h
theorem meant_ok (v : Nat) : PyData.strOk (wordMeant v) = true := by
  unfold PyData.strOk
  rw [Array.all_eq_true']
  intro c hc
  have := meant_letters v c (by simpa using hc)
  simp; omega
theorem ticks5 (v0 v1 v2 v3 v4 : Nat) : Txt.join "'" ([v0, v1, v2, v3, v4].map wordRaw) = ⟨#[(item (1 + v0 % 3) (v0 / 12)).1, (item (v0 / 3 % 4) (v0 / 312)).1, 39, (item (1 + v1 % 3) (v1 / 12)).1, (item (v1 / 3 % 4) (v1 / 312)).1, 39, (item (1 + v2 % 3) (v2 / 12)).1, (item (v2 / 3 % 4) (v2 / 312)).1, 39, (item (1 + v3 % 3) (v3 / 12)).1, (item (v3 / 3 % 4) (v3 / 312)).1, 39, (item (1 + v4 % 3) (v4 / 12)).1, (item (v4 / 3 % 4) (v4 / 312)).1]⟩ := by
  rw [tick_eq]; rfl
theorem ticks3 (v2 v3 v4 : Nat) : Txt.join "'" ([v2, v3, v4].map wordRaw) = ⟨#[(item (1 + v2 % 3) (v2 / 12)).1, (item (v2 / 3 % 4) (v2 / 312)).1, 39, (item (1 + v3 % 3) (v3 / 12)).1, (item (v3 / 3 % 4) (v3 / 312)).1, 39, (item (1 + v4 % 3) (v4 / 12)).1, (item (v4 / 3 % 4) (v4 / 312)).1]⟩ := by
  rw [tick_eq]; rfl
theorem item_no (L k : Nat) : 39 ≠ (item L k).1 := by have := (item_code L k).1; omega
theorem hs1 (v0 v1 v2 v3 v4 : Nat) : Txt.splitMax (Txt.join "'" ([v0, v1, v2, v3, v4].map wordRaw)) "'" 2 = [wordRaw v0, wordRaw v1, Txt.join "'" ([v2, v3, v4].map wordRaw)] := by
  rw [ticks5, ticks3, tick_eq, max5 (by simp [item_no])]; rfl
theorem hs2 (v2 v3 v4 : Nat) : Txt.splitMax (Txt.join "'" ([v2, v3, v4].map wordRaw)) "'" 2 = [wordRaw v2, wordRaw v3, wordRaw v4] := by
  rw [ticks3, tick_eq, max3 (by simp [item_no])]; rfl
theorem hs3 (v4 : Nat) : (Txt.splitMax (wordRaw v4) "'" 2).length ≤ 2 := by
  rw [raw_eq, tick_eq]; exact max1 (by simp [item_no])
theorem law_plain {n : Nat} {xs : List Int} {v0 v1 v2 v3 v4 : Nat} (hv : numsOf' xs = [v0, v1, v2, v3, v4]) (hok : LawOk ([v0, v1, v2, v3, v4].map wordMeant)) (hx : xs.length ≤ 1000) : Xs false (n + 6) (fS 26) [(35, .list (xs.map .int))] none (fB 26) (.ret (.bool true)) :=
  law_xs hv hok hx (hs1 ..) (hs2 ..) (hs3 _) (by rw [ticks5]; simp [Str.length]) (by rw [ticks3]; simp [Str.length]) raw_ok meant_ok
end Mine
end
namespace Mine
/-! the memory as a binary tree -/
inductive BT where
  | dot
  | leaf (w : List Nat)
  | node (l r : BT)
noncomputable def BT.text : BT → List Nat
  | .dot => [46]
  | .leaf w => w.flatMap fun c => [92, c]
  | .node l r => 40 :: (l.text ++ r.text ++ [41])
noncomputable def wordToks : List Nat → Nat → List (Nat × List Nat)
  | [], _ => []
  | c :: w, i => (i + 1, [92, c]) :: wordToks w (i + 2)
noncomputable def BT.toks : BT → Nat → List (Nat × List Nat)
  | .dot, i => [(i, [46])]
  | .leaf w, i => wordToks w i
  | .node l r, i => (i, [40]) :: (l.toks (i + 1) ++ r.toks (i + 1 + l.text.length) ++ [(i + 1 + l.text.length + r.text.length, [41])])
theorem word_toks : ∀ {w : List Nat} {i : Nat} {rest : List Nat}, Mine.toks (w.flatMap (fun c => [92, c]) ++ rest) i false = wordToks w i ++ Mine.toks rest (i + 2 * w.length) false
  | [], i, rest => by simp [wordToks]
  | c :: w, i, rest => by
    have ih := word_toks (w := w) (i := i + 2) (rest := rest)
    simp only [List.flatMap_cons, List.cons_append, List.nil_append, List.append_assoc, Mine.toks, if_true, wordToks, List.length_cons]
    rw [show i + 1 + 1 = i + 2 from rfl, ih, show i + 2 + 2 * w.length = i + 2 * (w.length + 1) from by omega]
theorem text_leaf {w : List Nat} : (w.flatMap fun c => [92, c]).length = 2 * w.length := by
  induction w with
  | nil => rfl
  | cons c w ih => rw [List.flatMap_cons, List.length_append, ih]; simp; omega
theorem BT.toks_text : ∀ {t : BT} {i : Nat} {rest : List Nat}, Mine.toks (t.text ++ rest) i false = t.toks i ++ Mine.toks rest (i + t.text.length) false
  | .dot, i, rest => by simp [BT.text, BT.toks, Mine.toks]
  | .leaf w, i, rest => by
    show Mine.toks (w.flatMap (fun c => [92, c]) ++ rest) i false = _
    rw [word_toks]; simp only [BT.toks, BT.text, text_leaf]
  | .node l r, i, rest => by
    have e : (BT.node l r).text ++ rest = 40 :: (l.text ++ (r.text ++ (41 :: rest))) := by simp [BT.text]
    rw [e]
    show (if (40 : Nat) = 92 then _ else _) = _
    rw [if_neg (by decide), BT.toks_text (t := l), BT.toks_text (t := r)]
    have e2 : Mine.toks (41 :: rest) (i + 1 + l.text.length + r.text.length) false = (i + 1 + l.text.length + r.text.length, [41]) :: Mine.toks rest (i + 1 + l.text.length + r.text.length + 1) false := by
      show (if (41 : Nat) = 92 then _ else _) = _
      rw [if_neg (by decide)]
    rw [e2]
    simp only [BT.toks, BT.text, List.cons_append, List.append_assoc, List.nil_append, List.length_cons, List.length_append, List.length_nil]
    rw [show i + 1 + l.text.length + r.text.length + 1 = i + (l.text.length + (r.text.length + (0 + 1)) + 1) from by omega]
theorem whole_word : ∀ {w rest : List Nat}, Mine.whole (w.flatMap (fun c => [92, c]) ++ rest) false = Mine.whole rest false
  | [], rest => rfl
  | c :: w, rest => by simp only [List.flatMap_cons, List.cons_append, List.nil_append, Mine.whole, if_true]; exact whole_word
theorem BT.whole_text : ∀ {t : BT} {rest : List Nat}, Mine.whole (t.text ++ rest) false = Mine.whole rest false
  | .dot, rest => by simp [BT.text, Mine.whole]
  | .leaf w, rest => whole_word
  | .node l r, rest => by
    have e : (BT.node l r).text ++ rest = 40 :: (l.text ++ (r.text ++ (41 :: rest))) := by simp [BT.text]
    rw [e]
    show (if (40 : Nat) = 92 then _ else _) = _
    rw [if_neg (by decide), BT.whole_text (t := l), BT.whole_text (t := r)]
    show (if (41 : Nat) = 92 then _ else _) = _
    rw [if_neg (by decide)]
end Mine
namespace Mine
/-! what _law_leaves makes of a tree -/
noncomputable def BT.leaves : BT → Nat → Nat → List Leaf
  | .dot, d, i => [(("" : Str), 256 / 2 ^ d, i)]
  | .leaf w, d, i => [((⟨w.toArray⟩ : Str), 256 / 2 ^ d, i + 2 * w.length - 1)]
  | .node l r, d, i => l.leaves (d + 1) (i + 1) ++ r.leaves (d + 1) (i + 1 + l.text.length)
/-- words as long as their depth -/
noncomputable def BT.ok : BT → Nat → Prop
  | .dot, d => d ≤ 8
  | .leaf w, d => w.length = d ∧ 1 ≤ d ∧ d ≤ 8 ∧ ∀ c ∈ w, c ≠ 40 ∧ c ≠ 41 ∧ c ≠ 46
  | .node l r, d => l.ok (d + 1) ∧ r.ok (d + 1)
/-- P at every stage of a fold -/
noncomputable def Stages {α σ : Type} (P : σ → Prop) (f : σ → α → σ) (s : σ) (l : List α) : Prop := ∀ pre post, l = pre ++ post → P (pre.foldl f s)
theorem Stages.nil {α σ : Type} {P : σ → Prop} {f : σ → α → σ} {s : σ} (h : P s) : Stages P f s [] := fun pre post e => by
  obtain ⟨rfl, rfl⟩ := List.append_eq_nil_iff.mp e.symm
  exact h
theorem Stages.cons {α σ : Type} {P : σ → Prop} {f : σ → α → σ} {s : σ} {a : α} {l : List α} (h : P s) (hl : Stages P f (f s a) l) : Stages P f s (a :: l) := fun pre post e => by
  cases pre with
  | nil => exact h
  | cons b pre =>
    rw [List.cons_append, List.cons.injEq] at e
    obtain ⟨rfl, e⟩ := e
    exact hl pre post e
theorem Stages.append {α σ : Type} {P : σ → Prop} {f : σ → α → σ} : ∀ {l l' : List α} {s : σ}, Stages P f s l → Stages P f (l.foldl f s) l' → Stages P f s (l ++ l')
  | [], l', s, _, h => h
  | a :: l, l', s, h1, h2 => .cons (h1 [] _ rfl) (Stages.append (l := l) (fun pre post e => h1 (a :: pre) post (by rw [e]; rfl)) h2)
theorem Stages.start {α σ : Type} {P : σ → Prop} {f : σ → α → σ} {s : σ} {l : List α} (h : Stages P f s l) : P s := h [] l rfl
theorem sg1 : ("(" : Str) = ⟨#[40]⟩ := by decide +kernel
theorem sg2 : (")" : Str) = ⟨#[41]⟩ := by decide +kernel
theorem sg3 : ("." : Str) = ⟨#[46]⟩ := by decide +kernel
theorem tokS_esc {i c : Nat} : (tokS (i, [92, c]) == "(") = false ∧ (tokS (i, [92, c]) == ")") = false ∧ (tokS (i, [92, c]) == ".") = false := by
  have h : ∀ x : Nat, (tokS (i, [92, c]) == (⟨#[x]⟩ : Str)) = false := fun x => beq_eq_false_iff_ne.mpr fun e => by
    have := congrArg (fun s : Str => s.cps.size) e
    simp [tokS] at this
  rw [sg1, sg2, sg3]
  exact ⟨h _, h _, h _⟩
theorem step_open {d : Int} {w : Str} {ls : List Leaf} {i : Nat} : leafStep (d, w, ls) (i, [40]) = (d + 1, w, ls) := by
  unfold leafStep
  rw [if_pos (by rw [sg1]; simp [tokS])]
theorem step_close {d : Int} {w : Str} {ls : List Leaf} {i : Nat} : leafStep (d, w, ls) (i, [41]) = (d - 1, w, ls) := by
  unfold leafStep
  rw [if_neg (by rw [sg1]; simp [tokS]), if_pos (by rw [sg2]; simp [tokS])]
theorem step_dot {d : Int} {w : Str} {ls : List Leaf} {i : Nat} : leafStep (d, w, ls) (i, [46]) = (d, w, ls ++ [(("" : Str), 256 / 2 ^ d.toNat, i)]) := by
  unfold leafStep
  rw [if_neg (by rw [sg1]; simp [tokS]), if_neg (by rw [sg2]; simp [tokS]), if_pos (by rw [sg3]; simp [tokS])]
theorem step_esc {d : Int} {w : List Nat} {ls : List Leaf} {i c : Nat} : leafStep (d, (⟨w.toArray⟩ : Str), ls) (i, [92, c]) =
    if ((w.length + 1 : Nat) : Int) == d then (d, ("" : Str), ls ++ [((⟨(w ++ [c]).toArray⟩ : Str), 256 / 2 ^ d.toNat, i)]) else (d, (⟨(w ++ [c]).toArray⟩ : Str), ls) := by
  obtain ⟨h1, h2, h3⟩ := tokS_esc (i := i) (c := c)
  have e : (⟨w.toArray⟩ ++ ⟨([92, c].drop 1).toArray⟩ : Str) = ⟨(w ++ [c]).toArray⟩ := by
    show (⟨w.toArray ++ [c].toArray⟩ : Str) = _
    simp
  unfold leafStep
  rw [if_neg (by rw [h1]; decide), if_neg (by rw [h2]; decide), if_neg (by rw [h3]; decide)]
  dsimp only
  rw [e]
  have el : Str.length (⟨(w ++ [c]).toArray⟩ : Str) = w.length + 1 := by simp [Str.length]
  rw [el]
end Mine
namespace Mine
theorem BT.ok_deep : ∀ {t : BT} {d : Nat}, t.ok d → d ≤ 8
  | .dot, d, h => h
  | .leaf w, d, h => h.2.2.1
  | .node l r, d, h => Nat.le_of_succ_le (BT.ok_deep (t := l) h.1)
theorem str_nil : ("" : Str) = ⟨([] : List Nat).toArray⟩ := by decide +kernel
theorem empty_short : ("" : Str).length ≤ 1000 := by decide +kernel
theorem strN {u : List Nat} : (⟨u.toArray⟩ : Str).length = u.length := by simp [Str.length]
theorem word_fold : ∀ {w u : List Nat} {i : Nat} {ls : List Leaf}, 1 ≤ w.length → (wordToks w i).foldl leafStep (((u.length + w.length : Nat) : Int), (⟨u.toArray⟩ : Str), ls) = (((u.length + w.length : Nat) : Int), ("" : Str), ls ++ [((⟨(u ++ w).toArray⟩ : Str), 256 / 2 ^ (u.length + w.length), i + 2 * w.length - 1)])
  | [], u, i, ls, h => by simp at h
  | [c], u, i, ls, h => by
    simp only [wordToks, List.foldl_cons, List.foldl_nil, List.length_cons, List.length_nil]
    rw [step_esc, if_pos (by simp), Int.toNat_natCast]
    simp
  | c :: c' :: w, u, i, ls, h => by
    have ih := word_fold (w := c' :: w) (u := u ++ [c]) (i := i + 2) (ls := ls) (by simp)
    rw [show wordToks (c :: c' :: w) i = (i + 1, [92, c]) :: wordToks (c' :: w) (i + 2) from rfl, List.foldl_cons, step_esc]
    rw [if_neg (by simp; omega)]
    have e : u.length + (c :: c' :: w).length = (u ++ [c]).length + (c' :: w).length := by simp; omega
    rw [e, ih]
    simp
    omega
theorem word_stages : ∀ {w u : List Nat} {i : Nat} {ls : List Leaf}, 1 ≤ w.length → u.length + w.length ≤ 8 → ls.length + 1 ≤ 10000 → Stages okLS leafStep (((u.length + w.length : Nat) : Int), (⟨u.toArray⟩ : Str), ls) (wordToks w i)
  | [], u, i, ls, h, _, _ => by simp at h
  | [c], u, i, ls, h, h8, hl => by
    refine Stages.cons ⟨by simp; omega, by simp at h8 ⊢; omega, by rw [strN]; simp at h8; omega, by simp; omega⟩ ?_
    rw [step_esc, if_pos (by simp)]
    refine Stages.nil ⟨by simp; omega, by simp at h8 ⊢; omega, empty_short, by simp; omega⟩
  | c :: c' :: w, u, i, ls, h, h8, hl => by
    refine Stages.cons ⟨by simp; omega, by simp at h8 ⊢; omega, by rw [strN]; simp at h8; omega, by simp; omega⟩ ?_
    rw [step_esc, if_neg (by simp; omega)]
    have e : u.length + (c :: c' :: w).length = (u ++ [c]).length + (c' :: w).length := by simp; omega
    rw [e]
    exact word_stages (w := c' :: w) (u := u ++ [c]) (i := i + 2) (by simp) (by rw [← e]; exact h8) hl
theorem BT.fold : ∀ {t : BT} {d i : Nat} {ls : List Leaf}, t.ok d → (t.toks i).foldl leafStep ((d : Int), ("" : Str), ls) = ((d : Int), ("" : Str), ls ++ t.leaves d i)
  | .dot, d, i, ls, h => by simp only [BT.toks, BT.leaves, List.foldl_cons, List.foldl_nil, step_dot, Int.toNat_natCast]
  | .leaf w, d, i, ls, h => by
    have := word_fold (w := w) (u := []) (i := i) (ls := ls) (by have := h.1; have := h.2.1; omega)
    simp only [List.length_nil, Nat.zero_add, List.nil_append] at this
    rw [h.1] at this
    rw [str_nil]
    show (wordToks w i).foldl leafStep _ = _
    rw [this, ← str_nil]
    simp only [BT.leaves, h.1]
  | .node l r, d, i, ls, h => by
    simp only [BT.toks, BT.leaves, List.foldl_cons, List.foldl_append, List.foldl_nil, step_open]
    have e : (d : Int) + 1 = ((d + 1 : Nat) : Int) := by omega
    rw [e, BT.fold (t := l) h.1, BT.fold (t := r) h.2, step_close, List.append_assoc]
    congr 1
    omega
theorem BT.stages : ∀ {t : BT} {d i : Nat} {ls : List Leaf}, t.ok d → ls.length + (t.leaves d i).length ≤ 10000 → Stages okLS leafStep ((d : Int), ("" : Str), ls) (t.toks i)
  | .dot, d, i, ls, h, hl => by
    have h8 := BT.ok_deep h
    simp only [BT.leaves, List.length_cons, List.length_nil] at hl
    refine Stages.cons ⟨by simp, by simp; omega, empty_short, by simp; omega⟩ ?_
    rw [step_dot]
    exact Stages.nil ⟨by simp, by simp; omega, empty_short, by simp; omega⟩
  | .leaf w, d, i, ls, h, hl => by
    have h8 := BT.ok_deep h
    simp only [BT.leaves, List.length_cons, List.length_nil] at hl
    have := word_stages (w := w) (u := []) (i := i) (ls := ls) (by have := h.1; have := h.2.1; omega) (by have := h.1; simp; omega) (by omega)
    simp only [List.length_nil, Nat.zero_add] at this
    rw [h.1] at this
    rw [str_nil]
    exact this
  | .node l r, d, i, ls, h, hl => by
    have h8 := BT.ok_deep h
    simp only [BT.leaves, List.length_append] at hl
    have e : (d : Int) + 1 = ((d + 1 : Nat) : Int) := by omega
    refine Stages.cons ⟨by simp, by simp; omega, empty_short, by simp; omega⟩ ?_
    rw [step_open, e]
    refine Stages.append (Stages.append (BT.stages (t := l) h.1 (by omega)) ?_) ?_
    · rw [BT.fold h.1]
      exact BT.stages (t := r) h.2 (by rw [List.length_append]; omega)
    · rw [List.foldl_append, BT.fold h.1, BT.fold h.2]
      have hh := BT.ok_deep h.1
      refine Stages.cons ⟨by show (0 : Int) ≤ ((d + 1 : Nat) : Int); omega, by show ((d + 1 : Nat) : Int) ≤ 1000; omega, empty_short, by simp only [List.length_append]; omega⟩ ?_
      rw [step_close]
      exact Stages.nil ⟨by show (0 : Int) ≤ ((d + 1 : Nat) : Int) - 1; omega, by show ((d + 1 : Nat) : Int) - 1 ≤ 1000; omega, empty_short, by simp only [List.length_append]; omega⟩
end Mine
namespace Mine
/-- the block that holds the word, as it lies after the splits -/
noncomputable def chain (w : List Nat) : Nat → BT
  | 0 => .leaf w
  | k + 1 => .node (chain w k) .dot
/-- the first dot of at least z cells takes the word -/
noncomputable def BT.put (w : List Nat) (z : Nat) : BT → Nat → Option BT
  | .dot, d => if z ≤ 256 / 2 ^ d then some (chain w (w.length - d)) else none
  | .leaf _, _ => none
  | .node l r, d => match l.put w z (d + 1) with
    | some l' => some (.node l' r)
    | none => (r.put w z (d + 1)).map (.node l)
/-- a leaf that is free and great enough -/
noncomputable def fitsL (z : Nat) (l : Leaf) : Bool := l.1 == ("" : Str) && decide (z ≤ l.2.1)
theorem chain_ok {w : List Nat} (hw : ∀ c ∈ w, c ≠ 40 ∧ c ≠ 41 ∧ c ≠ 46) (h1 : 1 ≤ w.length) (h8 : w.length ≤ 8) : ∀ {k d : Nat}, d + k = w.length → (chain w k).ok d
  | 0, d, h => ⟨by omega, by omega, by omega, hw⟩
  | k + 1, d, h => ⟨chain_ok hw h1 h8 (by omega), by show d + 1 ≤ 8; omega⟩
noncomputable def cellOf' (l : Leaf) : Cell := (l.1, l.2.1)
noncomputable def BT.cells (t : BT) (d : Nat) : List Cell := (t.leaves d 0).map cellOf'
theorem BT.cells_at : ∀ {t : BT} {d i : Nat}, (t.leaves d i).map cellOf' = t.cells d
  | .dot, d, i => rfl
  | .leaf w, d, i => rfl
  | .node l r, d, i => by
    unfold BT.cells
    simp only [BT.leaves, List.map_append]
    rw [BT.cells_at (t := l), BT.cells_at (t := r), BT.cells_at (t := l) (i := 0 + 1), BT.cells_at (t := r) (i := 0 + 1 + l.text.length)]
theorem owner_ne {w : List Nat} (h : 1 ≤ w.length) : ((⟨w.toArray⟩ : Str) == ("" : Str)) = false := by
  refine beq_eq_false_iff_ne.mpr fun e => ?_
  have := congrArg Str.length e
  rw [strN, show ("" : Str).length = 0 from by decide +kernel] at this
  omega
theorem put_none {w : List Nat} {z : Nat} : ∀ {t : BT} {d : Nat}, t.ok d → t.put w z d = none → ∀ i, ∀ l ∈ t.leaves d i, fitsL z l = false
  | .dot, d, ho, h, i, l, hl => by
    simp only [BT.leaves, List.mem_singleton] at hl
    subst hl
    unfold BT.put at h
    split at h
    · cases h
    · rename_i hz
      unfold fitsL
      simp [hz]
  | .leaf u, d, ho, h, i, l, hl => by
    simp only [BT.leaves, List.mem_singleton] at hl
    subst hl
    unfold fitsL
    dsimp only
    rw [owner_ne (by have := ho.1; have := ho.2.1; omega)]; rfl
  | .node a b, d, ho, h, i, l, hl => by
    unfold BT.put at h
    split at h
    · cases h
    · rename_i ha
      rw [Option.map_eq_none_iff] at h
      simp only [BT.leaves, List.mem_append] at hl
      rcases hl with hl | hl
      · exact put_none (t := a) ho.1 ha _ l hl
      · exact put_none (t := b) ho.2 h _ l hl
/-- what a split does to the text and to the leaves -/
structure PutIs (w : List Nat) (z : Nat) (t t' : BT) (d : Nat) : Prop where
  is : ∃ A B e, t.text = A ++ 46 :: B ∧ t'.text = A ++ (chain w (w.length - e)).text ++ B ∧ d ≤ e ∧ e ≤ 8 ∧ z ≤ 256 / 2 ^ e ∧ t'.ok d ∧
    ∀ i, ∃ pre post, t.leaves d i = pre ++ (("" : Str), 256 / 2 ^ e, i + A.length) :: post ∧ (∀ l ∈ pre, fitsL z l = false) ∧ t'.cells d = pre.map cellOf' ++ (chain w (w.length - e)).cells e ++ post.map cellOf'
theorem put_some {w : List Nat} {z : Nat} (hw : ∀ c ∈ w, c ≠ 40 ∧ c ≠ 41 ∧ c ≠ 46) (h1 : 1 ≤ w.length) (h8 : w.length ≤ 8) (hz : z = 256 / 2 ^ w.length) : ∀ {t t' : BT} {d : Nat}, t.ok d → t.put w z d = some t' → PutIs w z t t' d
  | .dot, t', d, ho, h => by
    unfold BT.put at h
    split at h
    · rename_i hzd
      cases h
      have hd : d ≤ w.length := by
        rcases Nat.lt_or_ge w.length d with hlt | hge
        · exfalso
          have h8' : d ≤ 8 := ho
          rw [hz] at hzd
          have e : ∀ b, b < 9 → ∀ a, a < b → 256 / 2 ^ b < 256 / 2 ^ a := by decide
          have := e d (by omega) w.length hlt
          omega
        · exact hge
      refine ⟨[], [], d, rfl, by simp, Nat.le_refl _, ho, hzd, chain_ok hw h1 h8 (by omega), fun i => ⟨[], [], rfl, fun l hl => (nomatch hl), by simp⟩⟩
    · cases h
  | .leaf u, t', d, ho, h => by cases h
  | .node a b, t', d, ho, h => by
    unfold BT.put at h
    split at h
    · rename_i a' ha
      cases h
      obtain ⟨A, B, e, e1, e2, e3, e4, e5, e6, e7⟩ := (put_some hw h1 h8 hz (t := a) ho.1 ha).is
      refine ⟨40 :: A, B ++ b.text ++ [41], e, by simp [BT.text, e1], by simp [BT.text, e2], by omega, e4, e5, ⟨e6, ho.2⟩, fun i => ?_⟩
      obtain ⟨pre, post, f1, f2, f3⟩ := e7 (i + 1)
      refine ⟨pre, post ++ b.leaves (d + 1) (i + 1 + a.text.length), ?_, f2, ?_⟩
      · simp only [BT.leaves, f1, List.length_cons, List.append_assoc, List.cons_append]
        rw [show i + 1 + A.length = i + (A.length + 1) from by omega]
      · unfold BT.cells at f3 ⊢
        simp only [BT.leaves, List.map_append, BT.cells_at] at f3 ⊢
        rw [f3]; simp
    · rename_i ha
      rw [Option.map_eq_some_iff] at h
      obtain ⟨b', hb, rfl⟩ := h
      obtain ⟨A, B, e, e1, e2, e3, e4, e5, e6, e7⟩ := (put_some hw h1 h8 hz (t := b) ho.2 hb).is
      refine ⟨40 :: (a.text ++ A), B ++ [41], e, by simp [BT.text, e1], by simp [BT.text, e2], by omega, e4, e5, ⟨ho.1, e6⟩, fun i => ?_⟩
      obtain ⟨pre, post, f1, f2, f3⟩ := e7 (i + 1 + a.text.length)
      refine ⟨a.leaves (d + 1) (i + 1) ++ pre, post, ?_, fun l hl => ?_, ?_⟩
      · simp only [BT.leaves, f1, List.length_cons, List.length_append, List.append_assoc]
        rw [show i + 1 + a.text.length + A.length = i + (a.text.length + A.length + 1) from by omega]
      · rcases List.mem_append.mp hl with hl | hl
        · exact put_none ho.1 ha _ l hl
        · exact f2 l hl
      · unfold BT.cells at f3 ⊢
        simp only [BT.leaves, List.map_append, BT.cells_at] at f3 ⊢
        rw [f3]; simp
end Mine
namespace Mine
/-- the cells of a chain: the word, then dots of twice and twice -/
theorem chain_cells {w : List Nat} : ∀ {k d : Nat}, (chain w k).cells d = ((⟨w.toArray⟩ : Str), 256 / 2 ^ (d + k)) :: (List.range k).map fun j => (("" : Str), 256 / 2 ^ (d + k - j))
  | 0, d => by simp [chain, BT.cells, BT.leaves, cellOf']
  | k + 1, d => by
    have ih := chain_cells (w := w) (k := k) (d := d + 1)
    unfold BT.cells at ih ⊢
    simp only [chain, BT.leaves, List.map_append, BT.cells_at]
    unfold BT.cells
    rw [ih, List.range_succ]
    have e : d + 1 + k = d + (k + 1) := by omega
    have e2 : d + (k + 1) - k = d + 1 := by omega
    simp [cellOf', e, e2]
theorem doubles_range : ∀ n, n < 9 → ∀ e, e ≤ n → doubles 9 (256 / 2 ^ n) (256 / 2 ^ e) = (List.range (n - e)).map fun j => 256 / 2 ^ (n - j) := by decide +kernel
theorem find_at {α : Type} {p : α → Bool} : ∀ {pre : List α} {x : α} {post : List α}, (∀ l ∈ pre, p l = false) → p x = true → (pre ++ x :: post).findIdx? p = some pre.length
  | [], x, post, _, h => by simp [List.findIdx?_cons, h]
  | a :: pre, x, post, h, hx => by
    have := find_at (pre := pre) (x := x) (post := post) (fun l hl => h l (.tail _ hl)) hx
    rw [List.cons_append, List.findIdx?_cons, h a (.head _), this]; simp
theorem fits_cell {z : Nat} {l : Leaf} : fits z (cellOf' l) = fitsL z l := rfl
theorem fit_put {w : List Nat} {z : Nat} {t t' : BT} {d : Nat} (h8 : w.length ≤ 8) (hz : z = 256 / 2 ^ w.length) (h : PutIs w z t t' d) (hd : ∀ e, e ≤ 8 → z ≤ 256 / 2 ^ e → e ≤ w.length) : firstFit (t.cells d) ⟨w.toArray⟩ z = t'.cells d := by
  obtain ⟨A, B, e, e1, e2, e3, e4, e5, e6, e7⟩ := h.is
  obtain ⟨pre, post, f1, f2, f3⟩ := e7 0
  have hc : t.cells d = pre.map cellOf' ++ (("" : Str), 256 / 2 ^ e) :: post.map cellOf' := by
    unfold BT.cells; rw [f1, List.map_append]; rfl
  have hew := hd e e4 e5
  have hfit : fits z (("" : Str), 256 / 2 ^ e) = true := by unfold fits; simp [e5]
  have hf := find_at (p := fits z) (pre := pre.map cellOf') (x := (("" : Str), 256 / 2 ^ e)) (post := post.map cellOf') (fun l hl => by
    obtain ⟨l', h1, rfl⟩ := List.mem_map.mp hl
    exact f2 l' h1) hfit
  unfold firstFit
  rw [hc, hf]
  dsimp only
  rw [f3, chain_cells]
  have e8 : e + (w.length - e) = w.length := by omega
  rw [e8, ← hz]
  have hget : (pre.map cellOf' ++ (("" : Str), 256 / 2 ^ e) :: post.map cellOf').getD (pre.map cellOf').length (("" : Str), 0) = (("" : Str), 256 / 2 ^ e) := by
    rw [List.getD_eq_getElem?_getD, List.getElem?_append_right (Nat.le_refl _)]; simp
  rw [hget]
  dsimp only
  rw [hz, doubles_range _ (by omega) _ hew]
  have hdrop : (pre.map cellOf' ++ (("" : Str), 256 / 2 ^ e) :: post.map cellOf').drop ((pre.map cellOf').length + 1) = post.map cellOf' := by
    rw [show pre.map cellOf' ++ (("" : Str), 256 / 2 ^ e) :: post.map cellOf' = (pre.map cellOf' ++ [(("" : Str), 256 / 2 ^ e)]) ++ post.map cellOf' from by simp]
    exact List.drop_left' (by simp)
  rw [hdrop]
  simp
end Mine
namespace Mine
/-! sets of powers of two -/
noncomputable def pows : List Nat := [1, 2, 4, 8, 16, 32, 64, 128, 256]
noncomputable def subs : List Nat → List (List Nat)
  | [] => [[]]
  | a :: l => subs l ++ (subs l).map (a :: ·)
theorem filter_subs {p : Nat → Bool} : ∀ {l : List Nat}, l.filter p ∈ subs l
  | [] => by simp [subs]
  | a :: l => by
    have ih := filter_subs (p := p) (l := l)
    unfold subs
    rw [List.mem_append]
    cases h : p a with
    | false => rw [List.filter_cons_of_neg (by rw [h]; decide)]; exact .inl ih
    | true => rw [List.filter_cons_of_pos h]; exact .inr (List.mem_map.mpr ⟨_, ih, rfl⟩)
theorem pows_asc : pows.Pairwise (· < ·) := by decide
theorem asc_subs {l : List Nat} (h : l.Pairwise (· < ·)) (hp : ∀ x ∈ l, x ∈ pows) : l ∈ subs pows := by
  have e : l = pows.filter (fun x => decide (x ∈ l)) := by
    refine List.Perm.eq_of_pairwise (le := (· < ·)) (fun a b _ _ h1 h2 => absurd (Nat.lt_trans h1 h2) (Nat.lt_irrefl _)) h (pows_asc.filter _) ?_
    refine (List.perm_ext_iff_of_nodup (h.imp fun h e => absurd (e ▸ h) (Nat.lt_irrefl _)) ((pows_asc.filter _).imp fun h e => absurd (e ▸ h) (Nat.lt_irrefl _))).mpr fun a => ?_
    rw [List.mem_filter]
    exact ⟨fun ha => ⟨hp a ha, decide_eq_true ha⟩, fun ha => of_decide_eq_true ha.2⟩
  rw [e]
  exact filter_subs
theorem subs_bits : (subs pows).all (fun l => bitsOf l.sum == l && decide (l.length ≤ 9) && (decide (l.sum = 0) == l.isEmpty)) = true := by decide +kernel
theorem subs_small : (subs pows).all (fun l => pows.all fun z => !(l.all fun x => decide (x < z)) || decide (l.sum < z)) = true := by decide +kernel
theorem bits_sum {l : List Nat} (h : l ∈ subs pows) : bitsOf l.sum = l ∧ l.length ≤ 9 ∧ (l.sum = 0 ↔ l = []) := by
  have := List.all_eq_true.mp subs_bits l h
  simp only [Bool.and_eq_true, beq_iff_eq, decide_eq_true_eq] at this
  obtain ⟨⟨h1, h2⟩, h3⟩ := this
  refine ⟨h1, h2, ?_⟩
  cases l with
  | nil => simp
  | cons a l =>
    simp at h3
    simp only [List.sum_cons, Nat.add_eq_zero_iff, reduceCtorEq, iff_false, not_and]
    exact h3
theorem small_sum {l : List Nat} {z : Nat} (h : l ∈ subs pows) (hz : z ∈ pows) (hl : ∀ x ∈ l, x < z) : l.sum < z := by
  have := List.all_eq_true.mp (List.all_eq_true.mp subs_small l h) z hz
  rw [List.all_eq_true.mpr fun x hx => decide_eq_true (hl x hx)] at this
  simpa using this
theorem pow_mem : ∀ e, e < 9 → 256 / 2 ^ e ∈ pows := by decide
/-- the free sizes that a split leaves -/
noncomputable def chainZ (n e : Nat) : List Nat := (List.range (n - e)).map fun j => 256 / 2 ^ (n - j)
theorem chainZ_facts : ∀ n, n < 9 → ∀ e, e ≤ n → (chainZ n e).Pairwise (· < ·) ∧ (∀ x ∈ chainZ n e, x ∈ pows ∧ 256 / 2 ^ n ≤ x ∧ x < 256 / 2 ^ e) ∧ (chainZ n e).sum + 256 / 2 ^ n = 256 / 2 ^ e := by decide +kernel
end Mine
namespace Mine
noncomputable def dzC (cs : List Cell) : List Nat := (cs.filter fun c => c.1 == ("" : Str)).map (·.2)
theorem dzC_append {a b : List Cell} : dzC (a ++ b) = dzC a ++ dzC b := by unfold dzC; rw [List.filter_append, List.map_append]
/-- what holds between the law's turns -/
structure Inv (k : Nat) (s : LawS) (t : BT) : Prop where
  ok : t.ok 0
  mem : s.1 = ⟨t.text.toArray⟩
  cells : s.2.1 = t.cells 0
  asc : (dzC (t.cells 0)).Pairwise (· < ·)
  pw : ∀ x ∈ dzC (t.cells 0), x ∈ pows
  sum : s.2.2 + (dzC (t.cells 0)).sum = 256
  len : t.text.length ≤ 1 + 40 * k
  tidy : ∀ c ∈ t.text, c ≤ 122 ∧ c ≠ 34
theorem text_pos : ∀ {t : BT} {d : Nat}, t.ok d → 1 ≤ t.text.length
  | .dot, _, _ => by simp [BT.text]
  | .leaf w, _, h => by rw [show (BT.leaf w).text = w.flatMap fun c => [92, c] from rfl, text_leaf]; have := h.1; have := h.2.1; omega
  | .node l r, _, _ => by simp [BT.text]
theorem leaf_place : ∀ {t : BT} {d i : Nat}, t.ok d → ∀ l ∈ t.leaves d i, l.2.2 < i + t.text.length
  | .dot, d, i, h, l, hl => by
    simp only [BT.leaves, List.mem_singleton] at hl
    subst hl
    simp [BT.text]
  | .leaf w, d, i, h, l, hl => by
    simp only [BT.leaves, List.mem_singleton] at hl
    subst hl
    rw [show (BT.leaf w).text = w.flatMap fun c => [92, c] from rfl, text_leaf]
    have := h.1; have := h.2.1
    dsimp only
    omega
  | .node a b, d, i, h, l, hl => by
    simp only [BT.leaves, List.mem_append] at hl
    have e : (BT.node a b).text.length = a.text.length + b.text.length + 2 := by simp [BT.text]; omega
    rcases hl with hl | hl
    · have := leaf_place (t := a) h.1 l hl; omega
    · have := leaf_place (t := b) h.2 l hl; omega
theorem leaf_size : ∀ {t : BT} {d i : Nat}, t.ok d → ∀ l ∈ t.leaves d i, l.2.1 ∈ pows
  | .dot, d, i, h, l, hl => by
    simp only [BT.leaves, List.mem_singleton] at hl
    subst hl
    exact pow_mem d (Nat.lt_succ_of_le h)
  | .leaf w, d, i, h, l, hl => by
    simp only [BT.leaves, List.mem_singleton] at hl
    subst hl
    exact pow_mem d (Nat.lt_succ_of_le h.2.2.1)
  | .node a b, d, i, h, l, hl => by
    simp only [BT.leaves, List.mem_append] at hl
    rcases hl with hl | hl
    · exact leaf_size (t := a) h.1 l hl
    · exact leaf_size (t := b) h.2 l hl
theorem leaf_count : ∀ {t : BT} {d i : Nat}, t.ok d → (t.leaves d i).length ≤ t.text.length
  | .dot, d, i, h => by simp [BT.leaves, BT.text]
  | .leaf w, d, i, h => by have := text_pos (t := .leaf w) h; simpa [BT.leaves] using this
  | .node a b, d, i, h => by
    have e : (BT.node a b).text.length = a.text.length + b.text.length + 2 := by simp [BT.text]; omega
    have h1 := leaf_count (t := a) (i := i + 1) h.1
    have h2 := leaf_count (t := b) (i := i + 1 + a.text.length) h.2
    simp only [BT.leaves, List.length_append]
    omega
theorem leaf_owner : ∀ {t : BT} {d i : Nat}, ∀ l ∈ t.leaves d i, ∀ c ∈ l.1.cps.toList, c ∈ t.text
  | .dot, d, i, l, hl, c, hc => by
    simp only [BT.leaves, List.mem_singleton] at hl
    subst hl
    rw [show ("" : Str).cps.toList = [] from by decide +kernel] at hc; cases hc
  | .leaf w, d, i, l, hl, c, hc => by
    simp only [BT.leaves, List.mem_singleton] at hl
    subst hl
    show c ∈ w.flatMap fun c => [92, c]
    exact List.mem_flatMap.mpr ⟨c, by simpa using hc, by simp⟩
  | .node a b, d, i, l, hl, c, hc => by
    simp only [BT.leaves, List.mem_append] at hl
    show c ∈ 40 :: (a.text ++ b.text ++ [41])
    rcases hl with hl | hl
    · have := leaf_owner (t := a) l hl c hc; simp [this]
    · have := leaf_owner (t := b) l hl c hc; simp [this]
theorem pows_le {x : Nat} (h : x ∈ pows) : 1 ≤ x ∧ x ≤ 256 := by
  have : ∀ x ∈ pows, 1 ≤ x ∧ x ≤ 256 := by decide
  exact this x h
section
variable {k : Nat} {s : LawS} {t : BT}
theorem Inv.short (I : Inv k s t) (hk : k ≤ 20) : s.1.length ≤ 900 := by
  rw [I.mem, strN]; have := I.len; omega
theorem Inv.list (I : Inv k s t) : s.1.cps.toList = t.text := by rw [I.mem]
theorem Inv.toks (I : Inv k s t) : Mine.toks s.1.cps.toList 0 false = t.toks 0 := by
  have := BT.toks_text (t := t) (i := 0) (rest := [])
  rw [List.append_nil] at this
  rw [I.list, this]
  simp [Mine.toks]
theorem Inv.leaves (I : Inv k s t) : leavesOf s.1 = t.leaves 0 0 := by
  unfold leavesOf
  have := BT.fold (t := t) (d := 0) (i := 0) (ls := []) I.ok
  rw [I.toks]
  have e : ((0 : Int), ("" : Str), ([] : List Leaf)) = (((0 : Nat) : Int), ("" : Str), ([] : List Leaf)) := rfl
  rw [e, this]
  simp
theorem Inv.whole (I : Inv k s t) : Mine.whole s.1.cps.toList false = true := by
  have := BT.whole_text (t := t) (rest := [])
  rw [List.append_nil] at this
  rw [I.list, this]; rfl
theorem Inv.reads (I : Inv k s t) (hk : k ≤ 20) : Reads' s.1 := by
  refine ⟨I.short hk, I.whole, fun pre post e => ?_⟩
  rw [I.toks] at e
  have hc := leaf_count (t := t) (i := 0) I.ok
  have hl := I.len
  exact BT.stages (t := t) (d := 0) (i := 0) (ls := []) I.ok (by simp; omega) pre post e
theorem Inv.place (I : Inv k s t) (hk : k ≤ 20) : ∀ l ∈ t.leaves 0 0, l.2.2 < 1000 ∧ l.2.2 < s.1.length := fun l hl => by
  have h1 := leaf_place I.ok l hl
  have h2 := I.len
  rw [I.mem, strN]
  omega
theorem dots_of {ls : List Leaf} (h : ∀ l ∈ ls, l.2.2 < 1000) : (((ls.filter fun l => l.1 == ("" : Str)).map fun l => l.2.1 * 1000 + l.2.2).map (· / 1000)) = dzC (ls.map cellOf') := by
  induction ls with
  | nil => rfl
  | cons l ls ih =>
    have ih := ih fun l hl => h l (.tail _ hl)
    have hl := h l (.head _)
    unfold dzC at ih ⊢
    rw [List.map_cons]
    cases e : (l.1 == ("" : Str)) with
    | false =>
      rw [List.filter_cons_of_neg (by rw [e]; decide), List.filter_cons_of_neg (by show ¬ ((cellOf' l).1 == ("" : Str)) = true; rw [show (cellOf' l).1 = l.1 from rfl, e]; decide)]
      exact ih
    | true =>
      rw [List.filter_cons_of_pos (p := fun l : Leaf => l.1 == ("" : Str)) e, List.filter_cons_of_pos (p := fun c : Cell => c.1 == ("" : Str)) (a := cellOf' l) e, List.map_cons, List.map_cons, List.map_cons, ih]
      congr 1
      show (l.2.1 * 1000 + l.2.2) / 1000 = l.2.1
      omega
theorem Inv.sizes (I : Inv k s t) (hk : k ≤ 20) : (dotsOf s.1).map (· / 1000) = dzC (t.cells 0) := by
  unfold dotsOf
  rw [I.leaves, dots_of fun l hl => (I.place hk l hl).1]
  rfl
theorem Inv.sub (I : Inv k s t) : dzC (t.cells 0) ∈ subs pows := asc_subs I.asc I.pw
theorem Inv.dot (I : Inv k s t) (hk : k ≤ 20) : ∀ d ∈ dotsOf s.1, d / 1000 ∈ pows ∧ d % 1000 < s.1.length := fun d hd => by
  unfold dotsOf at hd
  rw [I.leaves] at hd
  obtain ⟨l, hl, rfl⟩ := List.mem_map.mp hd
  have hl' := (List.mem_filter.mp hl).1
  have h1 := I.place hk l hl'
  have h2 := leaf_size I.ok l hl'
  have e1 : (l.2.1 * 1000 + l.2.2) / 1000 = l.2.1 := by omega
  have e2 : (l.2.1 * 1000 + l.2.2) % 1000 = l.2.2 := by omega
  rw [e1, e2]
  exact ⟨h2, h1.2⟩
theorem asc_by {D : List Nat} (h : (D.map (· / 1000)).Pairwise (· < ·)) : D.Pairwise fun a b => a / 1000 < b / 1000 := List.pairwise_map.mp h
theorem Inv.ascD (I : Inv k s t) (hk : k ≤ 20) : (dotsOf s.1).Pairwise fun a b => a / 1000 < b / 1000 := asc_by (by rw [I.sizes hk]; exact I.asc)
end
end Mine
namespace Mine
theorem half_pow {e : Nat} : 256 / 2 ^ e / 2 = 256 / 2 ^ (e + 1) := by rw [Nat.div_div_eq_div_mul, Nat.pow_succ]
theorem pow_lt : ∀ n, n < 9 → ∀ e, e < n → 256 / 2 ^ n < 256 / 2 ^ e := by decide
theorem pow_le_of : ∀ n, n < 9 → ∀ e, e < 9 → 256 / 2 ^ n ≤ 256 / 2 ^ e → e ≤ n := by decide
theorem wrap_chain {w : List Nat} {n : Nat} (hn : n < 9) : ∀ {m f e j : Nat}, m = n - e → e ≤ n → m ≤ f → wrapT f (256 / 2 ^ e) (256 / 2 ^ n) ⟨(chain w j).text.toArray⟩ = (⟨(chain w (j + m)).text.toArray⟩ : Str)
  | 0, f, e, j, h, he, hf => by
    obtain rfl : e = n := by omega
    rw [wrap_stop (Nat.lt_irrefl _)]; rfl
  | m + 1, 0, e, j, h, he, hf => by omega
  | m + 1, f + 1, e, j, h, he, hf => by
    rw [wrap_step (pow_lt n hn e (by omega)), half_pow]
    have e1 : (("(" : Str) ++ ⟨(chain w j).text.toArray⟩ ++ ".)" : Str) = ⟨(chain w (j + 1)).text.toArray⟩ := by
      apply str_ext
      rw [str_app, str_app]
      have h1 : ("(" : Str).cps.toList = [40] := by decide +kernel
      have h2 : (".)" : Str).cps.toList = [46, 41] := by decide +kernel
      rw [h1, h2]
      simp [chain, BT.text]
    rw [e1, wrap_chain hn (m := m) (by omega) (by omega) (by omega)]
    rw [show j + 1 + m = j + (m + 1) from by omega]
theorem findIdx_at {α : Type} {p : α → Bool} : ∀ {pre : List α} {x : α} {post : List α}, (∀ l ∈ pre, p l = false) → p x = true → (pre ++ x :: post).findIdx p = pre.length
  | [], x, post, _, h => by simp [List.findIdx_cons, h]
  | a :: pre, x, post, h, hx => by
    have := findIdx_at (pre := pre) (x := x) (post := post) (fun l hl => h l (.tail _ hl)) hx
    rw [List.cons_append, List.findIdx_cons, h a (.head _), this]; simp
theorem findIdx_out {α : Type} {p : α → Bool} : ∀ {l : List α}, (∀ x ∈ l, p x = false) → l.findIdx p = l.length
  | [], _ => rfl
  | a :: l, h => by
    rw [List.findIdx_cons, h a (.head _), findIdx_out fun x hx => h x (.tail _ hx)]; simp
/-- the dots of a list of leaves -/
noncomputable def dotsL (ls : List Leaf) : List Nat := (ls.filter fun l => l.1 == ("" : Str)).map fun l => l.2.1 * 1000 + l.2.2
theorem dotsL_append {a b : List Leaf} : dotsL (a ++ b) = dotsL a ++ dotsL b := by unfold dotsL; rw [List.filter_append, List.map_append]
theorem dotsL_dot {z i : Nat} {ls : List Leaf} : dotsL ((("" : Str), z, i) :: ls) = (z * 1000 + i) :: dotsL ls := by
  unfold dotsL
  rw [List.filter_cons_of_pos (p := fun l : Leaf => l.1 == ("" : Str)) (by exact beq_self_eq_true _), List.map_cons]
theorem dots_small {z : Nat} {ls : List Leaf} (hp : ∀ l ∈ ls, l.2.2 < 1000) (h : ∀ l ∈ ls, fitsL z l = false) : ∀ d ∈ dotsL ls, decide (z ≤ d / 1000) = false := fun d hd => by
  obtain ⟨l, hl, rfl⟩ := List.mem_map.mp hd
  obtain ⟨h1, h2⟩ := List.mem_filter.mp hl
  have h3 := h l h1
  have h4 := hp l h1
  unfold fitsL at h3
  rw [h2, Bool.true_and] at h3
  rw [show (l.2.1 * 1000 + l.2.2) / 1000 = l.2.1 from by omega]
  exact h3
theorem chain_len {w : List Nat} : ∀ {k : Nat}, (chain w k).text.length = 2 * w.length + 3 * k
  | 0 => by rw [show (chain w 0).text = w.flatMap fun c => [92, c] from rfl, text_leaf]; omega
  | k + 1 => by
    have := chain_len (w := w) (k := k)
    have e : (chain w (k + 1)).text = 40 :: ((chain w k).text ++ [46] ++ [41]) := rfl
    rw [e]; simp; omega
theorem chain_tidy {w : List Nat} (hw : ∀ c ∈ w, 97 ≤ c ∧ c ≤ 122) : ∀ {k : Nat}, ∀ c ∈ (chain w k).text, c ≤ 122 ∧ c ≠ 34
  | 0, c, hc => by
    rw [show (chain w 0).text = w.flatMap fun c => [92, c] from rfl, List.mem_flatMap] at hc
    obtain ⟨a, ha, hc⟩ := hc
    have := hw a ha
    simp at hc
    omega
  | k + 1, c, hc => by
    have e : (chain w (k + 1)).text = 40 :: ((chain w k).text ++ [46] ++ [41]) := rfl
    rw [e] at hc
    simp at hc
    rcases hc with rfl | hc | rfl | rfl
    · decide
    · exact chain_tidy hw (k := k) c hc
    · decide
    · decide
theorem dzC_chain {w : List Nat} {n e : Nat} (hn : w.length = n) (h1 : 1 ≤ n) (he : e ≤ n) : dzC ((chain w (n - e)).cells e) = chainZ n e := by
  rw [chain_cells, show e + (n - e) = n from by omega]
  unfold dzC
  rw [List.filter_cons_of_neg (by show ¬ ((⟨w.toArray⟩ : Str) == ("" : Str)) = true; rw [owner_ne (by omega)]; decide)]
  rw [List.filter_eq_self.mpr fun c hc => ?_, List.map_map]
  · rfl
  · obtain ⟨j, _, rfl⟩ := List.mem_map.mp hc
    exact beq_self_eq_true _
end Mine
namespace Mine
/-- what the law's words are -/
structure Wd (w : Str) : Prop where
  pos : 1 ≤ w.length
  le : w.length ≤ 8
  low : ∀ c ∈ w.cps.toList, 97 ≤ c ∧ c ≤ 122
section
variable {k : Nat} {s : LawS} {t t' : BT} {w : Str}
theorem Wd.list (h : Wd w) : w.cps.toList.length = w.length := by simp [Str.length]
theorem Wd.signs (h : Wd w) : ∀ c ∈ w.cps.toList, c ≠ 40 ∧ c ≠ 41 ∧ c ≠ 46 := fun c hc => by have := h.low c hc; omega
theorem w_eq : w = ⟨w.cps.toList.toArray⟩ := by simp
theorem size_eq (h : Wd w) : sizeOf' w = 256 / 2 ^ w.cps.toList.length := by unfold sizeOf'; rw [h.list]
theorem Inv.dots (I : Inv k s t) : dotsOf s.1 = dotsL (t.leaves 0 0) := by unfold dotsOf; rw [I.leaves]; rfl
/-- a word that finds its block -/
theorem turn_some (I : Inv k s t) (hk : k ≤ 20) (hw : Wd w) (hput : t.put w.cps.toList (sizeOf' w) 0 = some t') :
    Inv (k + 1) (lawTurn s w) t' ∧ (lawTurn s w).2.1 = t'.cells 0 ∧ spotOf s.1 (sizeOf' w) < (dotsOf s.1).length ∧ s.2.2 + sizeOf' w ≤ 256 := by
  have hn : w.cps.toList.length < 9 := by rw [hw.list]; have := hw.le; omega
  have h1 : 1 ≤ w.cps.toList.length := by rw [hw.list]; exact hw.pos
  have hz := size_eq hw
  have PI := put_some hw.signs h1 (by omega) hz I.ok hput
  have fp := fit_put (d := 0) (by omega) hz PI (fun e he hle => pow_le_of _ hn e (by omega) (hz ▸ hle))
  obtain ⟨A, B, e, e1, e2, e3, e4, e5, e6, e7⟩ := PI.is
  obtain ⟨pre, post, f1, f2, f3⟩ := e7 0
  have hen : e ≤ w.cps.toList.length := pow_le_of _ hn e (by omega) (hz ▸ e5)
  rw [Nat.zero_add] at f1
  have hplace : ∀ l ∈ t.leaves 0 0, l.2.2 < 1000 := fun l hl => (I.place hk l hl).1
  have hA : A.length < 1000 := by have := hplace (("" : Str), 256 / 2 ^ e, A.length) (by rw [f1]; simp); exact this
  have hD : dotsOf s.1 = dotsL pre ++ (256 / 2 ^ e * 1000 + A.length) :: dotsL post := by rw [I.dots, f1, dotsL_append, dotsL_dot]
  have hs : spotOf s.1 (sizeOf' w) = (dotsL pre).length := by
    unfold spotOf
    rw [hD]
    refine findIdx_at (dots_small (fun l hl => hplace l (by rw [f1]; simp [hl])) f2) ?_
    rw [show (256 / 2 ^ e * 1000 + A.length) / 1000 = 256 / 2 ^ e from by omega]
    exact decide_eq_true e5
  have hget : (dotsOf s.1)[spotOf s.1 (sizeOf' w)]? = some (256 / 2 ^ e * 1000 + A.length) := by
    rw [hs, hD, List.getElem?_append_right (Nat.le_refl _)]; simp
  have hm : s.1.cps.toList = A ++ 46 :: B := by rw [I.list, e1]
  have hff : firstFit s.2.1 w (sizeOf' w) = t'.cells 0 := by
    rw [I.cells]
    have := fp
    rw [← w_eq] at this
    exact this
  have hturn : lawTurn s w = ((⟨t'.text.toArray⟩ : Str), t'.cells 0, s.2.2 + sizeOf' w) := by
    unfold lawTurn
    dsimp only
    rw [hget]
    dsimp only
    rw [hff]
    congr 1
    apply str_ext
    rw [str_app, str_app, show (256 / 2 ^ e * 1000 + A.length) / 1000 = 256 / 2 ^ e from by omega, show (256 / 2 ^ e * 1000 + A.length) % 1000 = A.length from by omega]
    have hwr : wrapT 9 (256 / 2 ^ e) (sizeOf' w) (escOf w) = ⟨(chain w.cps.toList (w.cps.toList.length - e)).text.toArray⟩ := by
      have := wrap_chain (w := w.cps.toList) (n := w.cps.toList.length) hn (m := w.cps.toList.length - e) (f := 9) (e := e) (j := 0) rfl hen (by omega)
      rw [Nat.zero_add] at this
      rw [hz]
      exact this
    rw [hwr]
    unfold takeS dropS
    rw [hm, e2]
    have hdrop : (A ++ 46 :: B).drop (A.length + 1) = B := by
      rw [show A ++ 46 :: B = (A ++ [46]) ++ B from by simp]
      exact List.drop_left' (by simp)
    rw [hdrop, List.take_left' rfl]
  have dz : dzC (t.cells 0) = dzC (pre.map cellOf') ++ (256 / 2 ^ e) :: dzC (post.map cellOf') := by
    unfold BT.cells
    rw [f1, List.map_append, List.map_cons, dzC_append]
    congr 1
  have dz' : dzC (t'.cells 0) = dzC (pre.map cellOf') ++ (chainZ w.cps.toList.length e ++ dzC (post.map cellOf')) := by
    rw [f3, dzC_append, dzC_append, dzC_chain rfl h1 hen, List.append_assoc]
  obtain ⟨c1, c2, c3⟩ := chainZ_facts _ hn e hen
  have hasc := I.asc
  have hpw := I.pw
  have hsum := I.sum
  rw [dz] at hasc hpw hsum
  obtain ⟨a1, a2, a3⟩ := List.pairwise_append.mp hasc
  obtain ⟨a4, a5⟩ := List.pairwise_cons.mp a2
  have hpre : ∀ x ∈ dzC (pre.map cellOf'), x < sizeOf' w := fun x hx => by
    unfold dzC at hx
    obtain ⟨c, hc, rfl⟩ := List.mem_map.mp hx
    obtain ⟨hc1, hc2⟩ := List.mem_filter.mp hc
    obtain ⟨l, hl, rfl⟩ := List.mem_map.mp hc1
    have h3 := f2 l hl
    unfold fitsL at h3
    rw [show (l.1 == ("" : Str)) = true from hc2, Bool.true_and] at h3
    have := of_decide_eq_false h3
    show l.2.1 < _
    omega
  have hsum2 : (dzC (pre.map cellOf')).sum + (256 / 2 ^ e + (dzC (post.map cellOf')).sum) + s.2.2 = 256 := by
    rw [List.sum_append, List.sum_cons] at hsum; omega
  rw [← hz] at c3 c2
  have hg : s.2.2 + sizeOf' w ≤ 256 := by omega
  rw [hturn]
  refine ⟨⟨e6, rfl, rfl, ?_, ?_, ?_, ?_, ?_⟩, rfl, by rw [hs, hD]; simp, hg⟩
  · rw [dz']
    refine List.pairwise_append.mpr ⟨a1, List.pairwise_append.mpr ⟨c1, a5, fun x hx y hy => Nat.lt_trans (c2 x hx).2.2 (a4 y hy)⟩, fun x hx y hy => ?_⟩
    rcases List.mem_append.mp hy with hy | hy
    · exact Nat.lt_of_lt_of_le (hpre x hx) (c2 y hy).2.1
    · exact a3 x hx y (.tail _ hy)
  · rw [dz']
    intro x hx
    rcases List.mem_append.mp hx with hx | hx
    · exact hpw x (List.mem_append_left _ hx)
    · rcases List.mem_append.mp hx with hx | hx
      · exact (c2 x hx).1
      · exact hpw x (List.mem_append_right _ (.tail _ hx))
  · rw [dz', List.sum_append, List.sum_append]
    show s.2.2 + sizeOf' w + _ = 256
    omega
  · rw [e2, List.length_append, List.length_append, chain_len]
    have := I.len
    rw [e1, List.length_append, List.length_cons] at this
    omega
  · intro c hc
    rw [e2] at hc
    have ht := I.tidy
    rw [e1] at ht
    rcases List.mem_append.mp hc with hc | hc
    · rcases List.mem_append.mp hc with hc | hc
      · exact ht c (List.mem_append_left _ hc)
      · exact chain_tidy hw.low c hc
    · exact ht c (List.mem_append_right _ (.tail _ hc))
/-- a word that finds none -/
theorem turn_none (I : Inv k s t) (hk : k ≤ 20) (hw : Wd w) (hput : t.put w.cps.toList (sizeOf' w) 0 = none) :
    Inv (k + 1) (lawTurn s w) t ∧ (lawTurn s w).2.1 = t.cells 0 ∧ spotOf s.1 (sizeOf' w) = (dotsOf s.1).length ∧ 256 < s.2.2 + sizeOf' w := by
  have hn : w.cps.toList.length < 9 := by rw [hw.list]; have := hw.le; omega
  have hz := size_eq hw
  have hno := put_none I.ok hput 0
  have hs : spotOf s.1 (sizeOf' w) = (dotsOf s.1).length := by
    unfold spotOf
    rw [I.dots]
    exact findIdx_out (dots_small (fun l hl => (I.place hk l hl).1) hno)
  have hff : firstFit s.2.1 w (sizeOf' w) = t.cells 0 := by
    rw [I.cells]
    unfold firstFit
    have : (t.cells 0).findIdx? (fits (sizeOf' w)) = none := by
      rw [List.findIdx?_eq_none_iff]
      intro c hc
      obtain ⟨l, hl, rfl⟩ := List.mem_map.mp hc
      exact hno l hl
    rw [this]
  have hturn : lawTurn s w = (s.1, t.cells 0, s.2.2) := by
    unfold lawTurn
    dsimp only
    rw [hs, List.getElem?_eq_none (Nat.le_refl _)]
    dsimp only
    rw [hff]
  have hlt : (dzC (t.cells 0)).sum < sizeOf' w := by
    refine small_sum I.sub (hz ▸ pow_mem _ hn) fun x hx => ?_
    unfold dzC at hx
    obtain ⟨c, hc, rfl⟩ := List.mem_map.mp hx
    obtain ⟨hc1, hc2⟩ := List.mem_filter.mp hc
    obtain ⟨l, hl, rfl⟩ := List.mem_map.mp hc1
    have h3 := hno l hl
    unfold fitsL at h3
    rw [show (l.1 == ("" : Str)) = true from hc2, Bool.true_and] at h3
    have := of_decide_eq_false h3
    show l.2.1 < _
    omega
  have hsum := I.sum
  rw [hturn]
  exact ⟨⟨I.ok, I.mem, rfl, I.asc, I.pw, I.sum, by have := I.len; omega, I.tidy⟩, rfl, hs, by omega⟩
end
end Mine
namespace Mine
theorem cut_mono {p : Nat → Bool} : ∀ {D : List Nat}, D.Pairwise (fun a b => p a = true → p b = true) → ∀ i d, D[i]? = some d → (p d = false ↔ i < D.findIdx p)
  | [], _, i, d, h => by simp at h
  | a :: D, hD, i, d, h => by
    obtain ⟨h1, h2⟩ := List.pairwise_cons.mp hD
    rw [List.findIdx_cons]
    cases ha : p a with
    | true =>
      have : p d = true := by
        cases i with
        | zero => simp at h; subst h; exact ha
        | succ i => exact h1 d (List.mem_of_getElem? (by simpa using h)) ha
      simp [this]
    | false =>
      cases i with
      | zero => simp at h; subst h; simp [ha]
      | succ i =>
        have := cut_mono h2 i d (by simpa using h)
        simp only [cond_false]
        rw [this]
        omega
theorem cells_ok {t : BT} {d : Nat} (h : ∀ c ∈ t.text, c ≤ 122) : PV.ok 9 (cellsV (t.cells d)) = true := by
  show PV.oks 8 ((t.cells d).map cellV) = true
  have : ∀ c ∈ t.cells d, PyData.strOk c.1 = true := fun c hc => by
    obtain ⟨l, hl, rfl⟩ := List.mem_map.mp hc
    unfold PyData.strOk
    rw [Array.all_eq_true']
    intro x hx
    have := h x (leaf_owner l hl x (by simpa [cellOf'] using hx))
    simp; omega
  revert this
  generalize t.cells d = cs
  intro this
  induction cs with
  | nil => rfl
  | cons c cs ih =>
    have h1 := this c (.head _)
    have ih := ih fun x hx => this x (.tail _ hx)
    simp only [List.map_cons, cellV, PV.oks, PV.ok, h1, Bool.and_self, Bool.true_and]
    exact ih
section
variable {k : Nat} {s : LawS} {t : BT} {w : Str}
theorem turn_ok (I : Inv k s t) (hk : k ≤ 19) (hw : Wd w) : OkTurn s w ∧ ∃ t', Inv (k + 1) (lawTurn s w) t' := by
  have hk' : k ≤ 20 := by omega
  obtain ⟨t', I', hc, hgot⟩ : ∃ t', Inv (k + 1) (lawTurn s w) t' ∧ (lawTurn s w).2.1 = t'.cells 0 ∧ (spotOf s.1 (sizeOf' w) < (dotsOf s.1).length ↔ s.2.2 + sizeOf' w ≤ 256) := by
    cases hp : t.put w.cps.toList (sizeOf' w) 0 with
    | some t' =>
      obtain ⟨a, b, c, d⟩ := turn_some I hk' hw hp
      exact ⟨t', a, b, iff_of_true c d⟩
    | none =>
      obtain ⟨a, b, c, d⟩ := turn_none I hk' hw hp
      exact ⟨t, a, b, iff_of_false (by rw [c]; exact Nat.lt_irrefl _) (by omega)⟩
  have hsz := I.sizes hk'
  have hsum := I.sum
  obtain ⟨b1, b2, b3⟩ := bits_sum I.sub
  have hlen : (dotsOf s.1).length = (dzC (t.cells 0)).length := by rw [← hsz, List.length_map]
  have hdot := I.dot hk'
  have hblk : ∀ d ∈ dotsOf s.1, d / 1000 ≤ 256 := fun d hd => (pows_le (hdot d hd).1).2
  refine ⟨⟨I.reads hk', I'.reads (by omega), ⟨hw.pos, hw.le⟩, ?_, ?_, fun d hd => ⟨by have := hblk d hd; omega, (hdot d hd).2⟩, by rw [hlen]; exact b2, ?_, ?_, by omega, hgot, ?_, ?_, ?_, ?_, hblk⟩, t', I'⟩
  · unfold PyData.strOk
    rw [Array.all_eq_true']
    intro c hc'
    have := hw.low c (by simpa using hc')
    simp; omega
  · exact (I.ascD hk').imp fun h => by omega
  · rw [hsz, ← b1]
    congr 1
    omega
  · intro i d h
    have := cut_mono (p := fun d => decide (sizeOf' w ≤ d / 1000)) ((I.ascD hk').imp fun h h' => decide_eq_true (by have := of_decide_eq_true h'; omega)) i d h
    rw [show spotOf s.1 (sizeOf' w) = (dotsOf s.1).findIdx (fun d => decide (sizeOf' w ≤ d / 1000)) from rfl, ← this]
    simp
  · constructor
    · intro h
      rw [h] at hsz
      have : dzC (t.cells 0) = [] := hsz.symm
      rw [b3.mpr this] at hsum
      omega
    · intro h
      have h0 : dzC (t.cells 0) = [] := b3.mp (by omega)
      rw [h0] at hlen
      exact List.length_eq_zero_iff.mp hlen
  · rw [I.cells]
    refine ⟨?_, fun c hc' => ?_⟩
    · have h1 := leaf_count (t := t) (i := 0) I.ok
      have h2 := I.len
      unfold BT.cells
      rw [List.length_map]
      omega
    · obtain ⟨l, hl, rfl⟩ := List.mem_map.mp hc'
      exact (pows_le (leaf_size I.ok l hl)).2
  · rw [I'.leaves, hc]; rfl
  · rw [hc]; exact cells_ok fun c hc' => (I'.tidy c hc').1
end
theorem par_open {d : Int} {i : Nat} : parStep d (i, [40]) = d + 1 := by unfold parStep; rw [if_pos (by rw [sg1]; simp [tokS])]
theorem par_close {d : Int} {i : Nat} : parStep d (i, [41]) = d - 1 := by unfold parStep; rw [if_neg (by rw [sg1]; simp [tokS]), if_pos (by rw [sg2]; simp [tokS])]
theorem par_dot {d : Int} {i : Nat} : parStep d (i, [46]) = d := by unfold parStep; rw [if_neg (by rw [sg1]; simp [tokS]), if_neg (by rw [sg2]; simp [tokS])]
theorem par_esc {d : Int} {i c : Nat} : parStep d (i, [92, c]) = d := by
  obtain ⟨h1, h2, h3⟩ := tokS_esc (i := i) (c := c)
  unfold parStep; rw [if_neg (by rw [h1]; decide), if_neg (by rw [h2]; decide)]
theorem par_word {d : Int} (h0 : 0 ≤ d) : ∀ {w : List Nat} {i : Nat}, (wordToks w i).foldl parStep d = d ∧ Stages (fun d : Int => 0 ≤ d) parStep d (wordToks w i)
  | [], i => ⟨rfl, .nil h0⟩
  | c :: w, i => by
    obtain ⟨h1, h2⟩ := par_word h0 (w := w) (i := i + 2)
    rw [show wordToks (c :: w) i = (i + 1, [92, c]) :: wordToks w (i + 2) from rfl]
    refine ⟨by rw [List.foldl_cons, par_esc]; exact h1, .cons h0 (by rw [par_esc]; exact h2)⟩
theorem par_tree : ∀ {t : BT} {d : Int} {i : Nat}, 0 ≤ d → (t.toks i).foldl parStep d = d ∧ Stages (fun d : Int => 0 ≤ d) parStep d (t.toks i)
  | .dot, d, i, h0 => ⟨by simp only [BT.toks, List.foldl_cons, List.foldl_nil, par_dot], .cons h0 (by rw [par_dot]; exact .nil h0)⟩
  | .leaf w, d, i, h0 => par_word h0
  | .node l r, d, i, h0 => by
    have hd : 0 ≤ d + 1 := by omega
    obtain ⟨l1, l2⟩ := par_tree (t := l) (d := d + 1) (i := i + 1) hd
    obtain ⟨r1, r2⟩ := par_tree (t := r) (d := d + 1) (i := i + 1 + l.text.length) hd
    have e : d + 1 - 1 = d := by omega
    refine ⟨?_, ?_⟩
    · simp only [BT.toks, List.foldl_cons, List.foldl_append, List.foldl_nil, par_open, l1, r1, par_close, e]
    · refine Stages.cons h0 ?_
      rw [par_open]
      refine Stages.append (Stages.append l2 (by rw [l1]; exact r2)) ?_
      rw [List.foldl_append, l1, r1]
      exact .cons hd (by rw [par_close, e]; exact .nil h0)
theorem inv_init : Inv 0 lawInit .dot := by
  refine ⟨by show (0 : Nat) ≤ 8; omega, by decide +kernel, by decide +kernel, by decide +kernel, by decide +kernel, by decide +kernel, by decide, by decide⟩
theorem inv_fold : ∀ {ws : List Str} {k : Nat} {s : LawS} {t : BT}, Inv k s t → (∀ w ∈ ws, Wd w) → k + ws.length ≤ 20 → ∃ t', Inv (k + ws.length) (ws.foldl lawTurn s) t'
  | [], k, s, t, I, _, _ => ⟨t, I⟩
  | w :: ws, k, s, t, I, hw, hl => by
    rw [List.length_cons] at hl
    obtain ⟨_, t', I'⟩ := turn_ok I (by omega) (hw w (.head _))
    obtain ⟨t'', I''⟩ := inv_fold I' (fun x hx => hw x (.tail _ hx)) (by omega)
    exact ⟨t'', by rw [List.length_cons, show k + (ws.length + 1) = k + 1 + ws.length from by omega]; exact I''⟩
theorem law_ok {ws : List Str} (hw : ∀ w ∈ ws, Wd w) (hl : ws.length ≤ 15) : LawOk ws := by
  obtain ⟨t, I⟩ := inv_fold inv_init hw (by omega)
  refine ⟨fun pre w post e => ?_, ?_, I.whole, fun pre post e => ?_, ?_⟩
  · subst e
    obtain ⟨t', I'⟩ := inv_fold (ws := pre) inv_init (fun x hx => hw x (List.mem_append_left _ hx)) (by simp at hl; omega)
    exact (turn_ok I' (by simp at hl; omega) (hw w (by simp))).1
  · cases hq : (Builtin.Str.occurrences (ws.foldl lawTurn lawInit).1 "\"" 0 (ws.foldl lawTurn lawInit).1.length 1).isEmpty with
    | true => rfl
    | false =>
      exfalso
      obtain ⟨i, h1, h2⟩ := (StrLaws.found_iff _ _).mp (by rw [hq]; rfl)
      have e : ("\"" : Str) = ⟨#[34]⟩ := by decide +kernel
      rw [e] at h1 h2
      have h3 := (StrLaws.subAt_one _ 34 i).mp ⟨h1, h2⟩
      rw [I.list] at h3
      exact (I.tidy 34 (List.mem_of_getElem? h3)).2 rfl
  · rw [I.toks] at e
    exact (par_tree (t := t) (d := 0) (i := 0) (Int.le_refl _)).2 pre post e
  · rw [I.toks]
    exact (par_tree (t := t) (d := 0) (i := 0) (Int.le_refl _)).1
end Mine
namespace Mine
theorem item_len (L k : Nat) (hL : L ≤ 3) : (item L k).2.length = L := by
  have h4 : k % 4 < 4 := Nat.mod_lt _ (by decide)
  match L, hL with
  | 0, _ => exact (by decide +kernel : ("" : Str).length = 0)
  | 1, _ => rfl
  | 2, _ =>
    show (["ss", "ff", "rs", "no"].getD (k % 4) "" : Str).length = 2
    revert h4; generalize k % 4 = j; revert j
    refine lt4 ?_ ?_ ?_ ?_ <;> decide +kernel
  | 3, _ =>
    show (["ffi", "ffl", "tel", "mpa"].getD (k % 4) "" : Str).length = 3
    revert h4; generalize k % 4 = j; revert j
    refine lt4 ?_ ?_ ?_ ?_ <;> decide +kernel
theorem meant_wd (v : Nat) : Wd (wordMeant v) := by
  have h : (wordMeant v).length = (1 + v % 3) + v / 3 % 4 := by
    unfold wordMeant
    rw [str_len, str_app, List.length_append, ← str_len, ← str_len, item_len _ _ (by omega), item_len _ _ (by omega)]
  exact ⟨by omega, by omega, meant_letters v⟩
theorem nums_five (xs : List Int) : ∃ v0 v1 v2 v3 v4, numsOf' xs = [v0, v1, v2, v3, v4] := by
  unfold numsOf'
  match xs with
  | [] => exact ⟨_, _, _, _, _, rfl⟩
  | [a] => exact ⟨_, _, _, _, _, rfl⟩
  | [a, b] => exact ⟨_, _, _, _, _, rfl⟩
  | [a, b, c] => exact ⟨_, _, _, _, _, rfl⟩
  | [a, b, c, d] => exact ⟨_, _, _, _, _, rfl⟩
  | a :: b :: c :: d :: e :: r => exact ⟨_, _, _, _, _, rfl⟩
theorem law_whole (xs : List Int) (hx : xs.length ≤ 63) : Xs false 6 (fS 26) [(35, .list (xs.map .int))] none (fB 26) (.ret (.bool true)) := by
  obtain ⟨v0, v1, v2, v3, v4, hv⟩ := nums_five xs
  refine law_plain (n := 0) hv (law_ok (fun w hw => ?_) (by simp)) (by omega)
  obtain ⟨v, _, rfl⟩ := List.mem_map.mp hw
  exact meant_wd v
end Mine
namespace MineT
open Mine
/-! the top: a long dict display of int keys and str values -/
section
variable {prog : Program} {w : World} {K : Type} [DecidableEq K] {kd : KeyKind prog w K} {A : Around} {E : Value → Shared → Prop} {s : Shared}
/-- a key that the pairs lack is sought in vain -/
theorem seek_none {es : Array DictEntry} {kvs : List (K × Value)} {k : K} (hp : Pairs kd es.toList kvs) (hnot : k ∉ kvs.map (·.1)) : (es.findIdx? fun e => kd.is k e.key) = none := by
  have away : kvs.findIdx? (fun kv => decide (kv.1 = k)) = none :=
    List.findIdx?_eq_none_iff.mpr fun kv hkv => decide_eq_false fun e => hnot (List.mem_map.mpr ⟨kv, hkv, e⟩)
  have same := hp.findIdx k
  rw [away] at same
  obtain ⟨l⟩ := es
  simpa using same
theorem put_new {d : Addr} {kvs : List (K × Value)} {k : K} {key v : Value} {Q : Unit → Shared → Prop} (hkey : kd.is k key = true) (hm : s.heap.DictOf kd d kvs) (hnot : k ∉ kvs.map (·.1)) (hsz : kvs.length ≤ sizeLine)
    (hQ : ∀ h', h'.DictOf kd d (kvs ++ [(k, v)]) → Heap.SameBut d s.heap h' → Q () { s with heap := h' }) : wpAny (model prog w) A (dictPut d (kd.hash k) key v) Q E s := by
  obtain ⟨o, es, ep, ho, hc, hd, hk, hp, hn⟩ := hm
  have room : es.size ≤ sizeLine := by
    rw [← Array.length_toList, hp.length]; exact hsz
  unfold dictPut
  refine wpAny_bind (wpAny_dictFind_of hkey ho hd hk ?_)
  rw [seek_none hp hnot]
  have pairs : Pairs kd (es.push ⟨kd.hash k, key, v⟩).toList (kvs ++ [(k, v)]) := by
    rw [Array.toList_push]; exact hp.append hkey (kd.hash k) v
  have nodup : ((kvs ++ [(k, v)]).map (·.1)).Nodup := by
    rw [List.map_append]
    exact List.nodup_append.mpr ⟨hn, by simp, fun a ha b hb e => hnot (by rw [← show b = k from by simpa using hb, ← e]; exact ha)⟩
  exact wpAny_updateDictKeys (hz := room) ho hd (hQ _ ⟨_, _, ep + 1, Heap.get?_update_self _ ho (Obj.isFreed_of_dict (Obj.data_mapDictKeys hd _)), hc.mapDictKeys _, Obj.data_mapDictKeys hd _, hk.push hkey _, pairs, nodup⟩ (Heap.SameBut.update ..))
/-- a loop over 0, 1, .. that changes the heap alone -/
theorem turns {f : Nat → PUnit → Sem (ForInStep PUnit)} {I : Nat → Heap → Prop} {Q : PUnit → Shared → Prop} {size : Nat}
    (turn : ∀ i, i < size → ∀ h', I i h' → wpAny (model prog w) A (f i ⟨⟩) (fun r s' => ∃ h'', r = .yield ⟨⟩ ∧ s' = { s with heap := h'' } ∧ I (i + 1) h'') E { s with heap := h' })
    (fin : ∀ h', I size h' → Q ⟨⟩ { s with heap := h' }) : ∀ (n i : Nat) (h' : Heap), i + n = size → I i h' → wpAny (model prog w) A (forIn (List.range' i n) PUnit.unit f) Q E { s with heap := h' }
  | 0, i, h', e, hI => by
    rw [List.range'_zero, List.forIn_nil]
    obtain rfl : i = size := by omega
    exact wpAny_pure (fin h' hI)
  | n + 1, i, h', e, hI => by
    rw [List.range'_succ, List.forIn_cons]
    refine wpAny_bind (wpAny_mono (turn i (by omega) h' hI) (fun r s' q => ?_) fun _ _ x => x)
    obtain ⟨h'', rfl, rfl, hI'⟩ := q
    exact turns turn fin n (i + 1) h'' (by omega) hI'
theorem merge_new {d o : Addr} {kvs more : List (K × Value)} {Q : Unit → Shared → Prop} (hdo : d ≠ o) (hoS : (o == sysModules) = false) (hne : kvs ≠ [])
    (hd : s.heap.DictOf kd d kvs) (ho : s.heap.DictOf kd o more) (hnd : ((kvs ++ more).map (·.1)).Nodup) (hsz : kvs.length + more.length ≤ sizeLine)
    (hQ : ∀ h', h'.DictOf kd d (kvs ++ more) → Heap.SameBut d s.heap h' → Q () { s with heap := h' }) : wpAny (model prog w) A (mergeMapping d (.ref o) false) Q E s := by
  have tO := ho.typeIs
  have hd0 := hd
  obtain ⟨x, xs, xp, gx, _, dx, _, px, _⟩ := hd
  obtain ⟨y, ys, yp, gy, _, dy, ky, py, _⟩ := ho
  have some_ : xs.isEmpty = false := by
    refine Bool.eq_false_iff.mpr fun h => hne (List.length_eq_zero_iff.mp ?_)
    rw [← px.length, Array.isEmpty_iff.mp h]; rfl
  have ly : more.length = ys.size := by rw [← py.length, Array.length_toList]
  unfold mergeMapping
  refine wpAny_bind (m := isInstance (.ref o) (.type "dict")) (wpAny_isInstance tO F.sub_dict_dict ?_)
  dsimp only
  rw [if_pos rfl]
  refine wpAny_bind (m := specialOf (.ref o) "__iter__") (wpAny_specialOf tO F.slot_dict_iter.lookup ?_)
  refine wpAny_bind (m := (pure (some (Value.builtin "dict.__iter__") == some (Value.builtin "dict.__iter__")) : Sem Bool)) (wpAny_pure ?_)
  simp only [beq_self_eq_true, hoS, Bool.false_eq_true, if_false]
  refine wpAny_bind (wpAny_dictEntries gx dx ?_)
  simp only [some_, Bool.false_eq_true, if_false]
  refine wpAny_bind (wpAny_dictEntries gy dy (wpAny_bind (wpAny_dictEpoch gy dy (wpAny_bind ?_))))
  rw [List.range_eq_range']
  refine turns (I := fun i h' => h'.DictOf kd d (kvs ++ more.take i) ∧ h'.get? o = some y ∧ Heap.SameBut d s.heap h') (fun i hi h' q => ?_) (fun h' q => ?_) ys.size 0 s.heap (Nat.zero_add _) ⟨by rw [List.take_zero, List.append_nil]; exact hd0, gy, Heap.SameBut.refl _ _⟩
  · obtain ⟨q1, q2, q3⟩ := q
    have hi' : i < more.length := ly ▸ hi
    have at_ : more[i]? = some more[i] := List.getElem?_eq_getElem hi'
    obtain ⟨k1, v1⟩ := py.get? (e := ys[i]) (by rw [Array.getElem?_toList, Array.getElem?_eq_getElem hi]) at_
    obtain ⟨k2, k3, hh⟩ := ky ys[i] (Array.getElem_mem hi)
    have same : k2 = more[i].1 := kd.inj _ _ _ k3 k1
    have grown : more.take (i + 1) = more.take i ++ [(more[i].1, more[i].2)] := by rw [List.take_add_one, at_]; rfl
    have apart : more[i].1 ∉ (kvs ++ more.take i).map (·.1) := by
      have cut : kvs ++ more = (kvs ++ more.take i) ++ more[i] :: more.drop (i + 1) := by
        rw [List.append_assoc, ← List.drop_eq_getElem_cons hi', List.take_append_drop]
      rw [cut, List.map_append] at hnd
      exact fun hm => (List.nodup_append.mp hnd).2.2 _ hm _ (by rw [List.map_cons]; exact .head _) rfl
    refine wpAny_bind (wpAny_dictEntries q2 dy ?_)
    rw [Array.getElem?_eq_getElem hi]
    dsimp only
    rw [hh, v1, same]
    refine wpAny_bind (wpAny_holding (put_new k1 q1 apart (by rw [List.length_append, List.length_take]; omega) fun h'' r1 r2 => ?_))
    have still : h''.get? o = some y := (r2.2 o (Ne.symm hdo)).trans q2
    refine wpAny_bind (wpAny_dictEpoch still dy ?_)
    rw [if_neg (by rw [bne_self_eq_false]; exact Bool.false_ne_true)]
    exact wpAny_pure ⟨h'', rfl, rfl, by rw [grown, ← List.append_assoc]; exact r1, still, q3.trans r2⟩
  · refine wpAny_pure (hQ h' ?_ q.2.2)
    rw [← List.take_length (l := more), ly]
    exact q.1
end
end MineT
namespace MineT
open Mine
section
variable {prog : Program} {w : World} {A : Around} {E : Value → Shared → Prop} {s : Shared}
/-- what a list of pairs bears -/
inductive Told : List (Int × Str) → List (Int × Value) → Prop
  | nil : Told [] []
  | cons {k : Int} {x : Str} {t : PySem.Tok} {D : List (Int × Str)} {kvs : List (Int × Value)} : Told D kvs → Told ((k, x) :: D) ((k, .str x t) :: kvs)
theorem Told.keys : ∀ {D : List (Int × Str)} {kvs : List (Int × Value)}, Told D kvs → kvs.map (·.1) = D.map (·.1)
  | _, _, .nil => rfl
  | _, _, .cons r => by rw [List.map_cons, List.map_cons, r.keys]
theorem Told.len {D : List (Int × Str)} {kvs : List (Int × Value)} (h : Told D kvs) : kvs.length = D.length := by
  have := congrArg List.length h.keys
  simpa using this
theorem Told.append {D' : List (Int × Str)} {kvs' : List (Int × Value)} (h' : Told D' kvs') : ∀ {D : List (Int × Str)} {kvs : List (Int × Value)}, Told D kvs → Told (D ++ D') (kvs ++ kvs')
  | _, _, .nil => h'
  | _, _, .cons r => .cons (Told.append h' r)
noncomputable def Gives (prog : Program) (w : World) (p : Sem Value × Sem Value) (d : Int × Str) : Prop :=
  ∀ (A : Around) (E : Value → Shared → Prop) (s : Shared), (∀ Q : Value → Shared → Prop, (∀ t tk, Q (.int d.1 t) { s with toks := tk }) → wpAny (model prog w) A p.1 Q E s) ∧
    ∀ Q : Value → Shared → Prop, (∀ t tk, Q (.str d.2 t) { s with toks := tk }) → wpAny (model prog w) A p.2 Q E s
inductive GivesAll (prog : Program) (w : World) : List (Sem Value × Sem Value) → List (Int × Str) → Prop
  | nil : GivesAll prog w [] []
  | cons {p d ps D} : Gives prog w p d → GivesAll prog w ps D → GivesAll prog w (p :: ps) (d :: D)
theorem GivesAll.len : ∀ {ps D}, GivesAll prog w ps D → ps.length = D.length
  | _, _, .nil => rfl
  | _, _, .cons _ r => by rw [List.length_cons, List.length_cons, r.len]
theorem GivesAll.append {ps' D'} (h' : GivesAll prog w ps' D') : ∀ {ps D}, GivesAll prog w ps D → GivesAll prog w (ps ++ ps') (D ++ D')
  | _, _, .nil => h'
  | _, _, .cons a r => .cons a (GivesAll.append h' r)
theorem stored_new {kvs : List (Int × Value)} {k : Int} {v : Value} (h : k ∉ kvs.map (·.1)) : stored kvs k v = kvs ++ [(k, v)] := by
  unfold stored
  rw [if_neg]
  rw [List.any_eq_true]
  rintro ⟨kv, hkv, he⟩
  exact h (List.mem_map.mpr ⟨kv, hkv, of_decide_eq_true he⟩)
theorem is_int {k : Int} {t : PySem.Tok} : (intKind prog w).is k (.int k t) = true := by show Value.isInt k (.int k t) = true; simp [Value.isInt]
theorem sub_any {ps : List (Sem Value × Sem Value)} {D : List (Int × Str)} {Q : Addr → Shared → Prop} (hp : GivesAll prog w ps D) (hnd : (D.map (·.1)).Nodup) (hsz : D.length ≤ 1000)
    (hQ : ∀ h' tk kvs, Told D kvs → h'.DictOf (intKind prog w) s.heap.objs.size kvs → (∀ b o, s.heap.get? b = some o → h'.get? b = some o) → Q s.heap.objs.size { s with heap := h', toks := tk }) :
    wpAny (model prog w) A (subDict ps) Q E s := by
  by_cases hl : ps.length ≤ 15
  · refine wpAny_subDict (knd := intKind prog w) hl ?_
    have ev : ∀ {ps : List (Sem Value × Sem Value)} {D : List (Int × Str)} {s : Shared} {R : List (Value × Value) → Shared → Prop}, GivesAll prog w ps D →
        (∀ vs kvs tk, Told D kvs → Carries (intKind prog w) vs kvs → R vs { s with toks := tk }) → wpAny (model prog w) A (evalPairs ps) R E s := by
      intro ps
      induction ps with
      | nil =>
        intro D s R h q
        cases h
        exact evalPairs_nil (q [] [] s.toks .nil trivial)
      | cons p ps ih =>
        intro D s R h q
        cases h with
        | cons a r =>
          obtain ⟨k, v⟩ := p
          refine evalPairs_cons ((a A E s).1 _ fun t tk => (a A E _).2 _ fun t' tk' => ih r fun vs kvs tk'' ht hc => ?_)
          exact q _ _ tk'' (.cons (t := t') ht) ⟨is_int, rfl, hc⟩
    refine ev hp fun vs kvs tk ht hc => ⟨kvs, hc, Heap.DictOf.new _, fun h' hd hs => ?_⟩
    have e : merged [] kvs = kvs := merged_nil_of_nodup kvs (by rw [ht.keys]; exact hnd)
    rw [e] at hd
    refine hQ h' _ kvs ht hd fun b o hb => ?_
    rw [hs.2 b (Nat.ne_of_lt (Heap.lt_size hb))]
    exact Heap.get?_push_of_some _ hb
  · unfold subDict
    refine wpAny_bind (wpAny_alloc ?_)
    refine wpAny_bind (wpAny_holding ?_)
    rw [if_neg hl]
    refine wpAny_bind (wpAny_rule ?_)
    have lp : ∀ {ps : List (Sem Value × Sem Value)} {D : List (Int × Str)} {acc : List (Int × Value)} {s : Shared} {d : Addr} {R : PUnit → Shared → Prop}, GivesAll prog w ps D → s.heap.DictOf (intKind prog w) d acc →
        ((acc.map (·.1)) ++ D.map (·.1)).Nodup → acc.length + D.length ≤ 2000 →
        (∀ h' tk kvs, Told D kvs → h'.DictOf (intKind prog w) d (acc ++ kvs) → Heap.SameBut d s.heap h' → R PUnit.unit { s with heap := h', toks := tk }) →
        wpAny (model prog w) A (forIn ps PUnit.unit fun (x : Sem Value × Sem Value) (_ : PUnit) => (do
          let kv ← x.1
          let vv ← holding [kv] x.2
          holding [kv, vv] (dictSet d kv vv)
          pure (ForInStep.yield PUnit.unit) : Sem (ForInStep PUnit))) R E s := by
      intro ps
      induction ps with
      | nil =>
        intro D acc s d R h hd hn hz q
        cases h
        rw [List.forIn_nil]
        exact wpAny_pure (by simpa using q s.heap s.toks [] .nil (by simpa using hd) (Heap.SameBut.refl _ _))
      | cons p ps ih =>
        intro D acc s d R h hd hn hz q
        cases h with
        | @cons _ dd _ D a r =>
          obtain ⟨k, x⟩ := dd
          rw [List.length_cons] at hz
          rw [List.map_cons] at hn
          have hk : k ∉ acc.map (·.1) := fun hm => (List.nodup_append.mp hn).2.2 _ hm _ (.head _) rfl
          rw [List.forIn_cons]
          refine wpAny_bind (wpAny_bind ((a A E s).1 _ fun t tk => ?_))
          refine wpAny_bind (wpAny_holding ((a A E _).2 _ fun t' tk' => ?_))
          refine wpAny_bind (wpAny_holding (wpAny_dictSet_pairs (knd := intKind prog w) (k := k) (hsz := by rw [sizeLine_eq]; omega) is_int hd fun h₁ hm₁ hs₁ => wpAny_pure ?_))
          rw [stored_new hk] at hm₁
          refine ih r hm₁ (by simpa using hn) (by simp; omega) fun h' tk kvs ht hd' hs' => ?_
          exact q h' tk _ (.cons (t := t') ht) (by simpa using hd') (hs₁.trans hs')
    refine wpAny_bind (lp (acc := []) hp (Heap.DictOf.new _) (by simpa using hnd) (by simp; omega) fun h' tk kvs ht hd hs => wpAny_pure (wpAny_pure ?_))
    refine hQ h' tk kvs ht (by simpa using hd) fun b o hb => ?_
    rw [hs.2 b (Nat.ne_of_lt (Heap.lt_size hb))]
    exact Heap.get?_push_of_some _ hb
end
end MineT
namespace MineT
open Mine
section
variable {prog : Program} {w : World} {A : Around} {E : Value → Shared → Prop} {s : Shared}
/-- what the display holds while it runs -/
noncomputable def Half (prog : Program) (w : World) (k : Nat) (h : Heap) (m : Option Addr) (D : List (Int × Str)) : Prop :=
  (m = none ∧ D = []) ∨ ∃ d kvs, m = some d ∧ Told D kvs ∧ kvs ≠ [] ∧ h.DictOf (intKind prog w) d kvs ∧ k ≤ d
theorem dict_lt {K : Type} [DecidableEq K] {knd : KeyKind prog w K} {h : Heap} {d : Addr} {kvs : List (K × Value)} (x : h.DictOf knd d kvs) : d < h.objs.size := let ⟨_, _, _, e, _⟩ := x; Heap.lt_size e
theorem flush_some {run : List (Sem Value × Sem Value)} {D2 : List (Int × Str)} {d : Addr} {kvs : List (Int × Value)} {g : Value → Sem Unit} {R : Option Addr → Shared → Prop} (hrun : GivesAll prog w run D2) (hd : s.heap.DictOf (intKind prog w) d kvs) (hne : kvs ≠ [])
    (hnd : (kvs.map (·.1) ++ D2.map (·.1)).Nodup) (hsz : kvs.length + D2.length ≤ 1000) (hbig : sysModules < s.heap.objs.size)
    (hR : ∀ h' tk kvs2, Told D2 kvs2 → h'.DictOf (intKind prog w) d (kvs ++ kvs2) → (∀ b o, b ≠ d → s.heap.get? b = some o → h'.get? b = some o) → s.heap.objs.size ≤ h'.objs.size → R (some d) { s with heap := h', toks := tk }) :
    wpAny (model prog w) A (do
      let sub ← holding [Value.ref d] (subDict run)
      (holding [Value.ref d, Value.ref sub] (mergeMapping d (Value.ref sub) false)).onRaise g
      pure (some d)) R E s := by
  refine wpAny_bind (wpAny_holding (sub_any hrun (List.nodup_append.mp hnd).2.1 (by omega) fun h₁ tk kvs2 ht h2 hk => ?_))
  have hd₁ : h₁.DictOf (intKind prog w) d kvs := hd.keep hk
  have hlt := dict_lt h2
  have hdo : d ≠ s.heap.objs.size := Nat.ne_of_lt (dict_lt hd)
  refine wpAny_bind (wpAny_onRaise (wpAny_holding (merge_new (kd := intKind prog w) hdo (beq_eq_false_iff_ne.mpr (Nat.ne_of_gt hbig)) hne hd₁ h2 (by rw [List.map_append, ht.keys]; exact hnd) (by rw [ht.len, sizeLine_eq]; omega) fun h' hd' hs => wpAny_pure ?_)))
  refine hR h' tk kvs2 ht hd' (fun b o hb hg => (hs.2 b hb).trans (hk b o hg)) ?_
  show s.heap.objs.size ≤ h'.objs.size
  have e : h'.objs.size = h₁.objs.size := hs.1
  rw [e]
  exact Nat.le_of_lt hlt
theorem flush_none {run : List (Sem Value × Sem Value)} {D2 : List (Int × Str)} {R : Option Addr → Shared → Prop} (hrun : GivesAll prog w run D2) (hnd : (D2.map (·.1)).Nodup) (hsz : D2.length ≤ 1000)
    (hR : ∀ h' tk kvs2, Told D2 kvs2 → h'.DictOf (intKind prog w) s.heap.objs.size kvs2 → (∀ b o, s.heap.get? b = some o → h'.get? b = some o) → s.heap.objs.size ≤ h'.objs.size → R (some s.heap.objs.size) { s with heap := h', toks := tk }) :
    wpAny (model prog w) A (do
      let a ← subDict run
      pure (some a)) R E s := by
  refine wpAny_bind (sub_any hrun hnd hsz fun h₁ tk kvs2 ht h2 hk => wpAny_pure (hR h₁ tk kvs2 ht h2 hk (Nat.le_of_lt (dict_lt h2))))
theorem Told.ne {D : List (Int × Str)} {kvs : List (Int × Value)} (h : Told D kvs) (hD : D ≠ []) : kvs ≠ [] := by
  rintro rfl
  exact hD (List.length_eq_zero_iff.mp h.len.symm)
theorem long_display {ps : List (Sem Value × Sem Value)} {D : List (Int × Str)} {Q : Value → Shared → Prop} (hp : GivesAll prog w ps D) (hnd : (D.map (·.1)).Nodup) (hsz : D.length ≤ 1000) (hne : D ≠ []) (hbig : sysModules < s.heap.objs.size)
    (hQ : ∀ h' tk kvs d, Told D kvs → h'.DictOf (intKind prog w) d kvs → s.heap.objs.size ≤ d → (∀ b o, s.heap.get? b = some o → h'.get? b = some o) → Q (.ref d) { s with heap := h', toks := tk }) :
    wpAny (model prog w) A (dictDisplay (ps.map fun p => (some p.1, p.2))) Q E s := by
  unfold dictDisplay
  dsimp only
  refine wpAny_bind ?_
  refine wpAny_forIn_list _
    (fun rest (b : Option Addr × List (Sem Value × Sem Value)) s' => ∃ h' tk D1 D2 D3 restp, s' = { s with heap := h', toks := tk } ∧ (∀ b o, s.heap.get? b = some o → h'.get? b = some o) ∧ s.heap.objs.size ≤ h'.objs.size ∧
      D = D1 ++ (D2 ++ D3) ∧ GivesAll prog w b.2 D2 ∧ GivesAll prog w restp D3 ∧ rest = restp.map (fun p => (some p.1, p.2)) ∧ Half prog w s.heap.objs.size h' b.1 D1)
    _ ?_ ?_ _ _ ⟨s.heap, s.toks, [], [], D, ps, rfl, fun _ _ e => e, Nat.le_refl _, rfl, .nil, hp, rfl, .inl ⟨rfl, rfl⟩⟩
  · rintro x rest ⟨m, run⟩ s' ⟨h', tk, D1, D2, D3, restp, rfl, hk, hsz', rfl, hrun, hrest, hr, hm⟩
    cases hrest with
    | nil => simp at hr
    | @cons p dd ps' D3 a r =>
      rw [List.map_cons, List.cons.injEq] at hr
      obtain ⟨rfl, hr⟩ := hr
      dsimp only at hrun hm ⊢
      have hrun' : GivesAll prog w (run ++ [(p.1, p.2)]) (D2 ++ [dd]) := GivesAll.append (.cons a .nil) hrun
      have hD : D1 ++ (D2 ++ dd :: D3) = (D1 ++ (D2 ++ [dd])) ++ D3 := by simp
      have hnd1 : (D1.map (·.1) ++ (D2 ++ [dd]).map (·.1)).Nodup := by
        rw [hD, List.map_append, List.map_append] at hnd
        exact (List.nodup_append.mp hnd).1
      have hsz1 : D1.length + (D2 ++ [dd]).length ≤ 1000 := by
        rw [hD, List.length_append, List.length_append] at hsz
        omega
      have hemp : (run ++ [(p.1, p.2)]).isEmpty = false := by simp
      split
      · rw [hemp]
        simp only [Bool.false_eq_true, if_false]
        rcases hm with ⟨rfl, rfl⟩ | ⟨d, kvs, rfl, ht, hne', hd, hkd⟩
        · dsimp only
          refine wpAny_bind (flush_none hrun' (by simpa using hnd1) (by simpa using hsz1) fun h₂ tk₂ kvs2 ht2 h2 hk2 hz2 => wpAny_pure ?_)
          exact ⟨h₂, tk₂, D2 ++ [dd], [], D3, ps', rfl, fun b o e => hk2 b o (hk b o e), Nat.le_trans hsz' hz2, by simp, .nil, r, hr, .inr ⟨_, kvs2, rfl, ht2, ht2.ne (by simp), h2, hsz'⟩⟩
        · dsimp only
          refine wpAny_bind (flush_some hrun' hd hne' (by rw [ht.keys]; exact hnd1) (by rw [ht.len]; exact hsz1) (Nat.lt_of_lt_of_le hbig hsz') fun h₂ tk₂ kvs2 ht2 h2 hk2 hz2 => wpAny_pure ?_)
          exact ⟨h₂, tk₂, D1 ++ (D2 ++ [dd]), [], D3, ps', rfl, fun b o e => hk2 b o (Nat.ne_of_lt (Nat.lt_of_lt_of_le (Heap.lt_size e) hkd)) (hk b o e), Nat.le_trans hsz' hz2, by simp, .nil, r, hr,
            .inr ⟨d, kvs ++ kvs2, rfl, Told.append ht2 ht, by simp [hne'], h2, hkd⟩⟩
      · refine wpAny_pure ?_
        exact ⟨h', tk, D1, D2 ++ [dd], D3, ps', rfl, hk, hsz', by simp, hrun', r, hr, hm⟩
  · rintro ⟨m, run⟩ s' ⟨h', tk, D1, D2, D3, restp, rfl, hk, hsz', rfl, hrun, hrest, hr, hm⟩
    have h3 : restp = [] := by simpa using hr.symm
    subst h3
    cases hrest
    dsimp only at hrun hm ⊢
    rw [List.append_nil] at *
    cases hrun with
    | nil =>
      simp only [List.isEmpty_nil, if_true]
      refine wpAny_bind (wpAny_pure ?_)
      rcases hm with ⟨rfl, rfl⟩ | ⟨d, kvs, rfl, ht, hne', hd, hkd⟩
      · exact absurd rfl hne
      · exact wpAny_pure (hQ h' tk kvs d (by simpa using ht) hd hkd hk)
    | @cons p dd run' D2 a r =>
      have hrun' : GivesAll prog w (p :: run') (dd :: D2) := .cons a r
      simp only [List.isEmpty_cons, Bool.false_eq_true, if_false]
      rcases hm with ⟨rfl, rfl⟩ | ⟨d, kvs, rfl, ht, hne', hd, hkd⟩
      · dsimp only
        refine wpAny_bind (flush_none hrun' (by simpa using hnd) (by simpa using hsz) fun h₂ tk₂ kvs2 ht2 h2 hk2 hz2 => wpAny_pure ?_)
        exact hQ h₂ tk₂ kvs2 _ (by simpa using ht2) h2 hsz' fun b o e => hk2 b o (hk b o e)
      · dsimp only
        refine wpAny_bind (flush_some hrun' hd hne' (by rw [ht.keys, ← List.map_append]; exact hnd) (by rw [ht.len, ← List.length_append]; exact hsz) (Nat.lt_of_lt_of_le hbig hsz') fun h₂ tk₂ kvs2 ht2 h2 hk2 hz2 => wpAny_pure ?_)
        exact hQ h₂ tk₂ (kvs ++ kvs2) d (Told.append ht2 ht) h2 hkd fun b o e => hk2 b o (Nat.ne_of_lt (Nat.lt_of_lt_of_le (Heap.lt_size e) hkd)) (hk b o e)
end
end MineT
namespace MineT
open Mine
/-! the state between the top's statements -/
noncomputable abbrev Kp (Pl : Addr) (h h' : Heap) : Prop := ∀ b o, b ≠ Pl → b ≠ mainGlobals → h.get? b = some o → h'.get? b = some o
theorem Kp.trans {Pl : Addr} {h h' h'' : Heap} (x : Kp Pl h h') (y : Kp Pl h' h'') : Kp Pl h h'' := fun b o p q e => y b o p q (x b o p q e)
noncomputable def topMg (L : List (Str × Value)) (mg0 : Str → Option Value) : Str → Option Value := fun x => (L.lookup x).or (mg0 x)
theorem topMg_cons {L : List (Str × Value)} {mg0 : Str → Option Value} {x : Str} {v : Value} : (fun y => if y = x then some v else topMg L mg0 y) = topMg ((x, v) :: L) mg0 := by
  funext y
  unfold topMg
  rw [List.lookup_cons]
  by_cases h : y = x
  · rw [if_pos h, h, beq_self_eq_true]; rfl
  · rw [if_neg h, beq_eq_false_iff_ne.mpr h]
structure TS (h₀ : Heap) (gs : Array GenState) (os : OsState) (mg0 : Str → Option Value) (c Pl : Addr) (lp : List Pos) (L : List (Str × Value)) (P : Heap → Prop) (s : Shared) : Prop where
  main : ∃ l : List (Pos × Addr), l.map (·.1) = lp ∧ s.heap.Main (topMg L mg0) c Pl (triples l).toArray
  keep : Kp Pl h₀ s.heap
  grow : h₀.objs.size ≤ s.heap.objs.size
  low : Pl < h₀.objs.size ∧ mainGlobals < h₀.objs.size
  gens : s.gens = gs
  os : s.os = os
  facts : P s.heap
  stay : ∀ h h', Kp Pl h h' → P h → P h'
/-- a fact that the names and the table of the codes do not touch -/
noncomputable def Stb (h₀ : Heap) (Pl : Addr) (F : Heap → Prop) : Prop := ∀ h h', Kp Pl h h' → F h → F h'
noncomputable def FnS (Pl : Addr) (h : Heap) (a : Addr) (x : Str) (k : Nat) (dV kV : Value) : Prop :=
  a ≠ Pl ∧ a ≠ mainGlobals ∧ ∃ o doc pm an c' ct, h.get? a = some o ∧ o.data = .func ({ name := x, qualname := x, params := fA k, body := .stmts (fB k), scope := fS k, globals := mainGlobals, closure := [], defaults := dV, kwdefaults := kV, doc := doc, pyModule := pm, annotations := an, code := .ref c', closureTuple := ct, builtins := builtinsNs } : FuncData) ∧
    c' ≠ Pl ∧ c' ≠ mainGlobals ∧ h.CodeRec (.ref c') x
theorem FnS.kp {Pl : Addr} {h h' : Heap} {a : Addr} {n : Str} {k : Nat} {dV kV : Value} (x : FnS Pl h a n k dV kV) (y : Kp Pl h h') : FnS Pl h' a n k dV kV := by
  obtain ⟨h1, h2, o, doc, pm, an, c', ct, h3, h4, h5, h6, h7⟩ := x
  exact ⟨h1, h2, o, doc, pm, an, c', ct, y _ _ h1 h2 h3, h4, h5, h6, h7.at fun o e => y _ _ h5 h6 e⟩
theorem FnS.at {Pl : Addr} {h : Heap} {a : Addr} {n : Str} {k : Nat} {dV kV : Value} (x : FnS Pl h a n k dV kV) : FnAt h a k dV kV := by
  obtain ⟨h1, h2, o, doc, pm, an, c', ct, h3, h4, h5, h6, h7⟩ := x
  exact ⟨o, n, n, doc, pm, an, .ref c', ct, h3, h4, h7⟩
section
variable {w : World} {A : Around} {E : Value → Shared → Prop} {s : Shared} {h₀ : Heap} {gs : Array GenState} {os : OsState} {mg0 : Str → Option Value} {c Pl F : Addr} {lp : List Pos} {L : List (Str × Value)} {P : Heap → Prop} {Q : Flow → Shared → Prop}
theorem TS.neP {a : Addr} (T : TS h₀ gs os mg0 c Pl lp L P s) (ha : s.heap.objs.size ≤ a) : a ≠ Pl := Nat.ne_of_gt (Nat.lt_of_lt_of_le T.low.1 (Nat.le_trans T.grow ha))
theorem TS.neG {a : Addr} (T : TS h₀ gs os mg0 c Pl lp L P s) (ha : s.heap.objs.size ≤ a) : a ≠ mainGlobals := Nat.ne_of_gt (Nat.lt_of_lt_of_le T.low.2 (Nat.le_trans T.grow ha))
theorem TS.bind {s' : Shared} {x : Str} {v : Value} {lp' : List Pos} {G : Heap → Prop} (T : TS h₀ gs os mg0 c Pl lp L P s) (hm : ∃ l : List (Pos × Addr), l.map (·.1) = lp' ∧ s'.heap.Main (fun y => if y = x then some v else topMg L mg0 y) c Pl (triples l).toArray)
    (hk : Kp Pl s.heap s'.heap) (hz : s.heap.objs.size ≤ s'.heap.objs.size) (hg : s'.gens = s.gens) (ho : s'.os = s.os) (hG : G s'.heap) (hS : ∀ h h', Kp Pl h h' → G h → G h') :
    TS h₀ gs os mg0 c Pl lp' ((x, v) :: L) (fun h => P h ∧ G h) s' := by
  obtain ⟨l, e, m⟩ := hm
  rw [topMg_cons] at m
  exact ⟨⟨l, e, m⟩, T.keep.trans hk, Nat.le_trans T.grow hz, T.low, hg.trans T.gens, ho.trans T.os, ⟨T.stay _ _ hk T.facts, hG⟩, fun h h' y z => ⟨T.stay h h' y z.1, hS h h' y z.2⟩⟩
theorem step_assign {x : Str} {pos' pos : Pos} {value : Expr} {G : Value → Heap → Prop} {rest : List Stmt} (T : TS h₀ gs os mg0 c Pl lp L P s)
    (hval : ∀ Q' : Value → Shared → Prop, (∀ v h' tk, (∀ b o, s.heap.get? b = some o → h'.get? b = some o) → s.heap.objs.size ≤ h'.objs.size → G v h' → Q' v { s with heap := h', toks := tk }) → wpAny (MM w) A (eval value (mainEnv pw c F)) Q' E s)
    (hS : ∀ v h h', Kp Pl h h' → G v h → G v h')
    (k : ∀ v s', TS h₀ gs os mg0 c Pl lp ((x, v) :: L) (fun h => P h ∧ G v h) s' → wpAny (MM w) A (execs rest (mainEnv pw c F)) Q E s')
    (hloc : pw.main.scope.names.lookup x = some .local := by kernel_rfl) (hnb : x ≠ "__builtins__" := by decide)
    (hs : swapsWith value (some (.Name x pos')) pos.line (mainEnv pw c F) = pure false := by rfl) :
    wpAny (MM w) A (execs (.Assign [.Name x pos'] value pos :: rest) (mainEnv pw c F)) Q E s := by
  refine wpAny_execs_cons (wpAny_Assign_Name (hval _ fun v h₁ tk hk hz hG => ?_) hs)
  obtain ⟨l, e, m⟩ := T.main
  have m₁ : h₁.Main (topMg L mg0) c Pl (triples l).toArray := by
    obtain ⟨bm, o, hbm, hne0, hneG, hneP, hbo, hrest⟩ := m.bmod
    exact ⟨m.g.keeps hk, m.code.keeps hk, m.low, ⟨bm, o, hbm, hne0, hneG, hneP, hk _ _ hbo, hrest⟩⟩
  refine wpAny_storeName_local (env := mainEnv pw c F) hloc m₁.g (fun h' hg' hs' => k v _ ?_) rfl
  obtain ⟨bm, o, hbm, hne0, hneG, hneP, hbo, hrest⟩ := m₁.bmod
  refine T.bind ⟨l, e, hg', m₁.code.sameBut hs' (Nat.ne_of_gt m.low.1) (Nat.ne_of_gt m.low.2), m.low,
      ⟨bm, o, by simp only [Ne.symm hnb, if_false]; exact hbm, hne0, hneG, hneP, (hs'.2 _ hneG).trans hbo, hrest⟩⟩ (fun b o _ hG' q => (hs'.2 _ hG').trans (hk _ _ q)) ?_ rfl rfl (hS v _ _ (fun b o _ hG' q => (hs'.2 _ hG').trans q) hG) (hS v)
  have e : h'.objs.size = h₁.objs.size := hs'.1
  show _ ≤ h'.objs.size
  rw [e]; exact hz
theorem not_among {pos : Pos} {l : List (Pos × Addr)} (h : ∀ q ∈ l.map (·.1), ¬ (q.line = pos.line ∧ q.col = pos.col)) : codeAmong pos (triples l).toArray.toList = none := by
  rw [List.toList_toArray]
  exact codeAmong_triples _ _ fun q hq => h q.1 (List.mem_map.mpr ⟨q, hq, rfl⟩)
theorem step_def {x : Str} {pos : Pos} {j : Nat} {rest : List Stmt} (T : TS h₀ gs os mg0 c Pl lp L P s)
    (k : ∀ a s', TS h₀ gs os mg0 c Pl (lp ++ [pos]) ((x, .ref a) :: L) (fun h => P h ∧ FnS Pl h a x j .none .none) s' → wpAny (MM w) A (execs rest (mainEnv pw c F)) Q E s')
    (hexec : PlainDefTree x (fA j) (fB j) (fS j) pos) (hfree : (fS j).names.all (fun y => y.2 != .free) = true := by kernel_rfl) (hdoc : docOf (fB j) = none := by kernel_rfl)
    (hloc : pw.main.scope.names.lookup x = some .local := by kernel_rfl)
    (hq : qualnameIn { scope := pw.main.scope, locals := mainGlobals, globals := mainGlobals, cells := [] } x x = x := by kernel_rfl)
    (hnb : x ≠ "__builtins__" := by decide) (hnf : lp.all (fun q => !(q.line == pos.line && q.col == pos.col)) = true := by kernel_rfl) :
    wpAny (MM w) A (execs (.FunctionDef x (fA j) (fB j) [] none [] (fS j) none x pos :: rest) (mainEnv pw c F)) Q E s := by
  obtain ⟨l, e, m⟩ := T.main
  have hN : codeAmong pos (triples l).toArray.toList = none := not_among fun q hq' => by
    rw [e] at hq'
    have := List.all_eq_true.mp hnf q hq'
    simp only [Bool.not_eq_true', Bool.and_eq_false_iff, beq_eq_false_iff_ne] at this
    omega
  refine wpAny_execs_cons (wpAny_plainDef hexec (fun y hy => by have := List.all_eq_true.mp hfree y hy; simpa using this) hdoc hloc hq m (fun a c' h' tk ha hm hf hcd keep => k a _ ?_) hnb rfl hN)
  have haP : s.heap.objs.size ≤ a := ha
  refine T.bind ⟨l ++ [(pos, c')], by rw [List.map_append, e]; rfl, by rw [triples_append]; simpa using hm⟩ keep (Nat.le_trans haP (Nat.le_of_lt (Heap.lt_size hf))) rfl rfl
    ⟨T.neP ha, T.neG ha, _, _, _, _, c', _, hf, rfl, T.neP hcd.1, T.neG hcd.1, hcd.2⟩ (fun h h' y z => z.kp y)
end
end MineT
namespace MineT
open Mine
section
variable {w : World} {A : Around} {E : Value → Shared → Prop} {s : Shared} {h₀ : Heap} {gs : Array GenState} {os : OsState} {mg0 : Str → Option Value} {c Pl F : Addr} {lp : List Pos} {L : List (Str × Value)} {P : Heap → Prop} {Q : Flow → Shared → Prop}
/-- a def's tuple of defaults and its dict of keyword defaults -/
noncomputable def DkS (Pl : Addr) (h : Heap) (T K : Addr) : Prop :=
  T ≠ Pl ∧ T ≠ mainGlobals ∧ K ≠ Pl ∧ K ≠ mainGlobals ∧ (∃ o n t, h.get? T = some o ∧ o.data = .seq #[.int 0 t, .none] n) ∧ ∃ mk, h.Ns K mk ∧ mk "key" = some .none
theorem DkS.kp {Pl : Addr} {h h' : Heap} {T K : Addr} (x : DkS Pl h T K) (y : Kp Pl h h') : DkS Pl h' T K := by
  obtain ⟨h1, h2, h3, h4, ⟨o, n, t, e, d⟩, mk, e', d'⟩ := x
  exact ⟨h1, h2, h3, h4, ⟨o, n, t, y _ _ h1 h2 e, d⟩, mk, e'.at fun o q => y _ _ h3 h4 q, d'⟩
theorem step_defkw {x : Str} {pos p1 p2 p3 : Pos} {k1 k2 k3 : Nat} {j : Nat} {rest : List Stmt} (T : TS h₀ gs os mg0 c Pl lp L P s)
    (k : ∀ a T' K' s', TS h₀ gs os mg0 c Pl (lp ++ [pos]) ((x, .ref a) :: L) (fun h => P h ∧ FnS Pl h a x j (.ref T') (.ref K') ∧ DkS Pl h T' K') s' → wpAny (MM w) A (execs rest (mainEnv pw c F)) Q E s')
    (hd : ∀ env, defaultsOf (fA j) env = ([eval (.Constant (.int 0) k1 p1) env, eval (.Constant .none k2 p2) env], [some (eval (.Constant .none k3 p3) env)]))
    (hann : ∀ env, annTrees (fA j) none env = [])
    (hkw : ((fA j).kwonlyargs.zip [some Value.none]).filterMap (fun (a, d) => d.map (a.arg, ·)) = [(("key" : Str), Value.none)] := by kernel_rfl)
    (hfree : (fS j).names.all (fun y => y.2 != .free) = true := by kernel_rfl)
    (hloc : pw.main.scope.names.lookup x = some .local := by kernel_rfl)
    (hq : qualnameIn { scope := pw.main.scope, locals := mainGlobals, globals := mainGlobals, cells := [] } x x = x := by kernel_rfl)
    (hnb : x ≠ "__builtins__" := by decide) (hnf : lp.all (fun q => !(q.line == pos.line && q.col == pos.col)) = true := by kernel_rfl) :
    wpAny (MM w) A (execs (.FunctionDef x (fA j) (fB j) [] none [] (fS j) none x pos :: rest) (mainEnv pw c F)) Q E s := by
  obtain ⟨l, e, m⟩ := T.main
  have hN : codeAmong pos (triples l).toArray.toList = none := not_among fun q hq' => by
    rw [e] at hq'
    have := List.all_eq_true.mp hnf q hq'
    simp only [Bool.not_eq_true', Bool.and_eq_false_iff, beq_eq_false_iff_ne] at this
    omega
  have hq' : qualnameIn (mainEnv pw c F) x x = x := hq
  refine wpAny_execs_cons ?_
  rw [exec_def, hq', hd, hann]
  refine wpAny_bind (wpAny_standAt (wpAny_bind (wpAny_holding ?_)))
  simp only [evalAll, evalAllOpt, evalNamed]
  refine wpAny_bind (wpAny_bind (wpAny_Constant_int ?_))
  refine wpAny_bind (wpAny_holding (wpAny_bind (wpAny_pure (wpAny_bind (wpAny_holding (wpAny_pure (wpAny_pure (wpAny_pure ?_))))))))
  refine wpAny_bind (wpAny_holding (wpAny_bind (wpAny_pure (wpAny_bind (wpAny_holding (wpAny_pure (wpAny_pure ?_)))))))
  refine wpAny_holding (wpAny_bind (wpAny_pure ?_))
  rw [makeFunction_eq, hkw]
  refine wpAny_bind (wpAny_newTextTuple ?_)
  dsimp only
  simp only [List.isEmpty_cons, Bool.false_eq_true, if_false, List.isEmpty_nil, if_true, List.forIn_cons, List.forIn_nil]
  refine wpAny_bind (wpAny_alloc ?_)
  rw [Heap.size_push]
  have hns := Heap.Ns.new (s.heap.push { cls := .type "tuple", data := .seq [Value.int 0 s.toks, Value.none].toArray }) (.type "dict")
  rw [Heap.size_push] at hns
  refine wpAny_bind (wpAny_bind (wpAny_bind (wpAny_nsSet hns fun h₁ hn₁ hs₁ => wpAny_pure (wpAny_pure (wpAny_bind (wpAny_pure (wpAny_bind (wpAny_pure ?_))))))))
  dsimp only at hs₁ ⊢
  have hz₁ : h₁.objs.size = s.heap.objs.size + 1 + 1 := by rw [hs₁.1, Heap.size_push, Heap.size_push]
  have hk₁ : ∀ b o, s.heap.get? b = some o → h₁.get? b = some o := fun b o q => by
    have := Heap.lt_size q
    rw [hs₁.2 b (Nat.ne_of_lt (Nat.lt_succ_of_lt this))]
    exact Heap.get?_push_of_some _ (Heap.get?_push_of_some _ q)
  have hT₁ : h₁.get? s.heap.objs.size = some { cls := .type "tuple", data := .seq [Value.int 0 s.toks, Value.none].toArray } := by
    rw [hs₁.2 _ (Nat.ne_of_lt (Nat.lt_succ_self _))]
    exact Heap.get?_push_of_some _ (Heap.get?_push_size _ rfl)
  have m₁ : h₁.Main (topMg L mg0) c Pl (triples l).toArray := by
    obtain ⟨bm, o, hbm, hne0, hneG, hneP, hbo, hrest⟩ := m.bmod
    exact ⟨m.g.keeps hk₁, m.code.keeps hk₁, m.low, ⟨bm, o, hbm, hne0, hneG, hneP, hk₁ _ _ hbo, hrest⟩⟩
  refine wpAny_makeTail (env := mainEnv pw c F) (mg := topMg L mg0) (c := c) (Pl := Pl) (fun y hy => by have := List.all_eq_true.mp hfree y hy; simpa using this) m₁.g rfl m₁.code hN (Nat.ne_of_lt m.low.2) m₁.bmod
    fun c' doc h' tk hx hge hlt hok hrec => wpAny_bind (wpAny_standAt (wpAny_bind (wpAny_bindName (wpAny_storeName_local (env := mainEnv pw c F) hloc
      ((m₁.g.extBut hx (Nat.ne_of_lt m.low.2)).push _) (fun h'' hg' hs' => wpAny_pure (k h'.objs.size s.heap.objs.size (s.heap.objs.size + 1) _ ?_)) rfl))))
  dsimp only at hge hlt hx hs' ⊢
  obtain ⟨bm, o, hbm, hne0, hneG, hneP, hbo, hrest⟩ := m₁.bmod
  have zP : ∀ {b : Addr}, s.heap.objs.size ≤ b → b ≠ Pl := fun hb => T.neP hb
  have zG : ∀ {b : Addr}, s.heap.objs.size ≤ b → b ≠ mainGlobals := fun hb => T.neG hb
  have hc' : s.heap.objs.size ≤ c' := Nat.le_trans (by rw [hz₁]; omega) hge
  have ha : s.heap.objs.size ≤ h'.objs.size := Nat.le_trans hc' (Nat.le_of_lt hlt)
  have up : ∀ b o, b ≠ Pl → b ≠ mainGlobals → h₁.get? b = some o → h''.get? b = some o := fun b o q1 q2 q3 => (hs'.2 _ q2).trans (Heap.get?_push_of_some _ (hx _ _ q1 q3))
  have hz'' : h''.objs.size = h'.objs.size + 1 := by rw [hs'.1, Heap.size_push]
  refine T.bind ⟨l ++ [(pos, c')], by rw [List.map_append, e]; rfl, hg', ?_, m.low, ⟨bm, o, by simp only [Ne.symm hnb, if_false]; exact hbm, hne0, hneG, hneP, up _ _ hneP hneG hbo, hrest⟩⟩
    (fun b o q1 q2 q3 => up b o q1 q2 (hk₁ b o q3)) (by show _ ≤ h''.objs.size; rw [hz'']; exact Nat.le_succ_of_le ha) rfl rfl ⟨?_, ?_⟩ (fun h h' y z => ⟨z.1.kp y, z.2.kp y⟩)
  · have := (hok.push { cls := .type "function", data := .func (defFd x x (fA j) (fB j) (fS j) (mainEnv pw c F).globals (Value.ref s.heap.objs.size) (Value.ref (s.heap.objs.size + 1)) none ((topMg L mg0 "__name__").getD .none) (.ref c') doc) }).sameBut hs' (Nat.ne_of_gt m.low.1) (Nat.ne_of_gt m.low.2)
    rw [triples_append]
    simpa using this
  · refine ⟨zP ha, zG ha, _, _, _, _, c', _, (hs'.2 _ (zG ha)).trans (Heap.get?_push_size _ rfl), rfl, zP hc', zG hc', hrec.at fun o q => (hs'.2 _ (zG hc')).trans (Heap.get?_push_of_some _ q)⟩
  · have hT := zP (Nat.le_refl s.heap.objs.size)
    have hK : s.heap.objs.size ≤ s.heap.objs.size + 1 := Nat.le_succ _
    refine ⟨hT, zG (Nat.le_refl _), zP hK, zG hK, ⟨_, _, s.toks, up _ _ hT (zG (Nat.le_refl _)) hT₁, rfl⟩, _, hn₁.at fun o q => up _ _ (zP hK) (zG hK) q, by simp⟩
end
end MineT
namespace MineT
open Mine
/-! the tables B.3 and B.1 -/
noncomputable def keyOf : Option Expr → Int × Nat × Pos
  | some (.Constant (.int k) n p) => (k, n, p)
  | _ => default
noncomputable def textOf : Expr → Str × Nat × Pos
  | .Constant (.str x) n p => (x, n, p)
  | _ => default
noncomputable abbrev keyE (c : Int × Nat × Pos) : Option Expr := some (.Constant (.int c.1) c.2.1 c.2.2)
noncomputable abbrev textE (c : Str × Nat × Pos) : Expr := .Constant (.str c.1) c.2.1 c.2.2
section
variable {prog : Program} {w : World}
theorem rows_of {env : Env} {pos : Pos} : ∀ {ks : List (Int × Nat × Pos)} {vs : List (Str × Nat × Pos)}, ks.length = vs.length →
    ∃ ps, (evalEachOpt (ks.map keyE) env).zip ((evalEach (vs.map textE) env).map fun v => do let x ← v; standAt pos; pure x) = ps.map (fun p => (some p.1, p.2)) ∧ GivesAll prog w ps ((ks.zip vs).map fun p => (p.1.1, p.2.1))
  | [], [], _ => ⟨[], rfl, .nil⟩
  | k :: ks, v :: vs, h => by
    obtain ⟨ps, e, g⟩ := rows_of (ks := ks) (vs := vs) (env := env) (pos := pos) (by simpa using h)
    refine ⟨(eval (.Constant (.int k.1) k.2.1 k.2.2) env, do let x ← eval (textE v) env; standAt pos; pure x) :: ps, ?_, .cons (fun A E s => ⟨fun Q q => ?_, fun Q q => ?_⟩) g⟩
    · exact congrArg (List.cons _) e
    · exact wpAny_Constant_int (env := env) (k := k.2.1) (pos := k.2.2) (q _ _)
    · exact wpAny_bind (Calls.Constant_str (wpAny_bind (wpAny_standAt (wpAny_pure (q _ _)))))
end
noncomputable def b3ks : List (Option Expr) := match pw.main.body.drop 13 with | .Assign _ (.Dict ks _ _) _ :: _ => ks | _ => []
noncomputable def b3vs : List Expr := match pw.main.body.drop 13 with | .Assign _ (.Dict _ vs _) _ :: _ => vs | _ => []
noncomputable def b3K : List (Int × Nat × Pos) := b3ks.map keyOf
noncomputable def b3V : List (Str × Nat × Pos) := b3vs.map textOf
noncomputable def b3rows : List (Int × Str) := (b3K.zip b3V).map fun p => (p.1.1, p.2.1)
theorem b3_keys : b3ks = b3K.map keyE := by kernel_rfl
theorem b3_texts : b3vs = b3V.map textE := by kernel_rfl
theorem b3_even : b3K.length = b3V.length := by decide +kernel
noncomputable def ascB : List Int → Bool
  | a :: b :: l => decide (a < b) && ascB (b :: l)
  | _ => true
theorem asc_pair : ∀ {l : List Int}, ascB l = true → l.Pairwise (· < ·)
  | [], _ => .nil
  | [a], _ => by simp
  | a :: b :: l, h => by
    simp only [ascB, Bool.and_eq_true, decide_eq_true_eq] at h
    have ih := asc_pair (l := b :: l) h.2
    refine List.pairwise_cons.mpr ⟨fun c hc => ?_, ih⟩
    rcases List.mem_cons.mp hc with rfl | hc
    · exact h.1
    · exact Int.lt_trans h.1 ((List.pairwise_cons.mp ih).1 c hc)
theorem b3_asc : ascB (b3rows.map (·.1)) = true := by decide +kernel
theorem b3_len : b3rows.length = 650 := by decide +kernel
theorem b3_nodup : (b3rows.map (·.1)).Nodup := (asc_pair b3_asc).imp fun h e => absurd (e ▸ h) (Int.lt_irrefl _)
theorem b3_great : greatCodes.all (fun k => (b3rows.find? fun d => decide (d.1 = k)).isNone) = true := by decide +kernel
theorem b3_odd : oddCodes.all (fun p => (b3rows.find? fun d => decide (d.1 = p.1)) == some (p.1, p.2)) = true := by decide +kernel
theorem told_none : ∀ {D : List (Int × Str)} {kvs : List (Int × Value)} {k : Int}, Told D kvs → D.find? (fun d => decide (d.1 = k)) = none → valueAt kvs k = none
  | _, _, _, .nil, _ => rfl
  | _, _, k, .cons (k := k') r, h => by
    rw [List.find?_cons] at h
    split at h
    · cases h
    · rename_i hk
      have := told_none r h
      unfold valueAt at this ⊢
      rw [List.find?_cons]
      dsimp only at hk ⊢
      rw [hk]
      exact this
theorem told_some : ∀ {D : List (Int × Str)} {kvs : List (Int × Value)} {k : Int} {x : Str}, Told D kvs → D.find? (fun d => decide (d.1 = k)) = some (k, x) → ∃ t, valueAt kvs k = some (.str x t)
  | _, _, k, x, .cons (k := k') (t := t) r, h => by
    rw [List.find?_cons] at h
    split at h
    · rename_i hk
      cases h
      refine ⟨t, ?_⟩
      unfold valueAt
      rw [List.find?_cons]
      dsimp only
      rw [hk]; rfl
    · rename_i hk
      obtain ⟨t, ht⟩ := told_some r h
      refine ⟨t, ?_⟩
      unfold valueAt at ht ⊢
      rw [List.find?_cons]
      dsimp only at hk ⊢
      rw [hk]
      exact ht
/-- what the name b3_exceptions bears -/
noncomputable def B3S (w : World) (Pl : Addr) (v : Value) (h : Heap) : Prop := ∃ a kvs, v = .ref a ∧ a ≠ Pl ∧ a ≠ mainGlobals ∧ (a == sysModules) = false ∧ Told b3rows kvs ∧ h.DictOf (intKind pw w) a kvs
theorem B3S.kp {w : World} {Pl : Addr} {v : Value} {h h' : Heap} (y : Kp Pl h h') (x : B3S w Pl v h) : B3S w Pl v h' := by
  obtain ⟨a, kvs, e, h1, h2, h3, t, d⟩ := x
  exact ⟨a, kvs, e, h1, h2, h3, t, d.at fun o q => y _ _ h1 h2 q⟩
theorem B3S.b3 {w : World} {Pl : Addr} {v : Value} {h : Heap} {mg : Str → Option Value} (x : B3S w Pl v h) (e : mg "b3_exceptions" = some v) : B3 h mg := by
  obtain ⟨a, kvs, rfl, h1, h2, h3, t, d⟩ := x
  refine ⟨a, valueAt kvs, e, h3, fun w' => (show h.MapOf (intKind pw w) a _ from d.mapOf), fun k hk => ?_, fun p hp => ?_⟩
  · have := List.all_eq_true.mp b3_great k hk
    exact told_none t (Option.isNone_iff_eq_none.mp this)
  · have := List.all_eq_true.mp b3_odd p hp
    exact told_some t (eq_of_beq this)
section
variable {w : World} {A : Around} {E : Value → Shared → Prop} {s : Shared} {c Pl F : Addr}
theorem b3_value {p : Pos} (hbig : sysModules < s.heap.objs.size) (hP : Pl < s.heap.objs.size) (hG : mainGlobals < s.heap.objs.size) (Q' : Value → Shared → Prop)
    (q : ∀ v h' tk, (∀ b o, s.heap.get? b = some o → h'.get? b = some o) → s.heap.objs.size ≤ h'.objs.size → B3S w Pl v h' → Q' v { s with heap := h', toks := tk }) : wpAny (MM w) A (eval (.Dict b3ks b3vs p) (mainEnv pw c F)) Q' E s := by
  obtain ⟨ps, e, g⟩ := rows_of (prog := pw) (w := w) (env := mainEnv pw c F) (pos := p) b3_even
  rw [← b3_keys, ← b3_texts] at e
  rw [arm_eval_Dict, e]
  refine wpAny_bind (wpAny_standAt (long_display g b3_nodup (by rw [show ((b3K.zip b3V).map fun p => (p.1.1, p.2.1)).length = 650 from b3_len]; decide) (fun h => by have := b3_len; unfold b3rows at this; rw [h] at this; cases this) hbig fun h' tk kvs d ht hd hge hk => ?_))
  exact q _ h' tk hk (Nat.le_trans hge (Nat.le_of_lt (dict_lt hd))) ⟨d, kvs, rfl, Nat.ne_of_gt (Nat.lt_of_lt_of_le hP hge), Nat.ne_of_gt (Nat.lt_of_lt_of_le hG hge), beq_eq_false_iff_ne.mpr (Nat.ne_of_gt (Nat.lt_of_lt_of_le hbig hge)), ht, hd⟩
end
end MineT
namespace MineT
open Mine
theorem ints_data : ∀ {vs : List Value} {ds : List PyData} {ns : List Int}, DataAre vs ds → ds = ns.map .int → IntsAre vs ns
  | _, _, [], .nil, _ => .nil
  | _, _, n :: ns, .cons (v := v) a r, e => by
    rw [List.map_cons, List.cons.injEq] at e
    obtain ⟨rfl, e⟩ := e
    have ih := ints_data r e
    have := a {}
    cases this with
    | int t => exact .cons _ _ ih
theorem ints_fun : ∀ {vs : List Value} {a : Int} {k i : Nat}, vs.length = k → (∀ j v, vs[j]? = some v → ∃ t, v = Value.int (a + ((i + j : Nat) : Int)) t) → IntsAre vs ((List.range' i k).map fun j : Nat => a + (j : Int))
  | [], a, 0, i, _, _ => .nil
  | v :: vs, a, k + 1, i, hl, h => by
    obtain ⟨t, rfl⟩ := h 0 v rfl
    have ih := ints_fun (vs := vs) (a := a) (k := k) (i := i + 1) (by simpa using hl) (fun j v hv => by
      obtain ⟨t, e⟩ := h (j + 1) v (by simpa using hv)
      exact ⟨t, by rw [e]; congr 2; omega⟩)
    rw [List.range'_succ, List.map_cons]
    exact .cons _ _ ih
/-- what the name b1_set bears -/
noncomputable def b1ints : List Int := [173, 847, 6150, 6155, 6156, 6157, 8203, 8204, 8205, 8288, 65279] ++ (List.range' 0 16).map fun j : Nat => 65024 + (j : Int)
noncomputable def b1has (k : Int) : Bool := (firstMet (fun i => b1ints.getD i 0) 27).any (· == k)
noncomputable def B1S (w : World) (Pl : Addr) (v : Value) (h : Heap) : Prop := ∃ a n, v = .ref a ∧ a ≠ Pl ∧ a ≠ mainGlobals ∧ h.SetOf (intKind pw w) a b1has n
theorem B1S.kp {w : World} {Pl : Addr} {v : Value} {h h' : Heap} (y : Kp Pl h h') (x : B1S w Pl v h) : B1S w Pl v h' := by
  obtain ⟨a, n, e, h1, h2, o, es, ep, t, ho, r⟩ := x
  exact ⟨a, n, e, h1, h2, o, es, ep, t, y _ _ h1 h2 ho, r⟩
theorem b1_yes : unseenCodes.all b1has = true := by decide +kernel
theorem b1_no : (greatCodes ++ oddCodes.map (·.1)).all (fun k => !b1has k) = true := by decide +kernel
theorem B1S.b1 {w : World} {Pl : Addr} {v : Value} {h : Heap} {mg : Str → Option Value} (x : B1S w Pl v h) (e : mg "b1_set" = some v) : B1 h mg := by
  obtain ⟨a, n, rfl, h1, h2, d⟩ := x
  refine ⟨a, n, b1has, e, fun w' => (show h.SetOf (intKind pw w) a _ _ from d), fun k hk => List.all_eq_true.mp b1_yes k hk, fun k hk => ?_⟩
  have := List.all_eq_true.mp b1_no k hk
  simpa using this
section
variable {w : World} {A : Around} {E : Value → Shared → Prop} {s : Shared} {c Pl F : Addr} {mg mb : Str → Option Value}
theorem Name_top {x : Str} {p : Pos} {v : Value} {Q : Value → Shared → Prop} (hg : s.heap.Ns mainGlobals mg) (hno : mg x = none) (hb : s.heap.Ns builtinsNs mb) (hyes : mb x = some v) (q : Q v s)
    (hd : (x == ("__debug__" : Str)) = false := by decide +kernel) : wpAny (MM w) A (eval (.Name x p) (mainEnv pw c F)) Q E s :=
  Calls.Name_module rfl rfl (Calls.loadGlobal_builtin hg hno hb hyes q) hd
theorem b1_value {es : List Expr} {p1 p2 p3 p4 p5 p6 p7 p8 p9 p10 : Pos} {k1 k2 : Nat} (hes : tupLitsOf es = some (([173, 847, 6150, 6155, 6156, 6157, 8203, 8204, 8205, 8288, 65279] : List Int).map .int)) (hA : A.handled = none)
    (hg : s.heap.Ns mainGlobals mg) (hb : s.heap.Ns builtinsNs mb) (n1 : mg "set" = none) (n2 : mg "list" = none) (n3 : mg "range" = none) (y1 : mb "set" = some (.type "set")) (y2 : mb "list" = some (.type "list")) (y3 : mb "range" = some (.type "range"))
    (hP : Pl < s.heap.objs.size) (hG : mainGlobals < s.heap.objs.size) (Q' : Value → Shared → Prop)
    (q : ∀ v h' tk, (∀ b o, s.heap.get? b = some o → h'.get? b = some o) → s.heap.objs.size ≤ h'.objs.size → B1S w Pl v h' → Q' v { s with heap := h', toks := tk }) :
    wpAny (MM w) A (eval (.Call (.Name "set" p1) [.BinOp (.List es p2) .Add (.Call (.Name "list" p3) [.Call (.Name "range" p4) [.Constant (.int 65024) k1 p5, .Constant (.int 65040) k2 p6] [] p7] [] p8) p9] [] p10) (mainEnv pw c F)) Q' E s := by
  refine Call_ (Name_top hg n1 hb y1 ?_)
  refine PyProof.Rows.callWith_type1 (spliced_cons ?_)
  refine wpAny_BinOp ?_
  rw [arm_eval_List]
  refine wpAny_bind (wpAny_standAt (wpAny_bind (spliced_lits _ _ _ _ hes fun vs tk hvs => ?_)))
  have hi1 := ints_data hvs rfl
  have hl1 : vs.length = 11 := IntsAre.length hi1
  refine wpAny_newObj_type ?_ (by show vs.toArray.size ≤ sizeLine; rw [List.size_toArray, hl1, sizeLine_eq]; decide)
  have hk1 : ∀ b o, s.heap.get? b = some o → (s.heap.push { cls := .type "list", data := .seq vs.toArray }).get? b = some o := fun b o e => Heap.get?_push_of_some _ e
  refine Call_ (Name_top (hg.keeps hk1) n2 (hb.keeps hk1) y2 ?_)
  refine PyProof.Rows.callWith_type1 (spliced_cons ?_)
  refine Call_ (Name_top (hg.keeps hk1) n3 (hb.keeps hk1) y3 ?_)
  refine PyProof.Rows.callWith_type1 (spliced_cons (wpAny_Constant_int (env := mainEnv pw c F) (k := k1) (pos := p5) (spliced_cons (wpAny_Constant_int (env := mainEnv pw c F) (k := k2) (pos := p6) (spliced_nil ?_)))))
  refine call_range_2 (spliced_nil ?_)
  dsimp only
  generalize hH : s.heap.push { cls := .type "list", data := .seq vs.toArray } = H at hk1 ⊢
  have hH1 : H.get? s.heap.objs.size = some { cls := .type "list", data := .seq vs.toArray } := by rw [← hH]; exact Heap.get?_push_size _ rfl
  have hHz : H.objs.size = s.heap.objs.size + 1 := by rw [← hH, Heap.size_push]
  refine call_list_range (n := 16) hA (IsRange.new ..) (by decide +kernel) (by decide +kernel) (by decide) fun h₂ tk₂ acc c₂ hk₂ hl₂ hit => ?_
  dsimp only at hk₂ hl₂ ⊢
  obtain ⟨hsz, hit⟩ := hit
  have hk2 : ∀ b o, s.heap.get? b = some o → h₂.get? b = some o := fun b o e => hk₂ b o (Heap.get?_push_of_some _ (hk1 b o e))
  have hL1 : h₂.get? s.heap.objs.size = some { cls := .type "list", data := .seq vs.toArray } := hk₂ _ _ (Heap.get?_push_of_some _ hH1)
  have hi2 : IntsAre acc.toList ((List.range' 0 16).map fun j : Nat => 65024 + (j : Int)) := ints_fun (by simpa using hsz) (fun j v hv => by
    obtain ⟨t, e⟩ := hit j v (by simpa using hv)
    exact ⟨t, by rw [e, Nat.zero_add, Int.mul_one]⟩)
  have e : vs.toArray ++ acc = (vs ++ acc.toList).toArray := by simp
  have hl2 : acc.toList.length = 16 := IntsAre.length hi2
  refine concat_meets ⟨_, hL1, rfl⟩ ⟨_, hl₂, rfl⟩ noFill_list_add seq_list_add PySem.F.slot_list_add PySem.F.entry_list_add (PySem.F.args_list_add_2 _ _)
    (list_addW _ _ vs.toArray acc _ _ _ _ _ _ (by rw [sizeLine_eq]; simp at hl2 ⊢; omega)) ⟨hL1, hl₂, ?_⟩
  rw [e]
  refine spliced_nil ?_
  dsimp only
  have hi : IntsAre (vs ++ acc.toList).toArray.toList b1ints := hi1.append hi2
  have hln : (vs ++ acc.toList).toArray.size = 27 := by simp at hl2 ⊢; omega
  refine call_set_list (items := (vs ++ acc.toList).toArray) (ns := b1ints) hA ⟨_, Heap.get?_push_size _ rfl, rfl, 0, rfl⟩ hi (by rw [hln]; decide) fun h' tk' hS hk' => ?_
  rw [hln] at hS
  dsimp only at hk' hS ⊢
  have hz2 : s.heap.objs.size ≤ h₂.objs.size := Nat.le_of_lt (Heap.lt_size hL1)
  have hz3 : s.heap.objs.size ≤ (h₂.push { cls := .type "list", dict := none, data := .seq (vs ++ acc.toList).toArray }).objs.size := by rw [Heap.size_push]; exact Nat.le_succ_of_le hz2
  have hlt : (h₂.push { cls := .type "list", dict := none, data := .seq (vs ++ acc.toList).toArray }).objs.size < h'.objs.size := by obtain ⟨o, _, _, _, ho, _⟩ := hS; exact Heap.lt_size ho
  refine q _ h' tk' (fun b o g => hk' b o ?_ (Heap.get?_push_of_some _ (hk2 b o g))) (Nat.le_trans hz3 (Nat.le_of_lt hlt)) ⟨_, _, rfl, Nat.ne_of_gt (Nat.lt_of_lt_of_le hP hz3), Nat.ne_of_gt (Nat.lt_of_lt_of_le hG hz3), hS⟩
  exact Nat.lt_of_lt_of_le (Heap.lt_size g) hz3
end
end MineT
namespace MineT
open Mine
/-! the top's statements, one by one -/
noncomputable def fP (k : Nat) : Pos := match pw.main.body.drop k with | .FunctionDef _ _ _ _ _ _ _ _ _ p :: _ => p | _ => default
theorem st0 : ∃ p v q p' pos, pw.main.body.drop 0 = .Assign [.Name "__name__" p] (.Constant (.str v) q p') pos :: pw.main.body.drop 1 := ⟨_, _, _, _, _, rfl⟩
theorem st1 : pw.main.body.drop 1 = .FunctionDef "insort_right" (fA 1) (fB 1) [] none [] (fS 1) none "insort_right" (fP 1) :: pw.main.body.drop 2 := by kernel_rfl
theorem dk1 : ∃ k1 p1 k2 p2 k3 p3, ∀ env, defaultsOf (fA 1) env = ([eval (.Constant (.int 0) k1 p1) env, eval (.Constant .none k2 p2) env], [some (eval (.Constant .none k3 p3) env)]) := ⟨_, _, _, _, _, _, fun _ => rfl⟩
theorem st2 : pw.main.body.drop 2 = .FunctionDef "bisect_right" (fA 2) (fB 2) [] none [] (fS 2) none "bisect_right" (fP 2) :: pw.main.body.drop 3 := by kernel_rfl
theorem dk2 : ∃ k1 p1 k2 p2 k3 p3, ∀ env, defaultsOf (fA 2) env = ([eval (.Constant (.int 0) k1 p1) env, eval (.Constant .none k2 p2) env], [some (eval (.Constant .none k3 p3) env)]) := ⟨_, _, _, _, _, _, fun _ => rfl⟩
theorem st3 : pw.main.body.drop 3 = .FunctionDef "bisect_left" (fA 3) (fB 3) [] none [] (fS 3) none "bisect_left" (fP 3) :: pw.main.body.drop 4 := by kernel_rfl
theorem dk3 : ∃ k1 p1 k2 p2 k3 p3, ∀ env, defaultsOf (fA 3) env = ([eval (.Constant (.int 0) k1 p1) env, eval (.Constant .none k2 p2) env], [some (eval (.Constant .none k3 p3) env)]) := ⟨_, _, _, _, _, _, fun _ => rfl⟩
theorem st4 : ∃ p v q p' pos, pw.main.body.drop 4 = .Assign [.Name "__name__" p] (.Constant (.str v) q p') pos :: pw.main.body.drop 5 := ⟨_, _, _, _, _, rfl⟩
theorem st5 : ∃ p q p' pos, pw.main.body.drop 5 = .Assign [.Name "TICK" p] (.Constant (.str "'") q p') pos :: pw.main.body.drop 6 := ⟨_, _, _, _, rfl⟩
theorem st6 : pw.main.body.drop 6 = .FunctionDef "_iter_escaped_chars" (fA 6) (fB 6) [] none [] (fS 6) none "_iter_escaped_chars" (fP 6) :: pw.main.body.drop 7 := by kernel_rfl
theorem pt6 : PlainDefTree "_iter_escaped_chars" (fA 6) (fB 6) (fS 6) (fP 6) := fun env => rfl
theorem st7 : pw.main.body.drop 7 = .FunctionDef "_strip_quoted_realnames" (fA 7) (fB 7) [] none [] (fS 7) none "_strip_quoted_realnames" (fP 7) :: pw.main.body.drop 8 := by kernel_rfl
theorem pt7 : PlainDefTree "_strip_quoted_realnames" (fA 7) (fB 7) (fS 7) (fP 7) := fun env => rfl
theorem st8 : pw.main.body.drop 8 = .FunctionDef "_check_parenthesis" (fA 8) (fB 8) [] none [] (fS 8) none "_check_parenthesis" (fP 8) :: pw.main.body.drop 9 := by kernel_rfl
theorem pt8 : PlainDefTree "_check_parenthesis" (fA 8) (fB 8) (fS 8) (fP 8) := fun env => rfl
theorem st9 : pw.main.body.drop 9 = .FunctionDef "decode_rfc2231" (fA 9) (fB 9) [] none [] (fS 9) none "decode_rfc2231" (fP 9) :: pw.main.body.drop 10 := by kernel_rfl
theorem pt9 : PlainDefTree "decode_rfc2231" (fA 9) (fB 9) (fS 9) (fP 9) := fun env => rfl
theorem st10 : ∃ p v q p' pos, pw.main.body.drop 10 = .Assign [.Name "__name__" p] (.Constant (.str v) q p') pos :: pw.main.body.drop 11 := ⟨_, _, _, _, _, rfl⟩
theorem st11 : ∃ p pos es p1 p2 p3 p4 p5 p6 p7 p8 p9 p10 k1 k2, pw.main.body.drop 11 = .Assign [.Name "b1_set" p] (.Call (.Name "set" p1) [.BinOp (.List es p2) .Add (.Call (.Name "list" p3) [.Call (.Name "range" p4) [.Constant (.int 65024) k1 p5, .Constant (.int 65040) k2 p6] [] p7] [] p8) p9] [] p10) pos :: pw.main.body.drop 12 ∧ tupLitsOf es = some (([173, 847, 6150, 6155, 6156, 6157, 8203, 8204, 8205, 8288, 65279] : List Int).map .int) := ⟨_, _, _, _, _, _, _, _, _, _, _, _, _, _, _, rfl, rfl⟩
theorem st12 : pw.main.body.drop 12 = .FunctionDef "in_table_b1" (fA 12) (fB 12) [] none [] (fS 12) none "in_table_b1" (fP 12) :: pw.main.body.drop 13 := by kernel_rfl
theorem pt12 : PlainDefTree "in_table_b1" (fA 12) (fB 12) (fS 12) (fP 12) := fun env => rfl
noncomputable def b3p : Pos × Pos × Pos := match pw.main.body.drop 13 with | .Assign [.Name _ p] (.Dict _ _ q) r :: _ => (p, q, r) | _ => default
theorem st13 : pw.main.body.drop 13 = .Assign [.Name "b3_exceptions" b3p.1] (.Dict b3ks b3vs b3p.2.1) b3p.2.2 :: pw.main.body.drop 14 := by kernel_rfl
theorem st14 : pw.main.body.drop 14 = .FunctionDef "map_table_b3" (fA 14) (fB 14) [] none [] (fS 14) none "map_table_b3" (fP 14) :: pw.main.body.drop 15 := by kernel_rfl
theorem pt14 : PlainDefTree "map_table_b3" (fA 14) (fB 14) (fS 14) (fP 14) := fun env => rfl
theorem st15 : ∃ p v q p' pos, pw.main.body.drop 15 = .Assign [.Name "__name__" p] (.Constant (.str v) q p') pos :: pw.main.body.drop 16 := ⟨_, _, _, _, _, rfl⟩
theorem st16 : ∃ p q p' pos, pw.main.body.drop 16 = .Assign [.Name "ENDMARKER" p] (.Constant (.int 0) q p') pos :: pw.main.body.drop 17 := ⟨_, _, _, _, rfl⟩
theorem st17 : ∃ p q p' pos, pw.main.body.drop 17 = .Assign [.Name "NT_OFFSET" p] (.Constant (.int 256) q p') pos :: pw.main.body.drop 18 := ⟨_, _, _, _, rfl⟩
theorem st18 : pw.main.body.drop 18 = .FunctionDef "ISTERMINAL" (fA 18) (fB 18) [] none [] (fS 18) none "ISTERMINAL" (fP 18) :: pw.main.body.drop 19 := by kernel_rfl
theorem pt18 : PlainDefTree "ISTERMINAL" (fA 18) (fB 18) (fS 18) (fP 18) := fun env => rfl
theorem st19 : pw.main.body.drop 19 = .FunctionDef "ISNONTERMINAL" (fA 19) (fB 19) [] none [] (fS 19) none "ISNONTERMINAL" (fP 19) :: pw.main.body.drop 20 := by kernel_rfl
theorem pt19 : PlainDefTree "ISNONTERMINAL" (fA 19) (fB 19) (fS 19) (fP 19) := fun env => rfl
theorem st20 : pw.main.body.drop 20 = .FunctionDef "ISEOF" (fA 20) (fB 20) [] none [] (fS 20) none "ISEOF" (fP 20) :: pw.main.body.drop 21 := by kernel_rfl
theorem pt20 : PlainDefTree "ISEOF" (fA 20) (fB 20) (fS 20) (fP 20) := fun env => rfl
theorem st21 : ∃ p v q p' pos, pw.main.body.drop 21 = .Assign [.Name "__name__" p] (.Constant (.str v) q p') pos :: pw.main.body.drop 22 := ⟨_, _, _, _, _, rfl⟩
theorem st22 : pw.main.body.drop 22 = .FunctionDef "_law_item" (fA 22) (fB 22) [] none [] (fS 22) none "_law_item" (fP 22) :: pw.main.body.drop 23 := by kernel_rfl
theorem pt22 : PlainDefTree "_law_item" (fA 22) (fB 22) (fS 22) (fP 22) := fun env => rfl
theorem st23 : pw.main.body.drop 23 = .FunctionDef "_law_word" (fA 23) (fB 23) [] none [] (fS 23) none "_law_word" (fP 23) :: pw.main.body.drop 24 := by kernel_rfl
theorem pt23 : PlainDefTree "_law_word" (fA 23) (fB 23) (fS 23) (fP 23) := fun env => rfl
theorem st24 : pw.main.body.drop 24 = .FunctionDef "_law_leaves" (fA 24) (fB 24) [] none [] (fS 24) none "_law_leaves" (fP 24) :: pw.main.body.drop 25 := by kernel_rfl
theorem pt24 : PlainDefTree "_law_leaves" (fA 24) (fB 24) (fS 24) (fP 24) := fun env => rfl
theorem st25 : pw.main.body.drop 25 = .FunctionDef "_law_first_fit" (fA 25) (fB 25) [] none [] (fS 25) none "_law_first_fit" (fP 25) :: pw.main.body.drop 26 := by kernel_rfl
theorem pt25 : PlainDefTree "_law_first_fit" (fA 25) (fB 25) (fS 25) (fP 25) := fun env => rfl
theorem st26 : pw.main.body.drop 26 = .FunctionDef "law" (fA 26) (fB 26) [] none [] (fS 26) none "law" (fP 26) :: pw.main.body.drop 27 := by kernel_rfl
theorem pt26 : PlainDefTree "law" (fA 26) (fB 26) (fS 26) (fP 26) := fun env => rfl
theorem st27 : pw.main.body.drop 27 = [] := by kernel_rfl
end MineT
namespace MineT
open Mine
/-! the walk through the top -/
noncomputable def FnK' (Pl : Addr) (h : Heap) (mg : Str → Option Value) (x : Str) (k : Nat) : Prop := ∃ a T K, mg x = some (.ref a) ∧ FnS Pl h a x k (.ref T) (.ref K) ∧ DkS Pl h T K
noncomputable def FnP' (Pl : Addr) (h : Heap) (mg : Str → Option Value) (x : Str) (k : Nat) : Prop := ∃ a, mg x = some (.ref a) ∧ FnS Pl h a x k .none .none
structure Tables (w : World) (Pl : Addr) (h : Heap) (mg : Str → Option Value) : Prop where
  f1 : FnK' Pl h mg "insort_right" 1
  f2 : FnK' Pl h mg "bisect_right" 2
  f3 : FnK' Pl h mg "bisect_left" 3
  f6 : FnP' Pl h mg "_iter_escaped_chars" 6
  f7 : FnP' Pl h mg "_strip_quoted_realnames" 7
  f8 : FnP' Pl h mg "_check_parenthesis" 8
  f9 : FnP' Pl h mg "decode_rfc2231" 9
  f12 : FnP' Pl h mg "in_table_b1" 12
  f14 : FnP' Pl h mg "map_table_b3" 14
  f18 : FnP' Pl h mg "ISTERMINAL" 18
  f19 : FnP' Pl h mg "ISNONTERMINAL" 19
  f20 : FnP' Pl h mg "ISEOF" 20
  f22 : FnP' Pl h mg "_law_item" 22
  f23 : FnP' Pl h mg "_law_word" 23
  f24 : FnP' Pl h mg "_law_leaves" 24
  f25 : FnP' Pl h mg "_law_first_fit" 25
  f26 : FnP' Pl h mg "law" 26
  b1 : ∃ v, mg "b1_set" = some v ∧ B1S w Pl v h
  b3 : ∃ v, mg "b3_exceptions" = some v ∧ B3S w Pl v h
  tick : ∃ t, mg "TICK" = some (.str "'" t)
  fin : ∃ t, mg "ENDMARKER" = some (.int 0 t)
  off : ∃ t, mg "NT_OFFSET" = some (.int 256 t)
noncomputable def topNames : List Str := ["__name__", "insort_right", "bisect_right", "bisect_left", "TICK", "_iter_escaped_chars", "_strip_quoted_realnames", "_check_parenthesis", "decode_rfc2231", "b1_set", "in_table_b1", "b3_exceptions", "map_table_b3", "ENDMARKER", "NT_OFFSET", "ISTERMINAL", "ISNONTERMINAL", "ISEOF", "_law_item", "_law_word", "_law_leaves", "_law_first_fit", "law"]
structure TopDone (w : World) (h₀ : Heap) (gs : Array GenState) (os : OsState) (mg0 : Str → Option Value) (Pl : Addr) (s : Shared) : Prop where
  is : ∃ L, s.heap.Ns mainGlobals (topMg L mg0) ∧ (L.map (·.1)).all (fun x => topNames.contains x) = true ∧ Tables w Pl s.heap (topMg L mg0)
  keep : Kp Pl h₀ s.heap
  gens : s.gens = gs
  os : s.os = os
theorem lk {L : List (Str × Value)} {mg0 : Str → Option Value} {x : Str} {v : Value} (h : L.lookup x = some v) : topMg L mg0 x = some v := by unfold topMg; rw [h]; rfl
theorem lk0 {L : List (Str × Value)} {mg0 : Str → Option Value} {x : Str} (h : L.lookup x = none) (h0 : mg0 x = none) : topMg L mg0 x = none := by unfold topMg; rw [h, h0]; rfl
section
variable {w : World} {A : Around} {E : Value → Shared → Prop} {s : Shared} {h₀ : Heap} {gs : Array GenState} {os : OsState} {mg0 mb : Str → Option Value} {c Pl F : Addr} {Q : Flow → Shared → Prop}
theorem sw13 : swapsWith (.Dict b3ks b3vs b3p.2.1) (some (.Name "b3_exceptions" b3p.1)) b3p.2.2.line (mainEnv pw c F) = pure false := by kernel_rfl
theorem lc13 : pw.main.scope.names.lookup ("b3_exceptions" : Str) = some .local := by kernel_rfl
theorem nb13 : ("b3_exceptions" : Str) ≠ "__builtins__" := by decide +kernel
theorem step13g {lp : List Pos} {L : List (Str × Value)} {P : Heap → Prop} {x : Str} {p pos p1 : Pos} {ks : List (Option Expr)} {vs : List Expr} {rest : List Stmt} {G : Value → Heap → Prop} (T : TS h₀ gs os mg0 c Pl lp L P s)
    (v : ∀ Q' : Value → Shared → Prop, (∀ v h' tk, (∀ b o, s.heap.get? b = some o → h'.get? b = some o) → s.heap.objs.size ≤ h'.objs.size → G v h' → Q' v { s with heap := h', toks := tk }) → wpAny (MM w) A (eval (.Dict ks vs p1) (mainEnv pw c F)) Q' E s)
    (hS : ∀ v h h', Kp Pl h h' → G v h → G v h')
    (k : ∀ v s', TS h₀ gs os mg0 c Pl lp ((x, v) :: L) (fun h => P h ∧ G v h) s' → wpAny (MM w) A (execs rest (mainEnv pw c F)) Q E s') (lc : pw.main.scope.names.lookup x = some .local) (nb : x ≠ "__builtins__")
    (sw : swapsWith (.Dict ks vs p1) (some (.Name x p)) pos.line (mainEnv pw c F) = pure false) : wpAny (MM w) A (execs (.Assign [.Name x p] (.Dict ks vs p1) pos :: rest) (mainEnv pw c F)) Q E s :=
  step_assign T v hS k lc nb sw
theorem step13 {lp : List Pos} {L : List (Str × Value)} {P : Heap → Prop} (T : TS h₀ gs os mg0 c Pl lp L P s) (hbig : sysModules < h₀.objs.size)
    (k : ∀ v s', TS h₀ gs os mg0 c Pl lp (("b3_exceptions", v) :: L) (fun h => P h ∧ B3S w Pl v h) s' → wpAny (MM w) A (execs (pw.main.body.drop 14) (mainEnv pw c F)) Q E s') : wpAny (MM w) A (execs (pw.main.body.drop 13) (mainEnv pw c F)) Q E s := by
  rw [st13]
  have v := @b3_value w A E s c Pl F b3p.2.1 (Nat.lt_of_lt_of_le hbig T.grow) (Nat.lt_of_lt_of_le T.low.1 T.grow) (Nat.lt_of_lt_of_le T.low.2 T.grow)
  have sw := sw13 (c := c) (F := F)
  revert v sw
  generalize b3ks = ks
  generalize b3vs = vs
  generalize b3p.2.1 = p1
  intro v sw
  exact step13g T v (fun v h h' y z => z.kp y) k lc13 nb13 sw
set_option maxHeartbeats 4000000 in
theorem body_walk (T : TS h₀ gs os mg0 c Pl [] [] (fun _ => True) s) (hA : A.handled = none) (hb : h₀.Ns builtinsNs mb) (hbP : builtinsNs ≠ Pl) (hbig : sysModules < h₀.objs.size)
    (n1 : mg0 "set" = none) (n2 : mg0 "list" = none) (n3 : mg0 "range" = none) (y1 : mb "set" = some (.type "set")) (y2 : mb "list" = some (.type "list")) (y3 : mb "range" = some (.type "range"))
    (q : ∀ s', TopDone w h₀ gs os mg0 Pl s' → Q .next s') : wpAny (MM w) A (execs pw.main.body (mainEnv pw c F)) Q E s := by
  show wpAny (MM w) A (execs (pw.main.body.drop 0) (mainEnv pw c F)) Q E s
  obtain ⟨_, _, _, _, _, e0⟩ := st0
  rw [e0]
  refine step_assign (G := fun _ _ => True) T (fun Q' q => Calls.Constant_str (q _ _ _ (fun _ _ e => e) (Nat.le_refl _) trivial)) (fun _ _ _ _ _ => trivial) fun v0 s0 T0 => ?_
  rw [st1]
  obtain ⟨_, _, _, _, _, _, d1⟩ := dk1
  refine step_defkw T0 (fun a1 D1 K1 s1 T1 => ?_) d1 (fun _ => rfl)
  rw [st2]
  obtain ⟨_, _, _, _, _, _, d2⟩ := dk2
  refine step_defkw T1 (fun a2 D2 K2 s2 T2 => ?_) d2 (fun _ => rfl)
  rw [st3]
  obtain ⟨_, _, _, _, _, _, d3⟩ := dk3
  refine step_defkw T2 (fun a3 D3 K3 s3 T3 => ?_) d3 (fun _ => rfl)
  obtain ⟨_, _, _, _, _, e4⟩ := st4
  rw [e4]
  refine step_assign (G := fun _ _ => True) T3 (fun Q' q => Calls.Constant_str (q _ _ _ (fun _ _ e => e) (Nat.le_refl _) trivial)) (fun _ _ _ _ _ => trivial) fun v4 s4 T4 => ?_
  obtain ⟨_, _, _, _, e5⟩ := st5
  rw [e5]
  refine step_assign (G := fun v _ => ∃ t, v = .str "'" t) T4 (fun Q' q => Calls.Constant_str (q _ _ _ (fun _ _ e => e) (Nat.le_refl _) ⟨_, rfl⟩)) (fun _ _ _ _ z => z) fun v5 s5 T5 => ?_
  rw [st6]
  refine step_def T5 (fun a6 s6 T6 => ?_) pt6
  rw [st7]
  refine step_def T6 (fun a7 s7 T7 => ?_) pt7
  rw [st8]
  refine step_def T7 (fun a8 s8 T8 => ?_) pt8
  rw [st9]
  refine step_def T8 (fun a9 s9 T9 => ?_) pt9
  obtain ⟨_, _, _, _, _, e10⟩ := st10
  rw [e10]
  refine step_assign (G := fun _ _ => True) T9 (fun Q' q => Calls.Constant_str (q _ _ _ (fun _ _ e => e) (Nat.le_refl _) trivial)) (fun _ _ _ _ _ => trivial) fun v10 s10 T10 => ?_
  obtain ⟨_, _, _, _, _, _, _, _, _, _, _, _, _, _, _, e11, hes⟩ := st11
  rw [e11]
  obtain ⟨l10, _, m10⟩ := T10.main
  refine step_assign (G := fun v h => B1S w Pl v h) T10 (fun Q' q => b1_value hes hA m10.g (hb.at fun o e => T10.keep _ _ hbP (by decide) e) (lk0 (by kernel_rfl) n1) (lk0 (by kernel_rfl) n2) (lk0 (by kernel_rfl) n3) y1 y2 y3 (Nat.lt_of_lt_of_le T10.low.1 T10.grow) (Nat.lt_of_lt_of_le T10.low.2 T10.grow) Q' q) (fun v h h' y z => z.kp y) fun v11 s11 T11 => ?_
  rw [st12]
  refine step_def T11 (fun a12 s12 T12 => ?_) pt12
  refine @step13 w A E s12 h₀ gs os mg0 c Pl F Q _ _ _ T12 hbig ?_
  intro v13 s13 T13
  rw [st14]
  refine step_def T13 (fun a14 s14 T14 => ?_) pt14
  obtain ⟨_, _, _, _, _, e15⟩ := st15
  rw [e15]
  refine step_assign (G := fun _ _ => True) T14 (fun Q' q => Calls.Constant_str (q _ _ _ (fun _ _ e => e) (Nat.le_refl _) trivial)) (fun _ _ _ _ _ => trivial) fun v15 s15 T15 => ?_
  obtain ⟨_, _, _, _, e16⟩ := st16
  rw [e16]
  refine step_assign (G := fun v _ => ∃ t, v = .int 0 t) T15 (fun Q' q => wpAny_Constant_int (q _ _ _ (fun _ _ e => e) (Nat.le_refl _) ⟨_, rfl⟩)) (fun _ _ _ _ z => z) fun v16 s16 T16 => ?_
  obtain ⟨_, _, _, _, e17⟩ := st17
  rw [e17]
  refine step_assign (G := fun v _ => ∃ t, v = .int 256 t) T16 (fun Q' q => wpAny_Constant_int (q _ _ _ (fun _ _ e => e) (Nat.le_refl _) ⟨_, rfl⟩)) (fun _ _ _ _ z => z) fun v17 s17 T17 => ?_
  rw [st18]
  refine step_def T17 (fun a18 s18 T18 => ?_) pt18
  rw [st19]
  refine step_def T18 (fun a19 s19 T19 => ?_) pt19
  rw [st20]
  refine step_def T19 (fun a20 s20 T20 => ?_) pt20
  obtain ⟨_, _, _, _, _, e21⟩ := st21
  rw [e21]
  refine step_assign (G := fun _ _ => True) T20 (fun Q' q => Calls.Constant_str (q _ _ _ (fun _ _ e => e) (Nat.le_refl _) trivial)) (fun _ _ _ _ _ => trivial) fun v21 s21 T21 => ?_
  rw [st22]
  refine step_def T21 (fun a22 s22 T22 => ?_) pt22
  rw [st23]
  refine step_def T22 (fun a23 s23 T23 => ?_) pt23
  rw [st24]
  refine step_def T23 (fun a24 s24 T24 => ?_) pt24
  rw [st25]
  refine step_def T24 (fun a25 s25 T25 => ?_) pt25
  rw [st26]
  refine step_def T25 (fun a26 s26 T26 => ?_) pt26
  rw [st27]
  refine wpAny_execs_nil (q _ ?_)
  obtain ⟨l, _, m⟩ := T26.main
  obtain ⟨⟨⟨⟨⟨⟨⟨⟨⟨⟨⟨⟨⟨⟨⟨⟨⟨⟨⟨⟨⟨⟨⟨⟨⟨⟨⟨_, g0⟩, g1⟩, g2⟩, g3⟩, g4⟩, g5⟩, g6⟩, g7⟩, g8⟩, g9⟩, g10⟩, g11⟩, g12⟩, g13⟩, g14⟩, g15⟩, g16⟩, g17⟩, g18⟩, g19⟩, g20⟩, g21⟩, g22⟩, g23⟩, g24⟩, g25⟩, g26⟩ := T26.facts
  obtain ⟨t5, rfl⟩ := g5
  obtain ⟨t16, rfl⟩ := g16
  obtain ⟨t17, rfl⟩ := g17
  refine ⟨⟨_, m.g, by kernel_rfl, ?_⟩, T26.keep, T26.gens, T26.os⟩
  exact ⟨⟨a1, D1, K1, lk (by kernel_rfl), g1.1, g1.2⟩, ⟨a2, D2, K2, lk (by kernel_rfl), g2.1, g2.2⟩, ⟨a3, D3, K3, lk (by kernel_rfl), g3.1, g3.2⟩, ⟨a6, lk (by kernel_rfl), g6⟩, ⟨a7, lk (by kernel_rfl), g7⟩, ⟨a8, lk (by kernel_rfl), g8⟩, ⟨a9, lk (by kernel_rfl), g9⟩, ⟨a12, lk (by kernel_rfl), g12⟩, ⟨a14, lk (by kernel_rfl), g14⟩, ⟨a18, lk (by kernel_rfl), g18⟩, ⟨a19, lk (by kernel_rfl), g19⟩, ⟨a20, lk (by kernel_rfl), g20⟩, ⟨a22, lk (by kernel_rfl), g22⟩, ⟨a23, lk (by kernel_rfl), g23⟩, ⟨a24, lk (by kernel_rfl), g24⟩, ⟨a25, lk (by kernel_rfl), g25⟩, ⟨a26, lk (by kernel_rfl), g26⟩, ⟨v11, lk (by kernel_rfl), g11⟩, ⟨v13, lk (by kernel_rfl), g13⟩, ⟨t5, lk (by kernel_rfl)⟩, ⟨t16, lk (by kernel_rfl)⟩, ⟨t17, lk (by kernel_rfl)⟩⟩
end
end MineT
namespace MineT
open Mine
/-! from the walk to the machine's run -/
theorem runs_through {prog : Program} {w : World} {tree : Sem Fin} {s : Shared} {P : Shared → Prop} (hreg : s.asleep)
    (h : wpAny (model prog w) callerA tree (fun fin s' => fin = .done (.ret .none) ∧ P s' ∧ s'.gens = #[]) (fun _ _ => False) s) :
    ∃ n s₁ t, schedN (denote table) prog w n (.single s ⟨tree, .builtin "claim.caller" {}, default, []⟩) = .running (.single s₁ t) ∧ through t = true ∧ P s₁ ∧ s₁.heap.life = s.heap.life ∧ s₁.gens = #[] := by
  -- the run ends, and is calm all the way
  have h1 := wp_of_wpAny_done (R := fun r s' => (r = .ok (.ret .none) ∧ P s' ∧ s'.gens = #[]) ∧ leftWithCleanup s'.gens = false) caller_in (wpAny_mono h (fun fin s' x => ⟨_, x.1, ⟨rfl, x.2⟩, by rw [x.2.2]; simp [leftWithCleanup]⟩) fun _ _ x => x.elim) default
  obtain ⟨n, r, s', hn, rfl, hP, hg⟩ := (wp_iff_halts (M := model prog w) tree (fun r s' => r = .ok (.ret .none) ∧ P s' ∧ s'.gens = #[]) default s).mp h1
  obtain ⟨s'', hr, hf, hc⟩ := runNI_real (denote table) prog w hn (outcomeOf_ends _)
  have hne : ∀ k s₂, runN (denote table) prog w k s ⟨tree, .builtin "claim.caller" {}, default, []⟩ ≠ .halted (.unsupported "lifetime:generator-with-cleanup-left-suspended") s₂ := by
    intro k s₂ hk
    have a := runN_mono (denote table) prog w n k s _ _ s'' hr
    have b := runN_mono (denote table) prog w k n s _ _ s₂ hk
    rw [Nat.add_comm, b] at a
    injection a with a1 _
    cases a1
  -- the step before its end
  have h2 := wp_of_wpAny_done (R := fun r s' => r = .ok (.ret .none) ∧ P s' ∧ s'.gens = #[]) caller_in (wpAny_mono h (fun fin s' x => ⟨_, x.1, rfl, x.2⟩) fun _ _ x => x.elim) default
  obtain ⟨k, r, s₁, c, p, hk, rfl, hP₁, hg₁⟩ := wp_runN (M := model prog w) (base := []) h2
  obtain ⟨σ, tau, h3, h4, h5⟩ := runNI_running_real (show runNI (denote table) prog w k s _ = _ from hk)
  obtain rfl := Shared.eq_of_forget_eq h4 hg₁
  have ht : through tau = true := by
    have e1 : tau.cur = .pure (.done (.ret .none)) := congrArg Thread.cur h5
    have e2 : forgetAll tau.stack = [] := congrArg Thread.stack h5
    have e3 : tau.stack = [] := List.map_eq_nil_iff.mp e2
    unfold through
    rw [e1, e3]; rfl
  refine ⟨k, σ, tau, ?_, ht, hP₁, runN_life_running h3, hg₁⟩
  rw [schedN_eq_runN (denote table) prog w s _ hreg ⟨hc, hne⟩ k, h3]
  rfl
end MineT
namespace MineT
open Mine
theorem open_body : (opening pw).main.body = [] := by kernel_rfl
theorem open_more : (opening pw).main.more = [] := by kernel_rfl
theorem behind_body : behindTheImports pw = pw.main.body := by kernel_rfl
theorem boot_facts (w : World) : (∃ s, AfterRun (opening pw) w s) ∧ ∀ s, AfterRun (opening pw) w s → (∃ mb mg c Pl, BootLeft s.heap mb mg c Pl) ∧ s.gens = #[] := by
  refine AfterImport.of_body (prog := opening pw) (w := w) (P := fun s => (∃ mb mg c Pl, BootLeft s.heap mb mg c Pl) ∧ s.gens = #[]) (out := #[]) ?_ open_more
  intro h tk mb mg c Pl F hB
  rw [open_body]
  refine codeAny_body rfl rfl (wpAny_mono (E := fun _ _ => False) (wpAny_execs_nil ?_) (fun _ _ x => x) fun _ _ x => x.elim)
  exact ⟨⟨_, rfl⟩, .of hB (fun _ _ _ _ e => e) hB.g, ⟨⟨mb, mg, c, Pl, hB⟩, rfl⟩, rfl⟩
theorem top_hann : hasAnns pw.main.body = false := by kernel_rfl
theorem top_hdoc : docOf pw.main.body = none := by kernel_rfl
theorem top_walk {w : World} {s : Shared} {mb mg0 : Str → Option Value} {c0 Pl0 : Addr} (hB : BootLeft s.heap mb mg0 c0 Pl0) (hg : s.gens = #[]) :
    wpAny (model pw w) callerA (topStub pw).cur (fun fin s' => fin = .done (.ret .none) ∧ (∃ h₀ Pl, (∀ b o, s.heap.get? b = some o → h₀.get? b = some o) ∧ s.heap.objs.size ≤ Pl ∧ TopDone w h₀ #[] s.os mg0 Pl s') ∧ s'.gens = #[]) (fun _ _ => False) s := by
  unfold topStub
  rw [behind_body]
  refine wpAny_bind (wpAny_moduleCode fun c Pl h' tk hk hc hPl hcode => ?_)
  try dsimp only
  unfold newBodyFrame
  refine wpAny_bind (wpAny_bind (wpAny_nsGet (hB.g.keeps hk) (wpAny_alloc ?_)))
  try dsimp only
  generalize hH : h'.push { cls := .type "frame", slots := #[some (Value.ref c), some (Value.ref mainNs), some (Value.ref mainNs), none, some ((mg0 (Str.ofString "__name__")).getD Value.none), none, some (Value.ref builtinsNs)] } = H
  have hkH : ∀ b o, h'.get? b = some o → H.get? b = some o := fun b o e => by rw [← hH]; exact Heap.get?_push_of_some _ e
  have hk2 : ∀ b o, s.heap.get? b = some o → H.get? b = some o := fun b o e => hkH b o (hk b o e)
  have hzH : H.objs.size = h'.objs.size + 1 := by rw [← hH, Heap.size_push]
  have hlow : mainGlobals < s.heap.objs.size := hB.g.lt
  have hblow : builtinsNs < s.heap.objs.size := hB.b.lt
  have hcl : c < h'.objs.size ∧ Pl < h'.objs.size := hcode.lt
  have hm : H.Main mg0 c Pl #[] := by
    obtain ⟨bm, o, hbm, hne0, hneG, hneP, hbo, hrest⟩ := hB.bmod
    exact ⟨hB.g.keeps hk2, hcode.keeps hkH, ⟨Nat.lt_of_lt_of_le hlow hc, Nat.lt_of_lt_of_le hlow hPl⟩, ⟨bm, o, hbm, hne0, hneG, Nat.ne_of_lt (Nat.lt_of_lt_of_le (Heap.lt_size hbo) hPl), hk2 _ _ hbo, hrest⟩⟩
  have T : TS H #[] s.os mg0 c Pl [] [] (fun _ => True) { s with heap := H, toks := tk } :=
    ⟨⟨[], rfl, hm⟩, fun _ _ _ _ e => e, Nat.le_refl _, ⟨by rw [hzH]; exact Nat.lt_succ_of_lt hcl.2, (hB.g.keeps hk2).lt⟩, hg, rfl, trivial, fun _ _ _ _ => trivial⟩
  have hbig : sysModules < H.objs.size := by obtain ⟨mm, hn, _⟩ := hB.noThreading; exact (hn.keeps hk2).lt
  refine wpAny_bind (wpAny_run (codeAny_body top_hann top_hdoc (wpAny_mono (E := fun _ _ => False) (body_walk (F := h'.objs.size) (mb := mb) T rfl (hB.b.keeps hk2) (Nat.ne_of_lt (Nat.lt_of_lt_of_le hblow hPl)) hbig
    (hB.others _ (by decide +kernel)) (hB.others _ (by decide +kernel)) (hB.others _ (by decide +kernel)) ((hB.builtins _ (by decide +kernel)).trans (by decide +kernel)) ((hB.builtins _ (by decide +kernel)).trans (by decide +kernel)) ((hB.builtins _ (by decide +kernel)).trans (by decide +kernel))
    (Q := fun f s' => wpAny (model pw w) callerA (ret .none : Sem Fin) (fun fin s' => fin = .done (.ret .none) ∧ (∃ h₀ Pl, (∀ b o, s.heap.get? b = some o → h₀.get? b = some o) ∧ s.heap.objs.size ≤ Pl ∧ TopDone w h₀ #[] s.os mg0 Pl s') ∧ s'.gens = #[]) (fun _ _ => False) s')
    fun s' D => wpAny_pure ⟨rfl, ⟨H, Pl, hk2, hPl, D⟩, D.gens⟩) (fun _ _ x => x) fun _ _ x => x.elim)))
end MineT
namespace MineT
open Mine
/-! the top has run: what the claim and the walk ask of the state behind it -/
theorem names_kept : topNames.all (fun x => x != "__builtins__" && !laidNames.contains x && (startupNames.contains x || pw.boundNames.contains x)) = true := by decide +kernel
theorem boot_startup : bootMainNames.all (fun x => startupNames.contains x) = true := by decide +kernel
theorem look_in {L : List (Str × Value)} {x : Str} {v : Value} : L.lookup x = some v → x ∈ L.map (·.1) := by
  induction L with
  | nil => intro h; cases h
  | cons p r ih =>
    intro h
    rw [List.lookup_cons] at h
    split at h
    · rename_i q; rw [beq_iff_eq.mp q]; exact .head _
    · exact .tail _ (ih h)
theorem look_out {L : List (Str × Value)} {mg0 : Str → Option Value} {x : Str} (h : (L.map (·.1)).all (fun x => topNames.contains x) = true) (hx : topNames.contains x = false) : topMg L mg0 x = mg0 x := by
  unfold topMg
  cases e : L.lookup x with
  | none => rfl
  | some v =>
    have := List.all_eq_true.mp h x (look_in e)
    rw [hx] at this; cases this
section
variable {w : World} {s s₁ : Shared} {mb mg0 : Str → Option Value} {c0 Pl0 Pl : Addr} {h₀ : Heap}
structure Behind (w : World) (s s₁ : Shared) : Prop where
  ran : TopRan pw w s s₁
  gens : s₁.gens = #[]
  gf : GF s₁.heap
  law : ∃ mg a, s₁.heap.Ns mainGlobals mg ∧ mg "law" = some (.ref a) ∧ FnAt s₁.heap a 26 .none .none
  pin : isTheDefsW pw s₁.heap "law"
theorem top_names {L : List (Str × Value)} (hB : BootLeft s.heap mb mg0 c0 Pl0) (h : (L.map (·.1)).all (fun x => topNames.contains x) = true) {x : Str} {v : Value} (hv : topMg L mg0 x = some v) : x ∈ startupNames ∨ x ∈ pw.boundNames := by
  cases e : topNames.contains x with
  | true =>
    have := List.all_eq_true.mp names_kept x (List.contains_iff_mem.mp e)
    simp only [Bool.and_eq_true, Bool.or_eq_true, List.contains_iff_mem] at this
    exact this.2
  | false =>
    rw [look_out h e] at hv
    refine .inl ?_
    by_cases hx : x ∈ bootMainNames
    · exact List.contains_iff_mem.mp (List.all_eq_true.mp boot_startup x hx)
    · rw [hB.others x hx] at hv; cases hv
theorem fk_is {h : Heap} {mg : Str → Option Value} {x : Str} {k : Nat} (f : FnK' Pl h mg x k) : FnD h mg x k := by
  obtain ⟨a, T, K, e, f, h1, h2, h3, h4, d1, d2⟩ := f
  exact ⟨a, T, K, e, f.at, d1, d2⟩
theorem fp_is {h : Heap} {mg : Str → Option Value} {x : Str} {k : Nat} (f : FnP' Pl h mg x k) : Fn0 h mg x k := let ⟨a, e, f⟩ := f; ⟨a, e, f.at⟩
theorem behind_of (hB : BootLeft s.heap mb mg0 c0 Pl0) (hk : ∀ b o, s.heap.get? b = some o → h₀.get? b = some o) (hP : s.heap.objs.size ≤ Pl) (D : TopDone w h₀ #[] s.os mg0 Pl s₁)
    (run : ∃ n t, schedN (denote table) pw w n (.single s (topStub pw)) = .running (.single s₁ t) ∧ through t = true) (hl : s₁.heap.life = s.heap.life) : Behind w s s₁ := by
  obtain ⟨L, hg, hL, F⟩ := D.is
  have up : ∀ b o, b ≠ mainGlobals → s.heap.get? b = some o → s₁.heap.get? b = some o := fun b o h1 h2 => D.keep b o (Nat.ne_of_lt (Nat.lt_of_lt_of_le (Heap.lt_size h2) hP)) h1 (hk b o h2)
  have hb : s₁.heap.Ns builtinsNs mb := hB.b.at fun o e => up _ o (by decide) e
  have hst : s₁.heap.Ns cStatics (fun _ => none) := hB.statics.at fun o e => up _ o (by decide) e
  obtain ⟨bm, ob, hbm, hne0, hneG, hneP, hbo, hcls, hdict, hdata⟩ := hB.bmod
  have out : ∀ x, topNames.contains x = false → globalOf s₁.heap x = mg0 x := fun x hx => (Claim2Try.globalOf_of_ns hg x).trans (look_out hL hx)
  have none_ : ∀ x, topNames.contains x = false → x ∉ bootMainNames → topMg L mg0 x = none := fun x hx hx' => (look_out hL hx).trans (hB.others x hx')
  have bb : ∀ {x : Str} {v : Value}, x ≠ "__name__" → bootBuiltins x = some v → mb x = some v := fun h e => (hB.builtins _ h).trans e
  refine ⟨⟨run, hl, Shared.rest_eq D.os, fun b o h1 h2 => up b o (fun e => h2 (.inl e)) h1, fun key v hv => ?_, fun key => .inl ((Pin.staticOf_of_ns hst key).trans (Pin.staticOf_of_ns hB.statics key).symm), Pin.keysAreStrs_of_ns hg,
    fun x hx => (Pin.builtinOf_of_ns hb x).trans (hB.builtins x hx), ⟨bm, ob, (out _ (by decide +kernel)).trans hbm, up _ _ hneG hbo, hcls, hdict⟩, fun g hg' => ?_, fun x v hv => top_names hB hL ((Claim2Try.globalOf_of_ns hg x).symm.trans hv), fun x hx => ?_⟩, D.gens, ?_, ?_, ?_⟩
  · rw [Pin.staticOf_of_ns hst key] at hv; cases hv
  · rw [D.gens] at hg'; simp at hg'
  · refine (out x ?_).trans (Claim2Try.globalOf_of_ns hB.g x).symm
    cases e : topNames.contains x with
    | false => rfl
    | true =>
      have := List.all_eq_true.mp names_kept x (List.contains_iff_mem.mp e)
      simp only [Bool.and_eq_true, Bool.not_eq_true', List.contains_iff_mem] at this
      have h2 := this.1.2
      rw [List.contains_iff_mem.mpr hx] at h2
      cases h2
  · refine ⟨⟨_, hst, rfl⟩, ⟨_, hg, fk_is F.f1, fk_is F.f2, fk_is F.f3, fp_is F.f6, fp_is F.f7, fp_is F.f8, fp_is F.f9, fp_is F.f12, fp_is F.f14, fp_is F.f18, fp_is F.f19, fp_is F.f20, fp_is F.f22, fp_is F.f23, fp_is F.f24, fp_is F.f25,
      let ⟨v, e, f⟩ := F.b1; f.b1 e, let ⟨v, e, f⟩ := F.b3; f.b3 e, F.tick, F.fin, F.off, none_ _ (by decide +kernel) (by decide +kernel), none_ _ (by decide +kernel) (by decide +kernel), none_ _ (by decide +kernel) (by decide +kernel), none_ _ (by decide +kernel) (by decide +kernel),
      none_ _ (by decide +kernel) (by decide +kernel), none_ _ (by decide +kernel) (by decide +kernel), none_ _ (by decide +kernel) (by decide +kernel)⟩,
      ⟨mb, hb, bb (by decide +kernel) (by decide +kernel), bb (by decide +kernel) (by decide +kernel), bb (by decide +kernel) (by decide +kernel), bb (by decide +kernel) (by decide +kernel), bb (by decide +kernel) (by decide +kernel), bb (by decide +kernel) (by decide +kernel), bb (by decide +kernel) (by decide +kernel)⟩⟩
  · obtain ⟨a, e, f⟩ := F.f26
    exact ⟨_, a, hg, e, f.at⟩
  · obtain ⟨a, e, h1, h2, o, doc, pm, an, c', ct, h3, h4, h5, h6, h7⟩ := F.f26
    refine ⟨a, o, _, fA 26, fB 26, fS 26, (Claim2Try.globalOf_of_ns hg _).trans e, h3, h4, by kernel_rfl, rfl, rfl, rfl, rfl, rfl, rfl, rfl, rfl, .inl ⟨by kernel_rfl, rfl⟩, [], by kernel_rfl, .inl ⟨rfl, rfl⟩⟩
end
theorem behind (w : World) : (∃ s, AfterRun (opening pw) w s) ∧ ∀ s, AfterRun (opening pw) w s → s.gens = #[] ∧ s.asleep ∧ ∃ s₁, Behind w s s₁ := by
  refine ⟨(boot_facts w).1, fun s hs => ?_⟩
  obtain ⟨⟨mb, mg, c, Pl, hB⟩, hg⟩ := (boot_facts w).2 s hs
  have hz : s.asleep := AfterImport.life (prog := opening pw) (w := w) hs
  obtain ⟨n, s₁, t, h1, h2, ⟨h₀, Pl', hk, hP, D⟩, hl, hg₁⟩ := runs_through hz (top_walk (w := w) hB hg)
  exact ⟨hg, hz, s₁, behind_of hB hk hP D ⟨n, t, h1, h2⟩ hl⟩
end MineT
namespace MineT
open Mine
/-! the claim, from the walk of the law -/
noncomputable abbrev rr : OpenRow := PySem.Challenge.rw_wf0087_01.row
theorem items_ints : ∀ {ds : List WData}, WShape.hasItems [] ds .int = true → ∃ xs : List Int, ds = xs.map .int
  | [], _ => ⟨[], rfl⟩
  | d :: ds, h => by
    have h0 : (WShape.has [] d .int && WShape.hasItems [] ds .int) = true := h
    obtain ⟨h1, h2⟩ := Bool.and_eq_true_iff.mp h0
    obtain ⟨xs, rfl⟩ := items_ints h2
    cases d with
    | int i => exact ⟨i :: xs, rfl⟩
    | _ => exact Bool.noConfusion (show false = true from h1)
theorem pre_at {ds : List WData} (h : rr.toRowW.pre.holds [] { args := [.list ds] } = true) : ds.length ≤ 63 := by
  have e : rr.toRowW.pre.holds [] { args := [.list ds] } = WTm.holds [] (.and (.not (.lit (.bool (decide ((63 : Int) < ((ds.length : Nat) : Int)))))) (.lit (.bool true))) { args := [] } := rfl
  rw [e] at h
  by_cases hle : ds.length ≤ 63
  · exact hle
  · rw [decide_eq_true (by omega : (63 : Int) < (ds.length : Int))] at h
    exact absurd h (by decide +kernel)
theorem arg_is {args : List WData} (h : rr.toRowW.claim.pre args = true) : ∃ xs : List Int, args = [.list (xs.map .int)] ∧ xs.length ≤ 63 := by
  obtain ⟨h1, h2⟩ := pre_splitW h
  obtain ⟨d, r, rfl, hd, hr⟩ := hasAllW_cons (show WShape.hasAll [] args [.list .int] = true from h1)
  obtain rfl := hasAllW_nil hr
  cases d with
  | list ds =>
    have h3 : (WShape.hasItems [] ds .int || false) = true := hd
    rw [Bool.or_false] at h3
    obtain ⟨xs, rfl⟩ := items_ints h3
    exact ⟨xs, rfl, by have := pre_at (ds := xs.map .int) h2; rwa [List.length_map] at this⟩
  | _ => exact Bool.noConfusion (show false = true from hd)
theorem reps_of {cl : Str → Option Addr} {h : Heap} : ∀ {vs : List Value} {xs : List Int} {as : List Addr}, ReadsAllW [] cl h vs (xs.map .int) as → Reps (fun _ => False) h vs (xs.map .int)
  | _, [], _, .nil => .nil
  | _, x :: xs, _, .cons a r => by
    cases a with
    | int i t => exact .cons (.int _ _) (reps_of r)
theorem list_of {cl : Str → Option Addr} {h : Heap} {vs : List Value} {xs : List Int} {as : List Addr} (r : ReadsAllW [] cl h vs [.list (xs.map .int)] as) : ∃ v, vs = [v] ∧ Rep (fun _ => False) h v (.list (xs.map .int)) := by
  cases r with
  | cons a r =>
    cases r
    cases a with
    | list ho hc hd hr => exact ⟨_, rfl, .list (vs := _) (fun h => h) ⟨_, ho, hc, _, hd⟩ (reps_of hr)⟩
end MineT
namespace MineT
open Mine
theorem rr_free : (opensWell rr.prog && (frees rr.toRowW && rr.within.isEmpty)) = true := by decide +kernel
theorem rr_bare : rr.prog.bare := ⟨rfl, rfl, rfl, rfl, rfl, by decide +kernel⟩
theorem rr_promised : rr.toRowW.promised := ⟨[.list []], by decide +kernel, by decide +kernel⟩
theorem post_ok (d : WData) : rr.toRowW.claim.post [d] (.bool true) [d] = true := by
  have e : WTm.holds [] (.eq .res (.lit (.bool true))) { args := [d], res := some (.bool true), after := [d] } = WTm.holds [] (.eq (.lit (.bool true)) (.lit (.bool true))) { args := [] } := rfl
  show (WShape.has [] (.bool true) .bool && WTm.holds [] (.eq .res (.lit (.bool true))) { args := [d], res := some (.bool true), after := [d] }) = true
  rw [e]
  decide +kernel
theorem law_holds (plain : ∀ xs : List Int, xs.length ≤ 63 → Xs false 6 (fS 26) [(35, .list (xs.map .int))] none (fB 26) (.ret (.bool true))) (said : rr.wellSaid = true) : rr.Holds := by
  obtain ⟨o1, k5⟩ := Bool.and_eq_true_iff.mp rr_free
  obtain ⟨k5, k6⟩ := Bool.and_eq_true_iff.mp k5
  obtain ⟨hsame, hu, ha, hap, hm⟩ := frees_parts k5
  refine ⟨said, rr_promised, ⟨rr_bare, o1, rfl⟩, rr_promised.witness, fun w => ⟨(behind w).1, fun s hs => ?_⟩⟩
  obtain ⟨hg, hz, s₁, B⟩ := (behind w).2 s hs
  have hz₁ : s₁.asleep := Shared.asleep_of_life B.ran.2.1 hz
  refine ⟨s, rfl, hg, s₁, B.ran, fun n hn => ?_, fun x hx => (nomatch hx), fun x hx => (nomatch hx), ?_⟩
  · obtain rfl : n = "law" := List.mem_singleton.mp hn
    exact B.pin
  refine ClaimW.callFrom_of_specG (c := rr.toRowW.claim) (tree := fun vs => (callStub rr.name vs).cur) hz₁ B.gens fun args hpre hlay ord hord => ?_
  obtain ⟨⟨vs, s₂⟩, hlaid⟩ := Option.isSome_iff_exists.mp (layAllW_isSome (R := rr.records) (cl := classAt s₁.heap) (P := w.params) (ord := ord) (fun c hc => (nomatch hc)) args rr.args s₁ (pre_splitW hpre).1)
  have keeps := layAllW_keeps _ _ _ hlaid
  have hal := layAllW_rest _ _ _ hlaid
  obtain ⟨as, hrd, hin, hold⟩ := reads_layAllW hord _ _ _ hlaid hlay s₂.heap (fun _ _ e => e)
  have Ld : Laid rr.records w s₁ s₂ args vs as := ⟨⟨ord, hord, hlaid⟩, hrd, hin, hold, keeps, hal.1.trans B.gens, hal.2.2.1⟩
  obtain ⟨xs, rfl, hx⟩ := arg_is hpre
  obtain ⟨v, rfl, hv⟩ := list_of hrd
  obtain ⟨mg, a, hmg, ha', hf⟩ := B.law
  have hi := ident_freeW hu ha hap
  have hwi : rr.toRowW.claim.within = [] := List.isEmpty_iff.mp k6
  refine ⟨_, s₂, hlaid, ?_⟩
  show wpAny (model pw w) callerA (do match ← nsGet mainNs rr.name with | some f => do ret (← call f [v]) | none => unsupported "claim.caller:no-such-global" : Sem Fin) _ _ s₂
  refine wpAny_bind (wpAny_nsGet (hmg.keeps keeps) ?_)
  rw [show mg rr.name = some (.ref a) from ha']
  refine wpAny_bind (law_call (n := 6) (O := fun _ => False) (plain xs hx) ⟨rfl, by decide, by decide⟩ (fun _ h => h.elim) (B.gf.keeps keeps) (hf.keeps keeps) hv fun r s' ex hr => wpAny_pure ?_)
  cases hr
  have g : GoodWG rr.toRowW.claim (classAt s₁.heap) (ExcName.means s₁.heap) [.list (xs.map .int)] s₂ (.ok (.ret (.bool true))) s' :=
    ⟨.inl ⟨_, .bool true, [], rfl, fun _ => rfl, .bool true, post_ok _, fun _ => ⟨.nil, fun a ha => (nomatch ha)⟩⟩, OldK.of_keep ex.heap, ex.os, ex.bare (by rw [Ld.gens]; exact fun g hg => by simp at hg)⟩
  have z := g.laid (c := rr.toRowW.claim) hsame hwi hi Ld
  exact ⟨_, rfl, z.1, z.2.1, z.2.2, fun q => (nomatch q)⟩
end MineT
namespace MineT
open Mine
/-! the looks at the text, piece by piece -/
theorem road_app {k : Look} {b : List Stmt} : ∀ {a : List Stmt}, noRoadLSs k a = true → noRoadLSs k b = true → noRoadLSs k (a ++ b) = true
  | [], _, h => h
  | s :: a, h1, h2 => by
    rw [noRoadLSs, Bool.and_eq_true] at h1
    rw [List.cons_append, noRoadLSs, h1.1, road_app h1.2 h2]; rfl
theorem look_bare : (["vars", "dir", "locals"] : List Str).filter (readsOut pw pw.main.body) = [] := by decide +kernel
theorem look_strict : (!(importedModules pw.main.body).all cThrough.contains) = false := by decide +kernel
noncomputable abbrev lk0' : Look := { strict := false, foot := none, bare := [] }
theorem look_1 : noRoadLSs lk0' (pw.main.body.take 13) = true := by decide +kernel
theorem look_2 : noRoadLSs lk0' ((pw.main.body.drop 13).take 1) = true := by decide +kernel
theorem look_3 : noRoadLSs lk0' ((pw.main.body.drop 13).drop 1) = true := by decide +kernel
theorem look_4 : namesResolve pw = true := by decide +kernel
theorem look_5 : (namesMeet pw pw.main.body fun _ n => attrL n) = true := by decide +kernel
theorem look_6 : (sreFenced pw.main && ((moduleNames pw.main.body).isEmpty || lookedIntoSs (moduleNames pw.main.body) pw.main.body)) = true := by decide +kernel
theorem look_7 : pw.boundNames.all (fun n => !worldNames.contains n) = true := by decide +kernel
theorem looks : looksOpen pw = true := by
  unfold looksOpen
  rw [look_6, look_4, look_7, look_5, look_bare, look_strict]
  have e : noRoadLSs lk0' pw.main.body = true := by
    have h := road_app look_1 (road_app look_2 look_3)
    rw [List.take_append_drop, List.take_append_drop] at h
    exact h
  rw [e]; rfl
theorem row_said : rr.wellSaid = true := by
  unfold OpenRow.wellSaid OpenRow.partSaid
  rw [show looksOpen rr.prog = true from looks]
  decide +kernel
theorem said : PySem.Challenge.rw_wf0087_01.wellSaid = true := by
  unfold OpenLaw.wellSaid
  rw [show PySem.Challenge.rw_wf0087_01.row.wellSaid = true from row_said]
  decide +kernel
end MineT
end
theorem PySem.Challenge.cw_wf0087_01_holds : PySem.Challenge.rw_wf0087_01.Holds :=
  PySem.W.holds_law MineT.said fun h => MineT.law_holds Mine.law_whole h
