import PyProof.Rows.All
import Wide.All
import OpenK.AllK
import Wide.FinOn
import Lean
import PySem.Challenge.RW_aj5015_01
open PySem PySem.W PyProof.Rows
open PySem.Builtin.Int (intBits)
set_option Elab.async false
set_option maxRecDepth 100000
set_option maxHeartbeats 8000000
set_option linter.all false
namespace Mine
open_top hd for PySem.Challenge.rw_aj5015_01
open PySem.Calls
set_option maxHeartbeats 4000000
noncomputable abbrev KK (w : World) : Frag := hd.heap_39 w.params
abbrev PR : Program := Challenge.rw_aj5015_01.row.prog
abbrev MM (w : World) : Model := model PR w
def Xs : List Str := [Str.ofString "n", Str.ofString "x", Str.ofString "r", Str.ofString "y", Str.ofString "isqrt_small", Str.ofString "sqrtrem", Str.ofString "sign", Str.ofString "man", Str.ofString "exp", Str.ofString "bc", Str.ofString "prec", Str.ofString "rnd", Str.ofString "fzero", Str.ofString "t", Str.ofString "round_nearest", Str.ofString "trailing", Str.ofString "shifts_down", Str.ofString "MPZ_ONE", Str.ofString "_normalize", Str.ofString "round_fast", Str.ofString "normalize", Str.ofString "isinstance", Str.ofString "int", Str.ofString "TypeError", Str.ofString "s", Str.ofString "a", Str.ofString "b", Str.ofString "ssign", Str.ofString "delta", Str.ofString "sman", Str.ofString "sexp", Str.ofString "sbc", Str.ofString "tsign", Str.ofString "tman", Str.ofString "texp", Str.ofString "tbc", Str.ofString "mpf_sub", Str.ofString "round_floor", Str.ofString "fnan", Str.ofString "finf", Str.ofString "fninf", Str.ofString "mpf_sign", Str.ofString "mpf_cmp", Str.ofString "_sub", Str.ofString "offset", Str.ofString "mpf_neg", Str.ofString "mpf_add", Str.ofString "s_special", Str.ofString "t_special", Str.ofString "rem", Str.ofString "extra", Str.ofString "quot", Str.ofString "divmod", Str.ofString "ZeroDivisionError", Str.ofString "max", Str.ofString "shift", Str.ofString "from_man_exp", Str.ofString "ComplexResult", Str.ofString "isqrt", Str.ofString "sa", Str.ofString "sb", Str.ofString "ta", Str.ofString "tb", Str.ofString "round_ceiling", Str.ofString "mpf_shift", Str.ofString "mpi_mul", Str.ofString "sas", Str.ofString "sbs", Str.ofString "tas", Str.ofString "tbs", Str.ofString "cases", Str.ofString "mpf_mul", Str.ofString "mpf_min_max", Str.ofString "mpf_pos", Str.ofString "mpf_ge", Str.ofString "mpf_le", Str.ofString "mpi_div", Str.ofString "mpi_neg", Str.ofString "mpf_div", Str.ofString "mpf_sqrt", Str.ofString "script", Str.ofString "k", Str.ofString "len", Str.ofString "e", Str.ofString "low", Str.ofString "size", Str.ofString "min", Str.ofString "part", Str.ofString "whole", Str.ofString "c", Str.ofString "d", Str.ofString "_law_value", Str.ofString "end", Str.ofString "_law_less", Str.ofString "root", Str.ofString "range", Str.ofString "high", Str.ofString "_law_sum", Str.ofString "_law_times", Str.ofString "told", Str.ofString "slack", Str.ofString "most", Str.ofString "wide", Str.ofString "_law_width", Str.ofString "first", Str.ofString "step", Str.ofString "_law_mixed", Str.ofString "_law_root", Str.ofString "two", Str.ofString "number", Str.ofString "m", Str.ofString "rest", Str.ofString "_law_made", Str.ofString "mpi_mid", Str.ofString "mpi_sub", Str.ofString "_law_rooted", Str.ofString "_law_within", Str.ofString "_law_holds", Str.ofString "mpi_mul_mpf", Str.ofString "MAX", Str.ofString "MIN", Str.ofString "mpi_sqrt", Str.ofString "mpi_square", Str.ofString "_law_narrow", Str.ofString "law", Str.ofString "__debug__"]
def X (n : Nat) : Str := Xs.getD n (Str.ofString "")
abbrev NX : Nat := 125
def xcode (s : Str) : Nat := s.cps.toList.foldl (fun a c => a * 256 + c) 1
def Xcs : List Nat := [366, 376, 370, 377, 436967385755813237431037036, 104551952753517933, 6231254894, 23945582, 23427184, 90723, 6181512547, 24276580, 1539651760751, 372, 29348914932000733192035328422772, 26837620234872516199, 449004549482026149132334958, 93819516320960069, 1659587807936704273807973, 1749331649065061267370868, 6759538932328449014373, 1706903273020983629210469, 23686772, 6280643590486175674226, 371, 353, 354, 1595369154414, 1530709963873, 6231515502, 6230997104, 24339043, 1599664121710, 6248292718, 6247774320, 24404579, 102861951489766754, 447828902160655684631228274, 6013477230, 6013152870, 1539450695270, 26332659581379503982, 102861951488716144, 5896369506, 403960572896628, 102861951489434983, 102861951488582756, 6850620015982930387308, 6869066760056639938924, 24274285, 1535324222049, 6198488948, 391879097937764, 117872545160828477965401352616156540858226, 23945592, 1595184604788, 110933977259728564227087366256, 25625181632016494465874803387508, 1552420008564, 95073, 95074, 95329, 95330, 29348914932000730095844843941479, 6741160852833136371316, 102861964374275436, 24338803, 24339059, 24404339, 24404595, 1526348342643, 102861951489373548, 441788717649584696238891384, 102861951489568627, 401804498003813, 401804498005093, 102861964373682550, 102861964374336871, 102861951488780662, 26332659581380031092, 408345935179892, 363, 23881070, 357, 23883639, 6231259749, 23947630, 6180401780, 1612364868709, 355, 356, 1659549907034312054437221, 23424612, 6482616824352613954419, 6214872948, 1590772524901, 6046705512, 25322721970127861101, 1659549907034303598781811, 6248426596, 1595251188587, 6130987892, 6298362981, 1659549907034316483097704, 1539367400308, 6231975280, 1659549907034273534731620, 6482616824352715272052, 24409967, 402925602104690, 365, 6214218612, 6482616824352630465637, 102861964374272356, 102861964374668642, 424844776200779548069225828, 424844776200785019940661614, 1659549907034252159771763, 441788772989830102917148774, 21840216, 21842254, 26332662879914914420, 1725737394498103880544869, 424844776200775089943375735, 23880055, 6481680900276877746015]
theorem xs_codes : Xs.map xcode = Xcs := by kernel_rfl
theorem xcs_nodup : Xcs.Nodup := by decide +kernel
theorem x_code {i : Nat} (h : i ≤ NX) : xcode (X i) = Xcs.getD i 0 := by
  have hl : i < Xs.length := Nat.lt_of_le_of_lt h (by decide)
  have hl' : i < Xcs.length := Nat.lt_of_le_of_lt h (by decide)
  unfold X
  simp only [← xs_codes, List.getD_eq_getElem?_getD, List.getElem?_map, List.getElem?_eq_getElem hl, Option.map_some, Option.getD_some]
theorem X_inj {i j : Nat} (hi : i ≤ NX) (hj : j ≤ NX) (e : X i = X j) : i = j := by
  have c := congrArg xcode e
  rw [x_code hi, x_code hj] at c
  have hl : i < Xcs.length := Nat.lt_of_le_of_lt hi (by decide)
  have hl' : j < Xcs.length := Nat.lt_of_le_of_lt hj (by decide)
  rw [List.getD_eq_getElem?_getD, List.getD_eq_getElem?_getD, List.getElem?_eq_getElem hl, List.getElem?_eq_getElem hl'] at c
  have pw := List.pairwise_iff_getElem.mp xcs_nodup
  rcases Nat.lt_trichotomy i j with q | q | q
  · exact absurd c (pw i j hl hl' q)
  · exact q
  · exact absurd c.symm (pw j i hl' hl q)
theorem x_debug {i : Nat} (h : i < NX) : (X i == ("__debug__" : Str)) = false := by
  have e : ("__debug__" : Str) = X NX := rfl
  rw [e]
  simp only [beq_eq_false_iff_ne, ne_eq]
  intro c
  have := X_inj (Nat.le_of_lt h) (Nat.le_refl _) c
  omega
theorem x0 : Str.ofString "n" = X 0 := rfl
theorem x1 : Str.ofString "x" = X 1 := rfl
theorem x2 : Str.ofString "r" = X 2 := rfl
theorem x3 : Str.ofString "y" = X 3 := rfl
theorem x4 : Str.ofString "isqrt_small" = X 4 := rfl
theorem x5 : Str.ofString "sqrtrem" = X 5 := rfl
theorem x6 : Str.ofString "sign" = X 6 := rfl
theorem x7 : Str.ofString "man" = X 7 := rfl
theorem x8 : Str.ofString "exp" = X 8 := rfl
theorem x9 : Str.ofString "bc" = X 9 := rfl
theorem x10 : Str.ofString "prec" = X 10 := rfl
theorem x11 : Str.ofString "rnd" = X 11 := rfl
theorem x12 : Str.ofString "fzero" = X 12 := rfl
theorem x13 : Str.ofString "t" = X 13 := rfl
theorem x14 : Str.ofString "round_nearest" = X 14 := rfl
theorem x15 : Str.ofString "trailing" = X 15 := rfl
theorem x16 : Str.ofString "shifts_down" = X 16 := rfl
theorem x17 : Str.ofString "MPZ_ONE" = X 17 := rfl
theorem x18 : Str.ofString "_normalize" = X 18 := rfl
theorem x19 : Str.ofString "round_fast" = X 19 := rfl
theorem x20 : Str.ofString "normalize" = X 20 := rfl
theorem x21 : Str.ofString "isinstance" = X 21 := rfl
theorem x22 : Str.ofString "int" = X 22 := rfl
theorem x23 : Str.ofString "TypeError" = X 23 := rfl
theorem x24 : Str.ofString "s" = X 24 := rfl
theorem x25 : Str.ofString "a" = X 25 := rfl
theorem x26 : Str.ofString "b" = X 26 := rfl
theorem x27 : Str.ofString "ssign" = X 27 := rfl
theorem x28 : Str.ofString "delta" = X 28 := rfl
theorem x29 : Str.ofString "sman" = X 29 := rfl
theorem x30 : Str.ofString "sexp" = X 30 := rfl
theorem x31 : Str.ofString "sbc" = X 31 := rfl
theorem x32 : Str.ofString "tsign" = X 32 := rfl
theorem x33 : Str.ofString "tman" = X 33 := rfl
theorem x34 : Str.ofString "texp" = X 34 := rfl
theorem x35 : Str.ofString "tbc" = X 35 := rfl
theorem x36 : Str.ofString "mpf_sub" = X 36 := rfl
theorem x37 : Str.ofString "round_floor" = X 37 := rfl
theorem x38 : Str.ofString "fnan" = X 38 := rfl
theorem x39 : Str.ofString "finf" = X 39 := rfl
theorem x40 : Str.ofString "fninf" = X 40 := rfl
theorem x41 : Str.ofString "mpf_sign" = X 41 := rfl
theorem x42 : Str.ofString "mpf_cmp" = X 42 := rfl
theorem x43 : Str.ofString "_sub" = X 43 := rfl
theorem x44 : Str.ofString "offset" = X 44 := rfl
theorem x45 : Str.ofString "mpf_neg" = X 45 := rfl
theorem x46 : Str.ofString "mpf_add" = X 46 := rfl
theorem x47 : Str.ofString "s_special" = X 47 := rfl
theorem x48 : Str.ofString "t_special" = X 48 := rfl
theorem x49 : Str.ofString "rem" = X 49 := rfl
theorem x50 : Str.ofString "extra" = X 50 := rfl
theorem x51 : Str.ofString "quot" = X 51 := rfl
theorem x52 : Str.ofString "divmod" = X 52 := rfl
theorem x53 : Str.ofString "ZeroDivisionError" = X 53 := rfl
theorem x54 : Str.ofString "max" = X 54 := rfl
theorem x55 : Str.ofString "shift" = X 55 := rfl
theorem x56 : Str.ofString "from_man_exp" = X 56 := rfl
theorem x57 : Str.ofString "ComplexResult" = X 57 := rfl
theorem x58 : Str.ofString "isqrt" = X 58 := rfl
theorem x59 : Str.ofString "sa" = X 59 := rfl
theorem x60 : Str.ofString "sb" = X 60 := rfl
theorem x61 : Str.ofString "ta" = X 61 := rfl
theorem x62 : Str.ofString "tb" = X 62 := rfl
theorem x63 : Str.ofString "round_ceiling" = X 63 := rfl
theorem x64 : Str.ofString "mpf_shift" = X 64 := rfl
theorem x65 : Str.ofString "mpi_mul" = X 65 := rfl
theorem x66 : Str.ofString "sas" = X 66 := rfl
theorem x67 : Str.ofString "sbs" = X 67 := rfl
theorem x68 : Str.ofString "tas" = X 68 := rfl
theorem x69 : Str.ofString "tbs" = X 69 := rfl
theorem x70 : Str.ofString "cases" = X 70 := rfl
theorem x71 : Str.ofString "mpf_mul" = X 71 := rfl
theorem x72 : Str.ofString "mpf_min_max" = X 72 := rfl
theorem x73 : Str.ofString "mpf_pos" = X 73 := rfl
theorem x74 : Str.ofString "mpf_ge" = X 74 := rfl
theorem x75 : Str.ofString "mpf_le" = X 75 := rfl
theorem x76 : Str.ofString "mpi_div" = X 76 := rfl
theorem x77 : Str.ofString "mpi_neg" = X 77 := rfl
theorem x78 : Str.ofString "mpf_div" = X 78 := rfl
theorem x79 : Str.ofString "mpf_sqrt" = X 79 := rfl
theorem x80 : Str.ofString "script" = X 80 := rfl
theorem x81 : Str.ofString "k" = X 81 := rfl
theorem x82 : Str.ofString "len" = X 82 := rfl
theorem x83 : Str.ofString "e" = X 83 := rfl
theorem x84 : Str.ofString "low" = X 84 := rfl
theorem x85 : Str.ofString "size" = X 85 := rfl
theorem x86 : Str.ofString "min" = X 86 := rfl
theorem x87 : Str.ofString "part" = X 87 := rfl
theorem x88 : Str.ofString "whole" = X 88 := rfl
theorem x89 : Str.ofString "c" = X 89 := rfl
theorem x90 : Str.ofString "d" = X 90 := rfl
theorem x91 : Str.ofString "_law_value" = X 91 := rfl
theorem x92 : Str.ofString "end" = X 92 := rfl
theorem x93 : Str.ofString "_law_less" = X 93 := rfl
theorem x94 : Str.ofString "root" = X 94 := rfl
theorem x95 : Str.ofString "range" = X 95 := rfl
theorem x96 : Str.ofString "high" = X 96 := rfl
theorem x97 : Str.ofString "_law_sum" = X 97 := rfl
theorem x98 : Str.ofString "_law_times" = X 98 := rfl
theorem x99 : Str.ofString "told" = X 99 := rfl
theorem x100 : Str.ofString "slack" = X 100 := rfl
theorem x101 : Str.ofString "most" = X 101 := rfl
theorem x102 : Str.ofString "wide" = X 102 := rfl
theorem x103 : Str.ofString "_law_width" = X 103 := rfl
theorem x104 : Str.ofString "first" = X 104 := rfl
theorem x105 : Str.ofString "step" = X 105 := rfl
theorem x106 : Str.ofString "_law_mixed" = X 106 := rfl
theorem x107 : Str.ofString "_law_root" = X 107 := rfl
theorem x108 : Str.ofString "two" = X 108 := rfl
theorem x109 : Str.ofString "number" = X 109 := rfl
theorem x110 : Str.ofString "m" = X 110 := rfl
theorem x111 : Str.ofString "rest" = X 111 := rfl
theorem x112 : Str.ofString "_law_made" = X 112 := rfl
theorem x113 : Str.ofString "mpi_mid" = X 113 := rfl
theorem x114 : Str.ofString "mpi_sub" = X 114 := rfl
theorem x115 : Str.ofString "_law_rooted" = X 115 := rfl
theorem x116 : Str.ofString "_law_within" = X 116 := rfl
theorem x117 : Str.ofString "_law_holds" = X 117 := rfl
theorem x118 : Str.ofString "mpi_mul_mpf" = X 118 := rfl
theorem x119 : Str.ofString "MAX" = X 119 := rfl
theorem x120 : Str.ofString "MIN" = X 120 := rfl
theorem x121 : Str.ofString "mpi_sqrt" = X 121 := rfl
theorem x122 : Str.ofString "mpi_square" = X 122 := rfl
theorem x123 : Str.ofString "_law_narrow" = X 123 := rfl
theorem x124 : Str.ofString "law" = X 124 := rfl
def gv : Nat → Option Value
  | 15 => some (.ref 21)
  | 4 => some (.ref 28)
  | 5 => some (.ref 35)
  | 58 => some (.ref 42)
  | 18 => some (.ref 71)
  | 20 => some (.ref 78)
  | 56 => some (.ref 86)
  | 42 => some (.ref 93)
  | 75 => some (.ref 107)
  | 74 => some (.ref 121)
  | 45 => some (.ref 144)
  | 41 => some (.ref 151)
  | 46 => some (.ref 159)
  | 36 => some (.ref 167)
  | 71 => some (.ref 175)
  | 64 => some (.ref 182)
  | 78 => some (.ref 190)
  | 79 => some (.ref 198)
  | 114 => some (.ref 206)
  | 113 => some (.ref 213)
  | 118 => some (.ref 228)
  | 65 => some (.ref 236)
  | 122 => some (.ref 244)
  | 76 => some (.ref 251)
  | 121 => some (.ref 258)
  | 120 => some (.ref 265)
  | 119 => some (.ref 272)
  | 106 => some (.ref 279)
  | 112 => some (.ref 286)
  | 91 => some (.ref 293)
  | 97 => some (.ref 300)
  | 98 => some (.ref 307)
  | 93 => some (.ref 314)
  | 116 => some (.ref 319)
  | 117 => some (.ref 326)
  | 107 => some (.ref 333)
  | 103 => some (.ref 340)
  | 115 => some (.ref 347)
  | 123 => some (.ref 354)
  | 12 => some (.ref 56)
  | 38 => some (.ref 57)
  | 39 => some (.ref 58)
  | 40 => some (.ref 59)
  | 16 => some (.ref 60)
  | 17 => some (.int 1 189)
  | 14 => some (.str (Str.ofString "n") 244)
  | 37 => some (.str (Str.ofString "f") 246)
  | 63 => some (.str (Str.ofString "c") 248)
  | _ => none
theorem gv_ok (w : World) {i : Nat} {v : Value} (e : gv i = some v) : nsIn (KK w) mainGlobals (X i) = some (some v) := by
  unfold gv at e
  split at e <;> first | (cases e; kernel_rfl) | cases e
def bv : Nat → Option Value
  | 21 => some (.builtin "isinstance")
  | 54 => some (.builtin "max")
  | 86 => some (.builtin "min")
  | 52 => some (.builtin "divmod")
  | 82 => some (.builtin "len")
  | 22 => some (.type "int")
  | 95 => some (.type "range")
  | _ => none
theorem bv_ok (w : World) {i : Nat} {v : Value} (e : bv i = some v) : nsIn (KK w) mainGlobals (X i) = some none ∧ bootBuiltins (X i) = some v ∧ X i ≠ "__name__" := by
  unfold bv at e
  split at e <;> first | (cases e; exact ⟨by kernel_rfl, by kernel_rfl, by decide +kernel⟩) | cases e
def fnAddrs : List Nat := [21, 28, 35, 42, 71, 78, 86, 93, 107, 121, 144, 151, 159, 167, 175, 182, 190, 198, 206, 213, 228, 236, 244, 251, 258, 265, 272, 279, 286, 293, 300, 307, 314, 319, 326, 333, 340, 347, 354]
theorem fn_ok (w : World) {a : Nat} (e : fnAddrs.contains a = true) : keepIn (KK w) (.ref a) = true := by
  have h : (fnAddrs.all fun a => keepIn (KK w) (.ref a)) = true := by kernel_rfl
  exact List.all_eq_true.mp h a (by simpa using e)
structure Gl (w : World) (h : Heap) : Prop where
  k : (KK w).In h
  t : ∃ p loose mg mb, TopRead p loose mg mb h
abbrev Kp (h h' : Heap) : Prop := ∀ b o, h.get? b = some o → h'.get? b = some o
theorem Kp.tr {h h' h'' : Heap} (a : Kp h h') (b : Kp h' h'') : Kp h h'' := fun x o e => b x o (a x o e)
theorem Gl.keeps {w h h'} (G : Gl w h) (k : Kp h h') : Gl w h' :=
  ⟨G.k.keeps k, let ⟨p, l, mg, mb, T⟩ := G.t; ⟨p, l, mg, mb, T.keeps k⟩⟩
theorem Gl.nolimit {w h} (G : Gl w h) : h.NoLimit := let ⟨_, _, _, _, T⟩ := G.t; T.nolimit

def St (s₀ : Shared) (h : Heap) (t : Nat) : Shared := { s₀ with heap := h, toks := t }

/-- room for `d` nested calls -/
structure Rm (d : Nat) (A : Around) : Prop where
  hn : A.handled = none
  hd : A.depth + d < recursionLimit
  hu : A.units + 8 * d + 100 < cLine
theorem Rm.deeper {d : Nat} {A : Around} {env : Env} (R : Rm (d + 1) A) : Rm d (A.deeper env) :=
  ⟨R.hn, by have := R.hd; show A.depth + 1 + d < _; omega, by have := R.hu; show A.units + 3 + 8 * d + 100 < _; omega⟩
theorem Rm.le {d e : Nat} {A : Around} (R : Rm d A) (h : e ≤ d) : Rm e A := ⟨R.hn, by have := R.hd; omega, by have := R.hu; omega⟩

abbrev Led := List (Addr × List Value)
def Tups (h : Heap) (l : Led) : Prop := ∀ p ∈ l, IsTup h p.1 p.2.toArray

/-- what is known of a frame's names: those of `lo` are its own, those of `gl` the top's -/
structure Ev (env : Env) (lo gl : List Nat) : Prop where
  shape : ∃ nm sc L a cd, env = envOf nm sc L a cd ∧ sc.kind = .function ∧ (∀ i, lo.contains i = true → i < NX ∧ sc.names.lookup (X i) = some .local) ∧ (∀ i, gl.contains i = true → i < NX ∧ sc.names.lookup (X i) = some .globalImplicit)

/-- what a frame stands on: the heap of its beginning, and things held since -/
structure Base where
  hp : Heap
  its : List (Addr × Obj)
/-- the frame: its base, the names' values (the newest first), the tuples known -/
structure Fm (w : World) (h₀ : Base) (env : Env) (lo gl : List Nat) (ms : List (Nat × Value)) (l : Led) (h : Heap) : Prop where
  g : Gl w h₀.hp
  e : Ev env lo gl
  f : ∃ m, Fr h₀.hp env.locals h m ∧ ∀ i v, ms.lookup i = some v → i < NX ∧ m (X i) = some v
  n : Tups h l
  x : ∀ p ∈ h₀.its, h.get? p.1 = some p.2 ∧ p.1 ≠ env.locals

theorem isTup_ne {h : Heap} {L a : Addr} {m : Str → Option Value} {vs : Array Value} (F : h.Ns L m) (T : IsTup h a vs) : a ≠ L := by
  intro e
  subst e
  obtain ⟨o, es, ep, ho, hd, _⟩ := F
  obtain ⟨o', ho', _, n, hd'⟩ := T
  rw [ho] at ho'
  cases ho'
  rw [hd] at hd'
  cases hd'

theorem Tups.same {h h' : Heap} {L : Addr} {m : Str → Option Value} {l : Led} (F : h.Ns L m) (N : Tups h l) (hs : Heap.SameBut L h h') : Tups h' l := fun p hp => by
  have ne := isTup_ne F (N p hp)
  obtain ⟨o, ho, r⟩ := N p hp
  exact ⟨o, (hs.2 _ ne).trans ho, r⟩
theorem Tups.keeps {h h' : Heap} {l : Led} (N : Tups h l) (k : Kp h h') : Tups h' l := fun p hp => IsTup.keeps (N p hp) k

theorem frAfter {h₀ h h' : Heap} {L : Addr} {m : Str → Option Value} (F : Fr h₀ L h m) (k : Kp h h') : Fr h₀ L h' m := by
  obtain ⟨o, es, ep, ho, r⟩ := F.ns
  exact ⟨⟨o, es, ep, k _ _ ho, r⟩, fun b o e => k _ _ (F.keep b o e), F.above⟩

section
variable {w : World} {h₀ : Base} {h h' : Heap} {env : Env} {lo gl : List Nat} {ms ms' : List (Nat × Value)} {l l' : Led} {a : Addr} {vs : List Value}
theorem Fm.after (F : Fm w h₀ env lo gl ms l h) (k : Kp h h') : Fm w h₀ env lo gl ms l h' := ⟨F.g, F.e, let ⟨m, f, r⟩ := F.f; ⟨m, frAfter f k, r⟩, F.n.keeps k, fun p hp => ⟨k _ _ (F.x p hp).1, (F.x p hp).2⟩⟩
theorem Fm.kp (F : Fm w h₀ env lo gl ms l h) : Kp h₀.hp h := let ⟨_, f, _⟩ := F.f; f.keep
theorem Fm.gw (F : Fm w h₀ env lo gl ms l h) : Gl w h := F.g.keeps F.kp
theorem Fm.tup (F : Fm w h₀ env lo gl ms l h) (hm : (a, vs) ∈ l) : IsTup h a vs.toArray := F.n _ hm
theorem Fm.add (F : Fm w h₀ env lo gl ms l h) (hm : IsTup h a vs.toArray) : Fm w h₀ env lo gl ms ((a, vs) :: l) h :=
  ⟨F.g, F.e, F.f, fun p hp => by
    rcases List.mem_cons.mp hp with rfl | hp
    · exact hm
    · exact F.n p hp, F.x⟩
theorem lookup_all {ms ms' : List (Nat × Value)} (e : (ms'.all fun p => ms.lookup p.1 == some p.2) = true) {i : Nat} {v : Value} (hv : ms'.lookup i = some v) : ms.lookup i = some v := by
  induction ms' with
  | nil => cases hv
  | cons p r ih =>
    obtain ⟨j, u⟩ := p
    simp only [List.all_cons, Bool.and_eq_true, beq_iff_eq] at e
    rw [List.lookup_cons] at hv
    by_cases c : i = j
    · subst c
      simp only [BEq.rfl] at hv
      cases hv
      exact e.1
    · have : (i == j) = false := by simpa using c
      rw [this] at hv
      exact ih e.2 hv
/-- forgetting: fewer names, fewer tuples -/
theorem Fm.weak (F : Fm w h₀ env lo gl ms l h) (hs : ∀ i v, ms'.lookup i = some v → ms.lookup i = some v) (hl : ∀ p ∈ l', p ∈ l) : Fm w h₀ env lo gl ms' l' h :=
  ⟨F.g, F.e, let ⟨m, f, r⟩ := F.f; ⟨m, f, fun i v e => r i v (hs i v e)⟩, fun p hp => F.n p (hl p hp), F.x⟩
theorem lk_nil {i : Nat} {v : Value} : ([] : List (Nat × Value)).lookup i = some v → ms.lookup i = some v := fun e => by cases e
theorem lk_cons {i j : Nat} {v u : Value} (e : ms.lookup j = some u) (h : ms'.lookup i = some v → ms.lookup i = some v) : ((j, u) :: ms').lookup i = some v → ms.lookup i = some v := by
  intro hv
  rw [List.lookup_cons] at hv
  by_cases c : i = j
  · subst c
    simp only [BEq.rfl] at hv
    cases hv
    exact e
  · have : (i == j) = false := by simpa using c
    rw [this] at hv
    exact h hv
end

/-- the flow behind a statement: go on with the rest, or leave -/
def Th (M : Model) (A : Around) (env : Env) (rest : List Stmt) (Q : Flow → Shared → Prop) (E : Value → Shared → Prop) : Flow → Shared → Prop :=
  fun f s' => match f with | .next => wpAny M A (execs rest env) Q E s' | f => Q f s'
/-- what the caller gets of a body's flow -/
def Bk (Q : Value → Shared → Prop) : Flow → Shared → Prop := fun fl s' => Q (match fl with | .ret v => v | _ => .none) s'

section
variable {w : World} {A : Around} {E : Value → Shared → Prop} {s₀ : Shared} {h : Heap} {h₀ : Base} {t : Nat} {lo gl : List Nat} {ms : List (Nat × Value)} {l : Led}
  {prog : Program} {M : Model} {env : Env} {s : Shared} {rest : List Stmt}

-- names
theorem r_local {i : Nat} {pos : Pos} {v : Value} {Q : Value → Shared → Prop} (F : Fm w h₀ env lo gl ms l h) (hv : ms.lookup i = some v) (hl : lo.contains i = true)
    (k : Q v (St s₀ h t)) : wpAny M A (eval (.Name (X i) pos) env) Q E (St s₀ h t) := by
  obtain ⟨nm, sc, L, a, cd, rfl, hk, hlo, _⟩ := F.e.shape
  obtain ⟨m, f, r⟩ := F.f
  exact ld (h₀ := h₀.hp) (s := St s₀ h t) f (r i v hv).2 k hk (hlo i hl).2 (x_debug (hlo i hl).1)
theorem r_localn {i : Nat} {v : Value} {Q : Value → Shared → Prop} (F : Fm w h₀ env lo gl ms l h) (hv : ms.lookup i = some v) (hl : lo.contains i = true)
    (k : Q v (St s₀ h t)) : wpAny M A (loadName env (X i)) Q E (St s₀ h t) := by
  obtain ⟨nm, sc, L, a, cd, rfl, hk, hlo, _⟩ := F.e.shape
  obtain ⟨m, f, r⟩ := F.f
  exact ldn (h₀ := h₀.hp) (s := St s₀ h t) f (r i v hv).2 k hk (hlo i hl).2
theorem r_global {i : Nat} {pos : Pos} {v : Value} {Q : Value → Shared → Prop} (F : Fm w h₀ env lo gl ms l h) (hv : gv i = some v) (hl : gl.contains i = true)
    (k : Q v (St s₀ h t)) : wpAny M A (eval (.Name (X i) pos) env) Q E (St s₀ h t) := by
  obtain ⟨nm, sc, L, a, cd, rfl, hk, _, hgl⟩ := F.e.shape
  obtain ⟨m, f, r⟩ := F.f
  obtain ⟨_, _, _, _, T⟩ := F.g.t
  exact name_K (s := St s₀ h t) f F.g.k T (gv_ok w hv) k hk (hgl i hl).2 (x_debug (hgl i hl).1)
theorem r_builtin {i : Nat} {pos : Pos} {v : Value} {Q : Value → Shared → Prop} (F : Fm w h₀ env lo gl ms l h) (hv : bv i = some v) (hl : gl.contains i = true)
    (k : Q v (St s₀ h t)) : wpAny M A (eval (.Name (X i) pos) env) Q E (St s₀ h t) := by
  obtain ⟨nm, sc, L, a, cd, rfl, hk, _, hgl⟩ := F.e.shape
  obtain ⟨m, f, r⟩ := F.f
  obtain ⟨_, _, _, _, T⟩ := F.g.t
  obtain ⟨h1, h2, h3⟩ := bv_ok w hv
  exact name_B (s := St s₀ h t) f F.g.k T h1 h2 h3 k hk (hgl i hl).2 (x_debug (hgl i hl).1)
theorem r_store {i : Nat} {v : Value} {Q : Unit → Shared → Prop} (F : Fm w h₀ env lo gl ms l h) (hl : lo.contains i = true)
    (q : ∀ h' t', Fm w h₀ env lo gl ((i, v) :: ms) l h' → Q () (St s₀ h' t')) : wpAny M A (storeName env (X i) v) Q E (St s₀ h t) := by
  obtain ⟨nm, sc, L, a, cd, rfl, hk, hlo, hgl⟩ := F.e.shape
  obtain ⟨m, f, r⟩ := F.f
  refine wpAny_storeName_local (s := St s₀ h t) (env := envOf nm sc L a cd) (hlo i hl).2 f.ns (fun h' hn hs => q h' _ ⟨F.g, F.e, ⟨_, f.set hn hs, fun j u e => ?_⟩, F.n.same f.ns hs, fun p hp => ⟨(hs.2 _ (F.x p hp).2).trans (F.x p hp).1, (F.x p hp).2⟩⟩)
    (by show (sc.kind == .class || (sc.kind == .module && L != mainGlobals)) = false; rw [hk]; rfl)
  rw [List.lookup_cons] at e
  by_cases c : j = i
  · subst c
    simp only [BEq.rfl] at e
    cases e
    exact ⟨(hlo j hl).1, if_pos rfl⟩
  · have hb : (j == i) = false := by simpa using c
    rw [hb] at e
    obtain ⟨r1, r2⟩ := r j u e
    refine ⟨r1, ?_⟩
    show (if X j = X i then some v else m (X j)) = some u
    rw [if_neg fun c' => c (X_inj (Nat.le_of_lt r1) (Nat.le_of_lt (hlo i hl).1) c')]
    exact r2
-- constants
theorem r_int {i : Int} {k : Nat} {pos : Pos} {Q : Value → Shared → Prop} (q : ∀ u t', Q (.int i u) (St s₀ h t')) : wpAny M A (eval (.Constant (.int i) k pos) env) Q E (St s₀ h t) :=
  by (with_reducible refine wpAny_Constant_int ?_); exact q _ _
theorem r_str {x : Str} {k : Nat} {pos : Pos} {Q : Value → Shared → Prop} (q : ∀ u t', Q (.str x u) (St s₀ h t')) : wpAny M A (eval (.Constant (.str x) k pos) env) Q E (St s₀ h t) :=
  by (with_reducible refine Calls.Constant_str ?_); exact q _ _
-- int arithmetic
section
variable {i j : Int} {x y : Tok} {Q : Value → Shared → Prop}
theorem r_add (q : ∀ u t', Q (.int (i + j) u) (St s₀ h t')) : wpAny (model prog w) A (binaryOp .Add (.int i x) (.int j y)) Q E (St s₀ h t) := by (with_reducible refine P.add_int ?_); exact q _ _
theorem r_sub (q : ∀ u t', Q (.int (i - j) u) (St s₀ h t')) : wpAny (model prog w) A (binaryOp .Sub (.int i x) (.int j y)) Q E (St s₀ h t) := by (with_reducible refine P.sub_int ?_); exact q _ _
theorem r_mul (hm : IntMulOk i j) (q : ∀ u t', Q (.int (i * j) u) (St s₀ h t')) : wpAny (model prog w) A (binaryOp .Mult (.int i x) (.int j y)) Q E (St s₀ h t) := by (with_reducible refine P.mul_int ?_ hm); exact q _ _
theorem r_neg (q : ∀ u t', Q (.int (-i) u) (St s₀ h t')) : wpAny (model prog w) A (unaryOp .USub (.int i x)) Q E (St s₀ h t) := by (with_reducible refine P.neg_int ?_); exact q _ _
theorem r_and (q : ∀ u t', Q (.int (Builtin.bitAnd i j) u) (St s₀ h t')) : wpAny (model prog w) A (binaryOp .BitAnd (.int i x) (.int j y)) Q E (St s₀ h t) := by (with_reducible refine and_int ?_); exact q _ _
theorem r_xor (q : ∀ u t', Q (.int (Builtin.bitXor i j) u) (St s₀ h t')) : wpAny (model prog w) A (binaryOp .BitXor (.int i x) (.int j y)) Q E (St s₀ h t) := by (with_reducible refine xor_int ?_); exact q _ _
theorem r_shl (h0 : 0 ≤ j) (hb : (Builtin.Int.intBits i : Int) + j ≤ 2 ^ 27) (q : ∀ u t', Q (.int (i * 2 ^ j.toNat) u) (St s₀ h t')) : wpAny (model prog w) A (binaryOp .LShift (.int i x) (.int j y)) Q E (St s₀ h t) := by (with_reducible refine lshift_int h0 hb ?_); exact q _ _
theorem r_shr (h0 : 0 ≤ j) (q : ∀ u t', Q (.int (i.fdiv (2 ^ j.toNat)) u) (St s₀ h t')) : wpAny (model prog w) A (binaryOp .RShift (.int i x) (.int j y)) Q E (St s₀ h t) := by (with_reducible refine rshift_int h0 ?_); exact q _ _
theorem r_fdiv (h0 : j ≠ 0) (hp : j.natAbs.log2 < 9000) (q : ∀ u t', Q (.int (i.fdiv j) u) (St s₀ h t')) : wpAny (model prog w) A (binaryOp .FloorDiv (.int i x) (.int j y)) Q E (St s₀ h t) :=
  by (with_reducible refine floordiv_int h0 ?_ (Or.inl (PyProof.noPylong_of_log2 hp))); exact q _ _
theorem r_mod (h0 : j ≠ 0) (q : ∀ u t', Q (.int (i.fmod j) u) (St s₀ h t')) : wpAny (model prog w) A (binaryOp .Mod (.int i x) (.int j y)) Q E (St s₀ h t) := by (with_reducible refine mod_int' h0 ?_); exact q _ _
theorem r_iadd (q : ∀ u t', Q (.int (i + j) u) (St s₀ h t')) : wpAny (model prog w) A (inplaceOp .Add (.int i x) (.int j y)) Q E (St s₀ h t) := by (with_reducible refine P.iadd_int ?_); exact q _ _
theorem r_isub (q : ∀ u t', Q (.int (i - j) u) (St s₀ h t')) : wpAny (model prog w) A (inplaceOp .Sub (.int i x) (.int j y)) Q E (St s₀ h t) := by (with_reducible refine P.isub_int ?_); exact q _ _
theorem r_ixor (q : ∀ u t', Q (.int (Builtin.bitXor i j) u) (St s₀ h t')) : wpAny (model prog w) A (inplaceOp .BitXor (.int i x) (.int j y)) Q E (St s₀ h t) := by (with_reducible refine ixor_int ?_); exact q _ _
theorem r_ishl (h0 : 0 ≤ j) (hb : (Builtin.Int.intBits i : Int) + j ≤ 2 ^ 27) (q : ∀ u t', Q (.int (i * 2 ^ j.toNat) u) (St s₀ h t')) : wpAny (model prog w) A (inplaceOp .LShift (.int i x) (.int j y)) Q E (St s₀ h t) := by (with_reducible refine ilshift_int h0 hb ?_); exact q _ _
theorem r_ishr (h0 : 0 ≤ j) (q : ∀ u t', Q (.int (i.fdiv (2 ^ j.toNat)) u) (St s₀ h t')) : wpAny (model prog w) A (inplaceOp .RShift (.int i x) (.int j y)) Q E (St s₀ h t) := by (with_reducible refine irshift_int h0 ?_); exact q _ _
theorem r_lt (q : Q (.bool (decide (i < j))) (St s₀ h t)) : wpAny (model prog w) A (compareOp .Lt (.int i x) (.int j y)) Q E (St s₀ h t) := by (with_reducible refine P.lt_int ?_); exact q
theorem r_le (q : Q (.bool (decide (i ≤ j))) (St s₀ h t)) : wpAny (model prog w) A (compareOp .LtE (.int i x) (.int j y)) Q E (St s₀ h t) := by (with_reducible refine P.le_int ?_); exact q
theorem r_gt (q : Q (.bool (decide (j < i))) (St s₀ h t)) : wpAny (model prog w) A (compareOp .Gt (.int i x) (.int j y)) Q E (St s₀ h t) := by (with_reducible refine P.gt_int ?_); exact q
theorem r_ge (q : Q (.bool (decide (j ≤ i))) (St s₀ h t)) : wpAny (model prog w) A (compareOp .GtE (.int i x) (.int j y)) Q E (St s₀ h t) := by (with_reducible refine P.ge_int ?_); exact q
theorem r_eq (q : Q (.bool (decide (i = j))) (St s₀ h t)) : wpAny (model prog w) A (compareOp .Eq (.int i x) (.int j y)) Q E (St s₀ h t) := by (with_reducible refine P.eq_int ?_); exact q
theorem r_ne (q : Q (.bool (!decide (i = j))) (St s₀ h t)) : wpAny (model prog w) A (compareOp .NotEq (.int i x) (.int j y)) Q E (St s₀ h t) := by (with_reducible refine P.ne_int ?_); exact q
theorem r_bits (q : ∀ u t', Q (.int (Builtin.Int.intBits i : Int) u) (St s₀ h t')) : wpAny (model prog w) A (call (.builtin "int.bit_length") [.int i x]) Q E (St s₀ h t) := by (with_reducible refine call_int_bit_length ?_); exact q _ _
end
theorem r_truthy_int {i : Int} {x : Tok} {Q : Bool → Shared → Prop} (q : Q (!decide (i = 0)) (St s₀ h t)) : wpAny (model prog w) A (truthy (.int i x)) Q E (St s₀ h t) := by (with_reducible refine P.truthy_int ?_); exact q
theorem r_truthy_bool {b : Bool} {Q : Bool → Shared → Prop} (q : Q b (St s₀ h t)) : wpAny M A (truthy (.bool b)) Q E (St s₀ h t) := wpAny_truthy_bool q
theorem r_getbits {i : Int} {x : Tok} {pl : Sem Bool} {Q : Value × List Value → Shared → Prop} (q : Q (.builtin "int.bit_length", [.int i x]) (St s₀ h t)) :
    wpAny M A (getMethod (.int i x) (Str.ofString "bit_length") pl) Q E (St s₀ h t) := getMethod_int_bit_length q
-- if
theorem i_true {X Y : Prop} (x : X) : if true = true then X else Y := by rw [if_pos rfl]; exact x
theorem i_false {X Y : Prop} (y : Y) : if false = true then X else Y := by rw [if_neg Bool.false_ne_true]; exact y
theorem i_dec {p : Prop} [Decidable p] {X Y : Prop} (x : p → X) (y : ¬p → Y) : if decide p = true then X else Y := by
  by_cases hp : p
  · rw [if_pos (decide_eq_true hp)]; exact x hp
  · rw [if_neg (by simpa using hp)]; exact y hp
theorem i_not {b : Bool} {X Y : Prop} (z : if b = true then Y else X) : if (!b) = true then X else Y := by
  cases b
  · simpa using z
  · simpa using z
-- tuples
theorem r_newtuple {vs : List Value} {Q : Value → Shared → Prop} (F : Fm w h₀ env lo gl ms l h) (hsz : vs.length ≤ 1000)
    (q : ∀ D h', Fm w h₀ env lo gl ms ((D, vs) :: l) h' → Q (.ref D) (St s₀ h' t)) : wpAny M A (newTuple vs) Q E (St s₀ h t) := by
  refine wpAny_newObj_type (s := St s₀ h t) (q _ _ ?_) (by show vs.toArray.size ≤ sizeLine; rw [List.size_toArray]; exact Nat.le_trans hsz (by decide))
  have k : Kp h (h.push { cls := .type "tuple", data := .seq vs.toArray }) := fun b o e => Heap.get?_push_of_some _ e
  exact (F.after k).add (IsTup.new h vs.toArray)
theorem r_item {value slice : Expr} {b : Addr} {vs : List Value} {k : Int} {u : Tok} {j : Nat} {v : Value} {Q : Value → Shared → Prop} (F : Fm w h₀ env lo gl ms l h) (hm : (b, vs) ∈ l)
    (h1 : -2 ^ 63 ≤ k) (h2 : k < 2 ^ 63) (hj : seqIndex? k vs.length = some j) (hv : vs[j]? = some v)
    (hs : subscripted slice false (.ref b) (.int k u) = operate [.ref b, .int k u] (getItem (.ref b) (.int k u))) (q : Q v (St s₀ h t)) :
    wpAny (model prog w) A (subscriptTail value slice (.ref b) (.int k u)) Q E (St s₀ h t) :=
  item_tupleT (F.tup hm) h1 h2 hj hv q hs
theorem r_unpack {elts : List Expr} {k : Nat} {pos : Pos} {b : Addr} {vs : List Value} {Q : Unit → Shared → Prop} (F : Fm w h₀ env lo gl ms l h) (hm : (b, vs) ∈ l) (hA : A.handled = none)
    (h1 : (assignEach elts env).length = vs.length) (h2 : List.findIdx? (fun x => x.fst) (assignEach elts env) = none)
    (q : ∀ h', Fm w h₀ env lo gl ms l h' → wpAny (model prog w) A (assignInOrder (List.map (fun x => x.snd) (assignEach elts env)) vs) Q E (St s₀ h' t)) :
    wpAny (model prog w) A (assign (.Tuple elts k pos) env (.ref b)) Q E (St s₀ h t) := by
  obtain ⟨o, ho, hc, n, hd⟩ := F.tup hm
  refine wpAny_assign_Tuple (s := St s₀ h t) (items := vs.toArray) hA ⟨o, ho, hc, n, hd⟩ (by simpa using h1) h2 (fun h' hx => ?_)
  exact q h' (F.after fun b o e => hx b o (Nat.ne_of_lt (Heap.lt_size e)) e)
-- statements
theorem s_nil {Q : Flow → Shared → Prop} (q : Q .next s) : wpAny M A (execs [] env) Q E s := wpAny_execs_nil q
theorem s_cons {st : Stmt} {Q : Flow → Shared → Prop} (k : wpAny M A (exec st env) (Th M A env rest Q E) E s) : wpAny M A (execs (st :: rest) env) Q E s :=
  wpAny_execs_cons (wpAny_mono k (fun f s' hf => by cases f <;> exact hf) fun _ _ x => x)
theorem th_next {Q : Flow → Shared → Prop} (k : wpAny M A (execs rest env) Q E s) : Th M A env rest Q E .next s := k
theorem th_ret {Q : Flow → Shared → Prop} {v : Value} (k : Q (.ret v) s) : Th M A env rest Q E (.ret v) s := k
theorem bk_ret {Q : Value → Shared → Prop} {v : Value} (k : Q v s) : Bk Q (.ret v) s := k
theorem bk_next {Q : Value → Shared → Prop} (k : Q .none s) : Bk Q .next s := k
-- expressions
theorem e_binop {l' r' : Expr} {op : Operator} {pos : Pos} {Q : Value → Shared → Prop} (k : wpAny M A (eval l' env) (fun a s₁ => wpAny M A (eval r' env) (fun b s₂ => wpAny M A (binaryOp op a b) Q E s₂) E s₁) E s) :
    wpAny M A (eval (.BinOp l' op r' pos) env) Q E s := wpAny_BinOp k
theorem e_call {f : Expr} {args : List Expr} {pos : Pos} {Q : Value → Shared → Prop} (k : wpAny M A (eval f env) (fun f s₁ => wpAny M A (callWith pos f [] (backTo pos (starEach args env)) []) Q E s₁) E s)
    (hf : eval (f.Call args [] pos) env = do
          let __do_lift ← eval f env
          callWith pos __do_lift [] (backTo pos (starEach args env)) (backToKw pos (keywordEach [] env))) : wpAny M A (eval (.Call f args [] pos) env) Q E s := Call_ k hf
theorem e_callK {pos : Pos} {f : Addr} {e : Expr} {args : List Expr} {Q : Value → Shared → Prop} (F : Fm w h₀ env lo gl ms l h) (hk : fnAddrs.contains f = true)
    (k : wpAny M A (spliced (backTo pos (starEach (e :: args) env))) (fun vs s₁ => (KK w).In s₁.heap ∧ wpAny M A (call (.ref f) vs) Q E s₁) E (St s₀ h t))
    (he : starEach (e :: args) env = (false, eval e env) :: starEach args env) (hp : ((backTo pos (starEach args env)).any fun x => x.fst) = false) :
    wpAny M A (callWith pos (.ref f) [] (backTo pos (starEach (e :: args) env)) []) Q E (St s₀ h t) := callWith_K (first := []) F.g.k (fn_ok w hk) k he hp
theorem e_callB {pos : Pos} {id : String} {e : Expr} {args : List Expr} {Q : Value → Shared → Prop}
    (k : wpAny M A (spliced (backTo pos (starEach (e :: args) env))) (fun vs s₁ => wpAny M A (call (.builtin id) vs) Q E s₁) E s)
    (he : starEach (e :: args) env = (false, eval e env) :: starEach args env) (hp : ((backTo pos (starEach args env)).any fun x => x.fst) = false) :
    wpAny M A (callWith pos (.builtin id) [] (backTo pos (starEach (e :: args) env)) []) Q E s := PyProof.Rows.callWith_builtin1 k he hp
theorem e_method {o : Expr} {name : Str} {apos pos : Pos} {pl : Sem Bool} {Q : Value → Shared → Prop}
    (hf : eval (.Call (.Attribute o name apos) [] [] pos) env = do
          let ov ← eval o env
          standAt apos.atName
          let __x ← holding [ov] (getMethod ov name pl)
          match __x with
            | (f, first) => callWith pos f first (backTo pos (starEach [] env)) [])
    (k : wpAny M A (eval o env) (fun ov s₁ => wpAny M A (getMethod ov name pl) (fun fx s₂ => wpAny M A (callWith pos fx.1 fx.2 (backTo pos (starEach [] env)) []) Q E s₂) E s₁) E s) :
    wpAny M A (eval (.Call (.Attribute o name apos) [] [] pos) env) Q E s := MethodCall_ k hf
theorem e_method0 {pos : Pos} {id : String} {first : List Value} {Q : Value → Shared → Prop} (k : wpAny M A (call (.builtin id) first) Q E s) : wpAny M A (callWith pos (.builtin id) first (backTo pos (starEach [] env)) []) Q E s :=
  callWith_method0 k
theorem in_and {P Q : Prop} (p : P) (q : Q) : P ∧ Q := ⟨p, q⟩

theorem e_inK {X : Prop} (F : Fm w h₀ env lo gl ms l h) (k : X) : (KK w).In (St s₀ h t).heap ∧ X := ⟨F.gw.k, k⟩
theorem a_cons {f : Value → Sem Unit} {fs : List (Value → Sem Unit)} {x : Value} {xs : List Value} {b : Bool} {ps : List (Bool × (Value → Sem Unit))} {Q : Unit → Shared → Prop}
    (k : wpAny M A (f x) (fun _ s₁ => wpAny M A (assignInOrder (List.map (fun x => x.snd) ps) xs) Q E s₁) E s) : wpAny M A (assignInOrder (List.map (fun x => x.snd) ((b, f) :: ps)) (x :: xs)) Q E s :=
  assignInOrder_cons k
theorem lookup_x {i : Nat} (hi : i < NX) : ∀ ms : List (Nat × Value), (∀ p ∈ ms, p.1 < NX) → (ms.map fun p => (X p.1, p.2)).lookup (X i) = ms.lookup i
  | [], _ => rfl
  | (j, v) :: r, h => by
    rw [List.map_cons, List.lookup_cons, List.lookup_cons, lookup_x hi r fun p hp => h p (.tail _ hp)]
    by_cases c : i = j
    · subst c; simp
    · have c' : (X i == X j) = false := by
        simp only [beq_eq_false_iff_ne, ne_eq]
        exact fun e => c (X_inj (Nat.le_of_lt hi) (Nat.le_of_lt (h _ (.head _))) e)
      have c'' : (i == j) = false := by simpa using c
      rw [c', c'']
theorem mem_of_lookup {i : Nat} {v : Value} : ∀ {ms : List (Nat × Value)}, ms.lookup i = some v → (i, v) ∈ ms
  | (j, u) :: r, e => by
    rw [List.lookup_cons] at e
    by_cases c : i = j
    · subst c
      simp only [BEq.rfl] at e
      cases e
      exact .head _
    · have c'' : (i == j) = false := by simpa using c
      rw [c''] at e
      exact .tail _ (mem_of_lookup e)
/-- entering a def: `ms` are the parameters, the last first -/
theorem enter {sc : Scope} {f : Addr} {name qual : Str} {params : Arguments} {body : List Stmt} {dV kV doc pm cdv ct oc : Value} {an od : Option Addr} {osl : Array (Option Value)} {vals : List Value}
    {Q : Value → Shared → Prop} {d : Nat} (lo gl : List Nat) (ms : List (Nat × Value)) (R : Rm (d + 1) A) (G : Gl w h)
    (ho : (KK w).lookup f = some ⟨oc, od, .func (fnOf name qual params body sc dV kV doc pm an cdv ct), osl⟩) (hcd : codeIn (KK w) cdv qual = true)
    (hb : BindsTo (St s₀ h t) (fnOf name qual params body sc dV kV doc pm an cdv ct) ⟨vals, []⟩ (ms.map fun p => (X p.1, p.2)).reverse)
    (hlo : (lo.all fun i => decide (i < NX) && decide (sc.names.lookup (X i) = some .local)) = true) (hgl : (gl.all fun i => decide (i < NX) && decide (sc.names.lookup (X i) = some .globalImplicit)) = true)
    (hms : (ms.all fun p => lo.contains p.1) = true) (hco : sc.isCoroutine = false) (hgen : sc.isGenerator = false) (hk : sc.kind = .function)
    (hcell : (sc.names.all fun x => x.2 != .cell) = true)
    (k : ∀ (A' : Around) (env : Env) (h₁ : Heap) (t' : Nat) (E' : Value → Shared → Prop), Rm d A' → Fm w ⟨h, []⟩ env lo gl ms [] h₁ →
      wpAny (model prog w) A' (execs body env) (Bk Q) E' (St s₀ h₁ t')) : wpAny (model prog w) A (call (.ref f) vals) Q E (St s₀ h t) := by
  have lo' : ∀ i, lo.contains i = true → i < NX ∧ sc.names.lookup (X i) = some .local := fun i hi => by
    have := List.all_eq_true.mp hlo i (by simpa using hi)
    simpa using this
  have gl' : ∀ i, gl.contains i = true → i < NX ∧ sc.names.lookup (X i) = some .globalImplicit := fun i hi => by
    have := List.all_eq_true.mp hgl i (by simpa using hi)
    simpa using this
  have ml : ∀ p ∈ ms, p.1 < NX ∧ sc.names.lookup (X p.1) = some .local := fun p hp => lo' _ (List.all_eq_true.mp hms p hp)
  refine wpAny_call (codeAny_call_def (s := St s₀ h t) (fd := fnOf name qual params body sc dV kV doc pm an cdv ct) (body := body) (binds := (ms.map fun p => (X p.1, p.2)).reverse)
    (Nat.lt_of_le_of_lt (Nat.le_add_right _ _) R.hd) (G.k _ _ ho) rfl G.nolimit (codeRec_of G.k hcd) rfl hb (fun x hx => by simpa using List.all_eq_true.mp hcell x hx)
    (fun x hx => ?_) (fun h₁ hns hk₁ => ?_) hco hgen hk)
  · rw [List.mem_reverse, List.mem_map] at hx
    obtain ⟨p, hp, rfl⟩ := hx
    exact (ml p hp).2
  · refine k (A.deeper (envOf qual sc h.objs.size f cdv)) (envOf qual sc h.objs.size f cdv) h₁ _ _ R.deeper ⟨G, ⟨_, _, _, _, _, rfl, hk, lo', gl'⟩, ⟨_, ⟨hns, hk₁, Nat.le_refl _⟩, fun i v e => ?_⟩, fun p hp => (nomatch hp), fun p hp => (nomatch hp)⟩
    have hi := (ml _ (mem_of_lookup e)).1
    refine ⟨hi, ?_⟩
    rw [List.reverse_reverse]
    rw [lookup_x hi ms fun p hp => (ml p hp).1]
    exact e
/-- ways meet: go on from what holds behind the statement (or leave) -/
def Jn (s₀ : Shared) (I : Heap → Prop) (Q : Flow → Shared → Prop) : Flow → Shared → Prop := fun f s' => match f with | .next => ∃ h t, s' = St s₀ h t ∧ I h | f => Q f s'
theorem jn {I : Heap → Prop} {Q : Flow → Shared → Prop} (i : I h) : Jn s₀ I Q .next (St s₀ h t) := ⟨h, t, rfl, i⟩
theorem jn_ret {I : Heap → Prop} {Q : Flow → Shared → Prop} {v : Value} (k : Q (.ret v) s) : Jn s₀ I Q (.ret v) s := k
theorem s_join {st : Stmt} {Q : Flow → Shared → Prop} (I : Heap → Prop) (k1 : wpAny M A (exec st env) (Jn s₀ I Q) E (St s₀ h t)) (k2 : ∀ h t, I h → wpAny M A (execs rest env) Q E (St s₀ h t)) : wpAny M A (execs (st :: rest) env) Q E (St s₀ h t) := by
  refine wpAny_execs_cons (wpAny_mono k1 (fun f s' hf => ?_) fun _ _ x => x)
  cases f with
  | next =>
    obtain ⟨h, t, rfl, i⟩ := hf
    exact k2 h t i
  | _ => exact hf
end
section
variable {w : World} {A : Around} {E : Value → Shared → Prop} {s₀ : Shared} {h : Heap} {h₀ : Base} {t : Nat} {lo gl : List Nat} {ms : List (Nat × Value)} {l : Led}
  {prog : Program} {M : Model} {env : Env} {s : Shared} {rest : List Stmt}

theorem r_pow {i j : Int} {x y : Tok} {Q : Value → Shared → Prop} (h0 : 0 ≤ j) (h1 : j ≤ 1000000) (h2 : i.natAbs < 2 ^ 64) (q : ∀ u t', Q (.int (i ^ j.toNat) u) (St s₀ h t')) :
    wpAny (model prog w) A (binaryOp .Pow (.int i x) (.int j y)) Q E (St s₀ h t) := by (with_reducible refine pow_int_small h0 h1 h2 ?_); exact q _ _
theorem r_eqstrT {x y : Str} {u v : Tok} {Q : Value → Shared → Prop} (e : (x == y) = true) (q : Q (.bool true) (St s₀ h t)) : wpAny (model prog w) A (compareOp .Eq (.str x u) (.str y v)) Q E (St s₀ h t) := by
  (with_reducible refine eq_str ?_); rw [e]; exact q
theorem r_eqstrF {x y : Str} {u v : Tok} {Q : Value → Shared → Prop} (e : (x == y) = false) (q : Q (.bool false) (St s₀ h t)) : wpAny (model prog w) A (compareOp .Eq (.str x u) (.str y v)) Q E (St s₀ h t) := by
  (with_reducible refine eq_str ?_); rw [e]; exact q
theorem r_instr {x y : Str} {u v : Tok} {b : Bool} {Q : Value → Shared → Prop} (e : (!(Builtin.Str.occurrences x y 0 x.length 1).isEmpty) = b) (q : Q (.bool b) (St s₀ h t)) :
    wpAny (model prog w) A (compareOp .In (.str y u) (.str x v)) Q E (St s₀ h t) := by
  (with_reducible refine PyProof.Rows.in_str ?_); rw [e]; exact q
theorem r_isint {i : Int} {u : Tok} {Q : Value → Shared → Prop} (q : Q (.bool true) (St s₀ h t)) : wpAny (model prog w) A (call (.builtin "isinstance") [.int i u, .type "int"]) Q E (St s₀ h t) := by
  (with_reducible refine call_isinstance_yes (typeIs_int _ _ _) meta_int sub_int_int ?_); exact q
theorem r_max {i j : Int} {x y : Tok} {Q : Value → Shared → Prop} (F : Fm w h₀ env lo gl ms l h) (hA : A.handled = none) (q : ∀ u h' t', Fm w h₀ env lo gl ms l h' → Q (.int (max i j) u) (St s₀ h' t')) :
    wpAny (model prog w) A (call (.builtin "max") [.int i x, .int j y]) Q E (St s₀ h t) := by
  refine max_two_ints hA (fun h' tk k => ?_)
  have F' := F.after k
  by_cases c : j > i
  · rw [if_pos c]; have e : max i j = j := by omega
    rw [← e]; exact q _ _ _ F'
  · rw [if_neg c]; have e : max i j = i := by omega
    have q' := q x h' tk F'
    rw [e] at q'; exact q'
theorem r_min {i j : Int} {x y : Tok} {Q : Value → Shared → Prop} (F : Fm w h₀ env lo gl ms l h) (hA : A.handled = none) (q : ∀ u h' t', Fm w h₀ env lo gl ms l h' → Q (.int (min i j) u) (St s₀ h' t')) :
    wpAny (model prog w) A (call (.builtin "min") [.int i x, .int j y]) Q E (St s₀ h t) := by
  refine min_two_ints hA (fun h' tk k => ?_)
  have F' := F.after k
  by_cases c : j < i
  · rw [if_pos c]; have e : min i j = j := by omega
    rw [← e]; exact q _ _ _ F'
  · rw [if_neg c]; have e : min i j = i := by omega
    have q' := q x h' tk F'
    rw [e] at q'; exact q'
theorem r_divmod {i j : Int} {x y : Tok} {Q : Value → Shared → Prop} (F : Fm w h₀ env lo gl ms l h) (h0 : j ≠ 0) (hp : j.natAbs.log2 < 9000)
    (q : ∀ D u v h' t', Fm w h₀ env lo gl ms ((D, [.int (i.fdiv j) u, .int (i.fmod j) v]) :: l) h' → Q (.ref D) (St s₀ h' t')) :
    wpAny (model prog w) A (call (.builtin "divmod") [.int i x, .int j y]) Q E (St s₀ h t) := by
  refine divmod_int (s := St s₀ h t) h0 ?_ (Or.inl (PyProof.noPylong_of_log2 hp))
  have k : Kp h (h.push { cls := .type "tuple", data := .seq #[.int (i.fdiv j) t, .int (i.fmod j) (t + 1)] }) := fun b o e => Heap.get?_push_of_some _ e
  exact q _ _ _ _ _ ((F.after k).add (IsTup.new h _))

theorem tup_reads4 {b : Addr} {i1 i2 i3 i4 : Int} {u1 u2 u3 u4 : Tok} (T : IsTup h b #[.int i1 u1, .int i2 u2, .int i3 u3, .int i4 u4]) : Reads h (.ref b) (.tuple [.int i1, .int i2, .int i3, .int i4]) [] := by
  obtain ⟨o, ho, hc, n, hd⟩ := T
  exact reads_tuple_at ho hc hd (.cons (.int _ _) (.cons (.int _ _) (.cons (.int _ _) (.cons (.int _ _) .nil))))
theorem r_eqtup {b c : Addr} {i1 i2 i3 i4 j1 j2 j3 j4 : Int} {u1 u2 u3 u4 v1 v2 v3 v4 : Tok} {d : Nat} {Q : Value → Shared → Prop} (R : Rm d A)
    (T : IsTup h b #[.int i1 u1, .int i2 u2, .int i3 u3, .int i4 u4]) (T' : IsTup h c #[.int j1 v1, .int j2 v2, .int j3 v3, .int j4 v4])
    (q : Q (.bool (decide (i1 = j1 ∧ i2 = j2 ∧ i3 = j3 ∧ i4 = j4))) (St s₀ h t)) : wpAny (model prog w) A (compareOp .Eq (.ref b) (.ref c)) Q E (St s₀ h t) := by
  refine eq_dataH (s := St s₀ h t) (tup_reads4 T) (tup_reads4 T') rfl rfl (by have := R.hu; omega) ?_
  have e : (PyData.tuple [.int i1, .int i2, .int i3, .int i4]).eqv (.tuple [.int j1, .int j2, .int j3, .int j4]) = decide (i1 = j1 ∧ i2 = j2 ∧ i3 = j3 ∧ i4 = j4) := by
    simp only [PyData.eqv, PyData.eqvAll, Bool.and_true]
    rw [Bool.eq_iff_iff]
    simp
  rw [e]; exact q

-- assignments of several names
theorem r_unpack2 {x1 x2 : Nat} {p1 p2 : Pos} {v1 v2 : Value} {k : Nat} {pos : Pos} {b : Addr} {Q : Unit → Shared → Prop} (F : Fm w h₀ env lo gl ms l h) (hm : (b, [v1, v2]) ∈ l) (hA : A.handled = none)
    (l1 : lo.contains x1 = true) (l2 : lo.contains x2 = true)
    (q : ∀ h' t', Fm w h₀ env lo gl ((x2, v2) :: (x1, v1) :: ms) l h' → Q () (St s₀ h' t')) :
    wpAny (model prog w) A (assign (.Tuple [.Name (X x1) p1, .Name (X x2) p2] k pos) env (.ref b)) Q E (St s₀ h t) := by
  refine r_unpack F hm hA rfl rfl (fun h' F' => ?_)
  refine assignInOrder_cons (PyProof.Rows.assign_Name (r_store F' l1 fun h' t' F' => ?_))
  refine assignInOrder_cons (PyProof.Rows.assign_Name (r_store F' l2 fun h' t' F' => ?_))
  exact assignInOrder_nil (q _ _ F')
theorem r_unpack4 {x1 x2 x3 x4 : Nat} {p1 p2 p3 p4 : Pos} {v1 v2 v3 v4 : Value} {k : Nat} {pos : Pos} {b : Addr} {Q : Unit → Shared → Prop} (F : Fm w h₀ env lo gl ms l h) (hm : (b, [v1, v2, v3, v4]) ∈ l) (hA : A.handled = none)
    (l1 : lo.contains x1 = true) (l2 : lo.contains x2 = true) (l3 : lo.contains x3 = true) (l4 : lo.contains x4 = true)
    (q : ∀ h' t', Fm w h₀ env lo gl ((x4, v4) :: (x3, v3) :: (x2, v2) :: (x1, v1) :: ms) l h' → Q () (St s₀ h' t')) :
    wpAny (model prog w) A (assign (.Tuple [.Name (X x1) p1, .Name (X x2) p2, .Name (X x3) p3, .Name (X x4) p4] k pos) env (.ref b)) Q E (St s₀ h t) := by
  refine r_unpack F hm hA rfl rfl (fun h' F' => ?_)
  refine assignInOrder_cons (PyProof.Rows.assign_Name (r_store F' l1 fun h' t' F' => ?_))
  refine assignInOrder_cons (PyProof.Rows.assign_Name (r_store F' l2 fun h' t' F' => ?_))
  refine assignInOrder_cons (PyProof.Rows.assign_Name (r_store F' l3 fun h' t' F' => ?_))
  refine assignInOrder_cons (PyProof.Rows.assign_Name (r_store F' l4 fun h' t' F' => ?_))
  exact assignInOrder_nil (q _ _ F')
theorem r_items {b : Addr} {vs : List Value} {n : Nat} {Q : List Value → Shared → Prop} (F : Fm w h₀ env lo gl ms l h) (hm : (b, vs) ∈ l) (hA : A.handled = none) (hn : n = vs.length)
    (q : ∀ h', Fm w h₀ env lo gl ms l h' → Q vs (St s₀ h' t)) : wpAny (model prog w) A (unpackItems (.ref b) n none) Q E (St s₀ h t) := by
  subst hn
  have T := F.tup hm
  have e : vs.length = vs.toArray.size := by simp
  rw [e]
  refine unpackItems_tuple (s := St s₀ h t) hA T (fun h' hx => ?_)
  exact q h' (F.after fun b o e => hx b o (Nat.ne_of_lt (Heap.lt_size e)) e)
/-- behind the items of a tuple that is assigned to two (three) names crosswise -/
def Sw2 (w : World) (h₀ : Base) (env : Env) (lo gl : List Nat) (s₀ : Shared) (x1 x2 : Nat) (Q : Flow → Shared → Prop) (v1 v2 : Value) (s : Shared) : Prop :=
  ∃ h t ms l, s = St s₀ h t ∧ Fm w h₀ env lo gl ms l h ∧ ∀ h' t', Fm w h₀ env lo gl ((x1, v1) :: (x2, v2) :: ms) l h' → Q .next (St s₀ h' t')
theorem sw2 {x1 x2 : Nat} {v1 v2 : Value} {Q : Flow → Shared → Prop} (F : Fm w h₀ env lo gl ms l h) (q : ∀ h' t', Fm w h₀ env lo gl ((x1, v1) :: (x2, v2) :: ms) l h' → Q .next (St s₀ h' t')) :
    Sw2 w h₀ env lo gl s₀ x1 x2 Q v1 v2 (St s₀ h t) := ⟨h, t, ms, l, rfl, F, q⟩
def Sw3 (w : World) (h₀ : Base) (env : Env) (lo gl : List Nat) (s₀ : Shared) (x1 x2 x3 : Nat) (Q : Flow → Shared → Prop) (v1 v2 v3 : Value) (s : Shared) : Prop :=
  ∃ h t ms l, s = St s₀ h t ∧ Fm w h₀ env lo gl ms l h ∧ ∀ h' t', Fm w h₀ env lo gl ((x1, v1) :: (x2, v2) :: (x3, v3) :: ms) l h' → Q .next (St s₀ h' t')
theorem sw3 {x1 x2 x3 : Nat} {v1 v2 v3 : Value} {Q : Flow → Shared → Prop} (F : Fm w h₀ env lo gl ms l h) (q : ∀ h' t', Fm w h₀ env lo gl ((x1, v1) :: (x2, v2) :: (x3, v3) :: ms) l h' → Q .next (St s₀ h' t')) :
    Sw3 w h₀ env lo gl s₀ x1 x2 x3 Q v1 v2 v3 (St s₀ h t) := ⟨h, t, ms, l, rfl, F, q⟩
theorem r_swap2 {x1 x2 : Nat} {p1 p2 : Pos} {k k' : Nat} {pos pos' pos'' : Pos} {e1 e2 : Expr} {Q : Flow → Shared → Prop} (F : Fm w h₀ env lo gl ms l h)
    (hA : A.handled = none) (l1 : lo.contains x1 = true) (l2 : lo.contains x2 = true)
    (he1 : starEach [e1, e2] env = (false, eval e1 env) :: starEach [e2] env) (he2 : starEach [e2] env = (false, eval e2 env) :: starEach [] env)
    (hs : swapsWithSole [.Tuple [.Name (X x1) p1, .Name (X x2) p2] k pos''] (.Tuple [e1, e2] k' pos') pos.line env = pure false)
    (hw : swappedStores [.Tuple [.Name (X x1) p1, .Name (X x2) p2] k pos''] (.Tuple [e1, e2] k' pos') env = pure (some [X x1, X x2]))
    (kk : wpAny (model prog w) A (eval e1 env) (fun v1 s₁ => wpAny (model prog w) A (eval e2 env) (fun v2 s₂ => Sw2 w h₀ env lo gl s₀ x1 x2 Q v1 v2 s₂) E s₁) E (St s₀ h t)) :
    wpAny (model prog w) A (exec (.Assign [.Tuple [.Name (X x1) p1, .Name (X x2) p2] k pos''] (.Tuple [e1, e2] k' pos') pos) env) Q E (St s₀ h t) := by
  refine Assign_Tuple_swapped (Tuple_ ?_) hs hw
  refine spliced_more (wpAny_mono kk (fun v1 s₁ q1 => ?_) fun _ _ x => x) he1
  refine spliced_more (wpAny_mono q1 (fun v2 s₂ q2 => ?_) fun _ _ x => x) he2
  refine spliced_none ?_
  obtain ⟨h, t, ms, l, rfl, F, q⟩ := q2
  refine r_newtuple F (Nat.le_of_ble_eq_true rfl) (fun D h' F' => ?_)
  refine r_items F' (List.Mem.head _) hA rfl (fun h' F' => ?_)
  have F'' : Fm w h₀ env lo gl ms l h' := ⟨F'.g, F'.e, F'.f, fun p hp => F'.n p (.tail _ hp), F'.x⟩
  refine assignInOrder_cons (wpAny_bindName (r_store F'' l2 fun h' t' F' => ?_))
  refine assignInOrder_cons (wpAny_bindName (r_store F' l1 fun h' t' F' => ?_))
  exact assignInOrder_nil (q _ _ F')
theorem r_swap3 {x1 x2 x3 : Nat} {p1 p2 p3 : Pos} {k k' : Nat} {pos pos' pos'' : Pos} {e1 e2 e3 : Expr} {Q : Flow → Shared → Prop} (F : Fm w h₀ env lo gl ms l h)
    (hA : A.handled = none) (l1 : lo.contains x1 = true) (l2 : lo.contains x2 = true) (l3 : lo.contains x3 = true)
    (he1 : starEach [e1, e2, e3] env = (false, eval e1 env) :: starEach [e2, e3] env) (he2 : starEach [e2, e3] env = (false, eval e2 env) :: starEach [e3] env)
    (he3 : starEach [e3] env = (false, eval e3 env) :: starEach [] env)
    (hs : swapsWithSole [.Tuple [.Name (X x1) p1, .Name (X x2) p2, .Name (X x3) p3] k pos''] (.Tuple [e1, e2, e3] k' pos') pos.line env = pure false)
    (hw : swappedStores [.Tuple [.Name (X x1) p1, .Name (X x2) p2, .Name (X x3) p3] k pos''] (.Tuple [e1, e2, e3] k' pos') env = pure (some [X x1, X x2, X x3]))
    (kk : wpAny (model prog w) A (eval e1 env) (fun v1 s₁ => wpAny (model prog w) A (eval e2 env) (fun v2 s₂ => wpAny (model prog w) A (eval e3 env) (fun v3 s₃ => Sw3 w h₀ env lo gl s₀ x1 x2 x3 Q v1 v2 v3 s₃) E s₂) E s₁) E (St s₀ h t)) :
    wpAny (model prog w) A (exec (.Assign [.Tuple [.Name (X x1) p1, .Name (X x2) p2, .Name (X x3) p3] k pos''] (.Tuple [e1, e2, e3] k' pos') pos) env) Q E (St s₀ h t) := by
  refine Assign_Tuple_swapped (Tuple_ ?_) hs hw
  refine spliced_more (wpAny_mono kk (fun v1 s₁ q1 => ?_) fun _ _ x => x) he1
  refine spliced_more (wpAny_mono q1 (fun v2 s₂ q2 => ?_) fun _ _ x => x) he2
  refine spliced_more (wpAny_mono q2 (fun v3 s₃ q3 => ?_) fun _ _ x => x) he3
  refine spliced_none ?_
  obtain ⟨h, t, ms, l, rfl, F, q⟩ := q3
  refine r_newtuple F (Nat.le_of_ble_eq_true rfl) (fun D h' F' => ?_)
  refine r_items F' (List.Mem.head _) hA rfl (fun h' F' => ?_)
  have F'' : Fm w h₀ env lo gl ms l h' := ⟨F'.g, F'.e, F'.f, fun p hp => F'.n p (.tail _ hp), F'.x⟩
  refine assignInOrder_cons (wpAny_bindName (r_store F'' l3 fun h' t' F' => ?_))
  refine assignInOrder_cons (wpAny_bindName (r_store F' l2 fun h' t' F' => ?_))
  refine assignInOrder_cons (wpAny_bindName (r_store F' l1 fun h' t' F' => ?_))
  exact assignInOrder_nil (q _ _ F')
-- the top's table of roundings
theorem r_shifts {x : Str} {u : Tok} {v : Value} {value slice : Expr} {Q : Value → Shared → Prop} (F : Fm w h₀ env lo gl ms l h) (hv : nsIn (KK w) 60 x = some (some v))
    (hs : subscripted slice false (.ref 60) (.str x u) = operate [.ref 60, .str x u] (getItem (.ref 60) (.str x u))) (q : ∀ t', Q v (St s₀ h t')) :
    wpAny (model prog w) A (subscriptTail value slice (.ref 60) (.str x u)) Q E (St s₀ h t) := by
  have e : (KK w).lookup 60 = some { cls := .type "dict", data := .dict #[
    { hash := PyData.keyHash w.params (Str.ofString "f"), key := .str (Str.ofString "f") 246, val := .ref 61 },
    { hash := PyData.keyHash w.params (Str.ofString "c"), key := .str (Str.ofString "c") 248, val := .ref 62 },
    { hash := PyData.keyHash w.params (Str.ofString "d"), key := .str (Str.ofString "d") 252, val := .ref 63 },
    { hash := PyData.keyHash w.params (Str.ofString "u"), key := .str (Str.ofString "u") 250, val := .ref 64 }] 4 } := by kernel_rfl
  exact topItem_K (s := St s₀ h t) (F.f.choose_spec.1) F.g.k e ⟨⟨_, _, rfl, rfl⟩, ⟨_, _, rfl, rfl⟩, ⟨_, _, rfl, rfl⟩, ⟨_, _, rfl, rfl⟩, True.intro⟩ hv (q _) hs
theorem r_topitem {b : Addr} {vs : List Value} {n : Nat} {k : Int} {u : Tok} {j : Nat} {v : Value} {value slice : Expr} {Q : Value → Shared → Prop} (F : Fm w h₀ env lo gl ms l h)
    (hv : (KK w).lookup b = some { cls := .type "tuple", data := .seq vs.toArray n }) (h1 : -2 ^ 63 ≤ k) (h2 : k < 2 ^ 63) (hj : seqIndex? k vs.length = some j) (hx : vs[j]? = some v)
    (hs : subscripted slice false (.ref b) (.int k u) = operate [.ref b, .int k u] (getItem (.ref b) (.int k u))) (q : Q v (St s₀ h t)) :
    wpAny (model prog w) A (subscriptTail value slice (.ref b) (.int k u)) Q E (St s₀ h t) := topTup_K (s := St s₀ h t) (F.f.choose_spec.1) F.g.k hv h1 h2 hj hx q hs
theorem k_61 (w : World) : (KK w).lookup 61 = some { cls := .type "tuple", data := .seq [Value.int 1 277, .int 0 278].toArray } := by kernel_rfl
theorem k_62 (w : World) : (KK w).lookup 62 = some { cls := .type "tuple", data := .seq [Value.int 0 279, .int 1 280].toArray } := by kernel_rfl
theorem s_f (w : World) : nsIn (KK w) 60 (Str.ofString "f") = some (some (.ref 61)) := by kernel_rfl
theorem s_c (w : World) : nsIn (KK w) 60 (Str.ofString "c") = some (some (.ref 62)) := by kernel_rfl
-- the top's special numbers
theorem k_zero (w : World) : (KK w).lookup 56 = some { cls := .type "tuple", data := .seq #[Value.int 0 255, .int 0 187, .int 0 256, .int 0 257] } := by kernel_rfl
theorem k_nan (w : World) : (KK w).lookup 57 = some { cls := .type "tuple", data := .seq #[Value.int 0 259, .int 0 187, .int (-123) 261, .int (-1) 263] } := by kernel_rfl
theorem k_inf (w : World) : (KK w).lookup 58 = some { cls := .type "tuple", data := .seq #[Value.int 0 265, .int 0 187, .int (-456) 267, .int (-2) 269] } := by kernel_rfl
theorem k_ninf (w : World) : (KK w).lookup 59 = some { cls := .type "tuple", data := .seq #[Value.int 1 271, .int 0 187, .int (-789) 273, .int (-3) 275] } := by kernel_rfl
theorem tup_of {b : Addr} {vs : Array Value} {n : Nat} (G : Gl w h) (e : (KK w).lookup b = some { cls := .type "tuple", data := .seq vs n }) : IsTup h b vs := ⟨_, G.k _ _ e, rfl, _, rfl⟩
theorem t_zero (G : Gl w h) : IsTup h 56 #[Value.int 0 255, .int 0 187, .int 0 256, .int 0 257] := tup_of G (k_zero w)
theorem t_nan (G : Gl w h) : IsTup h 57 #[Value.int 0 259, .int 0 187, .int (-123) 261, .int (-1) 263] := tup_of G (k_nan w)
theorem t_inf (G : Gl w h) : IsTup h 58 #[Value.int 0 265, .int 0 187, .int (-456) 267, .int (-2) 269] := tup_of G (k_inf w)
theorem t_ninf (G : Gl w h) : IsTup h 59 #[Value.int 1 271, .int 0 187, .int (-789) 273, .int (-3) 275] := tup_of G (k_ninf w)
end
/-- how the arguments reach the parameters of the def at f -/
def Binds (w : World) (f : Addr) (s : Shared) (vals : List Value) (ms : List (Nat × Value)) : Prop :=
  ∀ o fd, (KK w).lookup f = some o → o.data = .func fd → BindsTo s fd ⟨vals, []⟩ (ms.map fun p => (X p.1, p.2)).reverse
theorem test_last' {M : Model} {A : Around} {E : Value → Shared → Prop} {s : Shared} {env : Env} {pos : Pos} {a : Value} {op : CmpOp} {r : Sem Value} {Q : Bool → Shared → Prop}
    (k : wpAny M A r (fun b s₁ => wpAny M A (compareOp op a b) (fun c s₂ => wpAny M A (truthy c) Q E s₂) E s₁) E s) : wpAny M A (testChain pos a [op] (r :: evalEach [] env)) Q E s := test_last k
structure Mpf where
  (sg mn ex bc : Int)
inductive Rd where
  | f | c | n
@[reducible] def Rd.str : Rd → Str
  | .f => Str.ofString "f"
  | .c => Str.ofString "c"
  | .n => Str.ofString "n"
/-- the odd part of q * 2 ^ e, as the program keeps it -/
def Strip (sg q e : Int) (x : Mpf) : Prop := x.sg = sg ∧ x.mn % 2 = 1 ∧ 0 < x.mn ∧ x.bc = intBits x.mn ∧ ∃ k : Nat, q = x.mn * 2 ^ k ∧ x.ex = e + k
structure Grid (r : Rd) (p sg mn q : Int) (n : Nat) : Prop where
  nn : (n : Int) = max ((intBits mn : Int) - p) 0
  lo : q * 2 ^ n - mn < 2 ^ n
  hi : mn - q * 2 ^ n < 2 ^ n
  f0 : r = .f → sg = 0 → q * 2 ^ n ≤ mn
  f1 : r = .f → sg = 1 → mn ≤ q * 2 ^ n
  c0 : r = .c → sg = 0 → mn ≤ q * 2 ^ n
  c1 : r = .c → sg = 1 → q * 2 ^ n ≤ mn
/-- what a rounding to p bits of (sg, mn, ex) gives -/
def Raw (r : Rd) (p sg mn ex : Int) (x : Mpf) : Prop := (mn = 0 ∧ x = ⟨0, 0, 0, 0⟩) ∨ (0 < mn ∧ ∃ (q : Int) (n : Nat), Grid r p sg mn q n ∧ Strip sg q (ex + n) x)
/-- a number as the program keeps it: nought, or an odd mantissa with its bits -/
structure Mpf.Ok (x : Mpf) : Prop where
  sg : x.sg = 0 ∨ x.sg = 1
  mn : 0 ≤ x.mn
  bc : x.bc = intBits x.mn
  zero : x.mn = 0 → x.sg = 0 ∧ x.ex = 0
  odd : x.mn ≠ 0 → x.mn % 2 = 1
/-- a fact out of the arithmetic's sight -/
def Hd (P : Prop) : Prop := P
theorem Hd.mk {P : Prop} (h : P) : Hd P := h
theorem Hd.out {P : Prop} (h : Hd P) : P := h
theorem ib_zero : intBits 0 = 0 := rfl
theorem ib_bounds {x : Int} (h : 0 < x) : ∃ k : Nat, intBits x = k + 1 ∧ (2 : Int) ^ k ≤ x ∧ x < 2 ^ (k + 1) := by
  refine ⟨x.natAbs.log2, ?_, ?_, ?_⟩
  · unfold intBits
    rw [if_neg (by simp; omega)]
  · have := Nat.log2_self_le (n := x.natAbs) (by omega)
    have h2 : ((2 ^ x.natAbs.log2 : Nat) : Int) ≤ (x.natAbs : Int) := by exact_mod_cast this
    rw [Int.natCast_pow] at h2
    have e : (x.natAbs : Int) = x := by omega
    rw [e] at h2
    exact h2
  · have := Nat.lt_log2_self (n := x.natAbs)
    have h2 : (x.natAbs : Int) < ((2 ^ (x.natAbs.log2 + 1) : Nat) : Int) := by exact_mod_cast this
    rw [Int.natCast_pow] at h2
    have e : (x.natAbs : Int) = x := by omega
    rw [e] at h2
    exact h2
theorem p2_pos (k : Nat) : (0 : Int) < 2 ^ k := Int.pow_pos (by decide)
theorem p2_le {j k : Nat} (h : j ≤ k) : (2 : Int) ^ j ≤ 2 ^ k := by
  have : (2 : Nat) ^ j ≤ 2 ^ k := Nat.pow_le_pow_right (by decide) h
  exact_mod_cast this
theorem p2_lt_iff {j k : Nat} : (2 : Int) ^ j < 2 ^ k ↔ j < k := by
  constructor
  · intro h
    refine Nat.lt_of_not_le fun c => ?_
    have := p2_le c
    omega
  · intro h
    have : (2 : Nat) ^ j < 2 ^ k := Nat.pow_lt_pow_right (by decide) h
    exact_mod_cast this
theorem ib_eq {x : Int} {k : Nat} (h1 : (2 : Int) ^ k ≤ x) (h2 : x < 2 ^ (k + 1)) : intBits x = k + 1 := by
  have hx : 0 < x := by have := p2_pos k; omega
  obtain ⟨j, e, a, b⟩ := ib_bounds hx
  have q1 : j < k + 1 := p2_lt_iff.mp (by omega)
  have q2 : k < j + 1 := p2_lt_iff.mp (by omega)
  omega
theorem ib_pos {x : Int} (h : 0 < x) : 1 ≤ intBits x := by obtain ⟨k, e, _⟩ := ib_bounds h; omega
theorem ib_mul_p2 {m : Int} (h : 0 < m) (k : Nat) : intBits (m * 2 ^ k) = intBits m + k := by
  obtain ⟨j, e, a, b⟩ := ib_bounds h
  have : intBits (m * 2 ^ k) = (j + k) + 1 := by
    refine ib_eq ?_ ?_
    · rw [Int.pow_add]
      exact Int.mul_le_mul_of_nonneg_right a (Int.le_of_lt (p2_pos k))
    · rw [show j + k + 1 = (j + 1) + k by omega, Int.pow_add]
      exact Int.mul_lt_mul_of_pos_right b (p2_pos k)
  omega
theorem ib_p2 (k : Nat) : intBits (2 ^ k) = k + 1 := ib_eq (Int.le_refl _) (p2_lt_iff.mpr (Nat.lt_succ_self _))
theorem odd_split : ∀ (N : Nat) (n : Int), n ≠ 0 → n.natAbs ≤ N → ∃ (k : Nat) (m : Int), n = m * 2 ^ k ∧ m % 2 = 1
  | 0, n, h, hN => absurd hN (by omega)
  | N + 1, n, h, hN => by
    by_cases c : n % 2 = 1
    · exact ⟨0, n, by simp, c⟩
    · obtain ⟨k, m, e, o⟩ := odd_split N (n / 2) (by omega) (by omega)
      refine ⟨k + 1, m, ?_, o⟩
      rw [Int.pow_succ, ← Int.mul_assoc, ← e]
      omega
theorem trail_spec {n : Int} (hn : n ≠ 0) : ∃ (k : Nat) (m : Int), n = m * 2 ^ k ∧ m % 2 = 1 ∧ (intBits (Builtin.bitAnd n (-n)) : Int) - 1 = k := by
  obtain ⟨k, m, e, o⟩ := odd_split _ n hn (Nat.le_refl _)
  refine ⟨k, m, e, o, ?_⟩
  have e' : n = 2 ^ k * (2 * (m / 2) + 1) := by
    rw [e, Int.mul_comm]
    congr 1
    omega
  rw [e', kbt_low, ib_p2]
  omega
theorem fdiv_p2 (a : Int) (N : Nat) : a.fdiv (2 ^ N) = a / 2 ^ N := Int.fdiv_eq_ediv_of_nonneg _ (Int.le_of_lt (p2_pos N))
theorem div_p2 (a : Int) (N : Nat) : ∃ r, a = (a / 2 ^ N) * 2 ^ N + r ∧ 0 ≤ r ∧ r < 2 ^ N := by
  refine ⟨a % 2 ^ N, ?_, Int.emod_nonneg _ (Int.ne_of_gt (p2_pos N)), Int.emod_lt_of_pos _ (p2_pos N)⟩
  have := Int.mul_ediv_add_emod a (2 ^ N)
  rw [Int.mul_comm] at this
  omega
theorem le_of_p2 {a b : Int} {N : Nat} (h : a * 2 ^ N < (b + 1) * 2 ^ N) : a ≤ b := by
  have := Int.lt_of_mul_lt_mul_right h (Int.le_of_lt (p2_pos N))
  omega
/-- a quotient near mn / 2 ^ N has p bits (or is 2 ^ p) -/
theorem q_bits {mn p q : Int} {N : Nat} (hmn : 0 < mn) (hN : (N : Int) = intBits mn - p) (hp : 1 ≤ p) (h1 : q * 2 ^ N - mn < 2 ^ N) (h2 : mn - q * 2 ^ N < 2 ^ N) : 0 < q ∧ (p = intBits q ∨ ∃ j : Nat, 1 ≤ j ∧ q = 2 ^ j) := by
  obtain ⟨k, e, a, b⟩ := ib_bounds hmn
  obtain ⟨p', rfl⟩ : ∃ p' : Nat, p = p' + 1 := ⟨(p - 1).toNat, by omega⟩
  have hk : k = p' + N := by omega
  subst hk
  have l1 : 2 ^ p' * 2 ^ N < (q + 1) * 2 ^ N := by
    rw [← Int.pow_add, Int.add_mul]; omega
  have l2 : q * 2 ^ N < (2 ^ (p' + 1) + 1) * 2 ^ N := by
    rw [Int.add_mul, ← Int.pow_add, show p' + 1 + N = p' + N + 1 by omega]; omega
  have g1 := le_of_p2 l1
  have g2 := le_of_p2 l2
  have := p2_pos p'
  refine ⟨by omega, ?_⟩
  by_cases c : q = 2 ^ (p' + 1)
  · exact .inr ⟨p' + 1, by omega, c⟩
  · exact .inl (by rw [ib_eq g1 (by omega)]; omega)
theorem near_down (mn : Int) (N : Nat) : (mn / 2 ^ N) * 2 ^ N - mn < 2 ^ N ∧ mn - (mn / 2 ^ N) * 2 ^ N < 2 ^ N ∧ (mn / 2 ^ N) * 2 ^ N ≤ mn := by
  obtain ⟨r, e, h0, h1⟩ := div_p2 mn N
  have := p2_pos N
  generalize (mn / 2 ^ N) * 2 ^ N = z at *
  omega
theorem near_up (mn : Int) (N : Nat) : (-(-mn / 2 ^ N)) * 2 ^ N - mn < 2 ^ N ∧ mn - (-(-mn / 2 ^ N)) * 2 ^ N < 2 ^ N ∧ mn ≤ (-(-mn / 2 ^ N)) * 2 ^ N := by
  obtain ⟨r, e, h0, h1⟩ := div_p2 (-mn) N
  have := p2_pos N
  rw [Int.neg_mul]
  generalize (-mn / 2 ^ N) * 2 ^ N = z at *
  omega
theorem fdiv_split {q m : Int} {k : Nat} (h : q = m * 2 ^ k) : q.fdiv (2 ^ (k : Int).toNat) = m := by
  rw [Int.toNat_natCast, fdiv_p2, h, Int.mul_ediv_cancel _ (Int.ne_of_gt (p2_pos k))]
theorem odd_of {q : Int} (h : ¬ Builtin.bitAnd q 1 = 0) : q % 2 = 1 := by
  rw [bitAnd_m1] at h
  omega
section
variable {r : Rd} {sg mn p : Int}
theorem grid_zero (h0 : 0 < mn) (h : (intBits mn : Int) ≤ p) : Grid r p sg mn mn 0 := by
  refine ⟨by omega, ?_, ?_, ?_, ?_, ?_, ?_⟩ <;> simp
theorem grid_down {N : Nat} (hmn : 0 < mn) (hN : (N : Int) = intBits mn - p) (hp : 1 ≤ p) (hr : (r = .f ∧ sg = 0) ∨ (r = .c ∧ sg = 1)) :
    Grid r p sg mn (mn / 2 ^ N) N ∧ 0 < mn / 2 ^ N ∧ (p = intBits (mn / 2 ^ N) ∨ ∃ j : Nat, 1 ≤ j ∧ mn / 2 ^ N = 2 ^ j) := by
  obtain ⟨a, b, c⟩ := near_down mn N
  refine ⟨⟨by omega, a, b, ?_, ?_, ?_, ?_⟩, q_bits hmn hN hp a b⟩ <;> intro e1 e2 <;> rcases hr with ⟨f1, f2⟩ | ⟨f1, f2⟩ <;> first | exact c | (exfalso; subst e1; cases f1; done) | (exfalso; omega)
theorem grid_up {N : Nat} (hmn : 0 < mn) (hN : (N : Int) = intBits mn - p) (hp : 1 ≤ p) (hr : (r = .f ∧ sg = 1) ∨ (r = .c ∧ sg = 0)) :
    Grid r p sg mn (-(-mn / 2 ^ N)) N ∧ 0 < -(-mn / 2 ^ N) ∧ (p = intBits (-(-mn / 2 ^ N)) ∨ ∃ j : Nat, 1 ≤ j ∧ -(-mn / 2 ^ N) = 2 ^ j) := by
  obtain ⟨a, b, c⟩ := near_up mn N
  refine ⟨⟨by omega, a, b, ?_, ?_, ?_, ?_⟩, q_bits hmn hN hp a b⟩ <;> intro e1 e2 <;> rcases hr with ⟨f1, f2⟩ | ⟨f1, f2⟩ <;> first | exact c | (exfalso; subst e1; cases f1; done) | (exfalso; omega)
theorem grid_n {N : Nat} {q : Int} (hmn : 0 < mn) (hN : (N : Int) = intBits mn - p) (hp : 1 ≤ p) (a : q * 2 ^ N - mn < 2 ^ N) (b : mn - q * 2 ^ N < 2 ^ N) :
    Grid .n p sg mn q N ∧ 0 < q ∧ (p = intBits q ∨ ∃ j : Nat, 1 ≤ j ∧ q = 2 ^ j) := by
  refine ⟨⟨by omega, a, b, ?_, ?_, ?_, ?_⟩, q_bits hmn hN hp a b⟩ <;> intro e1 <;> cases e1
/-- half even: the two ways -/
theorem grid_near0 {N : Nat} (hmn : 0 < mn) (hN : (N : Int) + 1 = intBits mn - p) (hp : 1 ≤ p) :
    Grid .n p sg mn ((mn / 2 ^ N) / 2 ^ 1) (N + 1) ∧ 0 < (mn / 2 ^ N) / 2 ^ 1 ∧ (p = intBits ((mn / 2 ^ N) / 2 ^ 1) ∨ ∃ j : Nat, 1 ≤ j ∧ (mn / 2 ^ N) / 2 ^ 1 = 2 ^ j) := by
  have e : (mn / 2 ^ N) / 2 ^ 1 = mn / 2 ^ (N + 1) := by rw [Int.ediv_ediv_of_nonneg (Int.le_of_lt (p2_pos N)), ← Int.pow_add]
  rw [e]
  obtain ⟨a, b, c⟩ := near_down mn (N + 1)
  exact grid_n hmn (by omega) hp a b
theorem grid_near1 {N : Nat} (hmn : 0 < mn) (hN : (N : Int) + 1 = intBits mn - p) (hp : 1 ≤ p) (ho : (mn / 2 ^ N) % 2 = 1) :
    Grid .n p sg mn ((mn / 2 ^ N) / 2 ^ 1 + 1) (N + 1) ∧ 0 < (mn / 2 ^ N) / 2 ^ 1 + 1 ∧ (p = intBits ((mn / 2 ^ N) / 2 ^ 1 + 1) ∨ ∃ j : Nat, 1 ≤ j ∧ (mn / 2 ^ N) / 2 ^ 1 + 1 = 2 ^ j) := by
  obtain ⟨r, e, h0, h1⟩ := div_p2 mn N
  have hP := p2_pos N
  have hp2 : (2 : Int) ^ (N + 1) = 2 ^ N * 2 := Int.pow_succ ..
  refine grid_n hmn (by omega) hp ?_ ?_ <;> rw [hp2, ← Int.mul_assoc, Int.mul_right_comm]
  all_goals
    generalize mn / 2 ^ N = z at *
    have e2 : (z / 2 ^ 1 + 1) * 2 = z + 1 := by omega
    rw [e2, Int.add_mul]
    generalize z * 2 ^ N = y at *
    omega
theorem grid_downF {bc : Int} (hmn : 0 < mn) (hbc : bc = intBits mn) (hn : 0 < bc - p) (hp : 1 ≤ p) (hr : (r = .f ∧ sg = 0) ∨ (r = .c ∧ sg = 1)) :
    Grid r p sg mn (mn.fdiv (2 ^ (bc - p).toNat)) (bc - p).toNat ∧ 0 < mn.fdiv (2 ^ (bc - p).toNat) ∧ (p = intBits (mn.fdiv (2 ^ (bc - p).toNat)) ∨ ∃ j : Nat, 1 ≤ j ∧ mn.fdiv (2 ^ (bc - p).toNat) = 2 ^ j) := by
  rw [fdiv_p2]; exact grid_down hmn (by omega) hp hr
theorem grid_upF {bc : Int} (hmn : 0 < mn) (hbc : bc = intBits mn) (hn : 0 < bc - p) (hp : 1 ≤ p) (hr : (r = .f ∧ sg = 1) ∨ (r = .c ∧ sg = 0)) :
    Grid r p sg mn (-((-mn).fdiv (2 ^ (bc - p).toNat))) (bc - p).toNat ∧ 0 < -((-mn).fdiv (2 ^ (bc - p).toNat)) ∧ (p = intBits (-((-mn).fdiv (2 ^ (bc - p).toNat))) ∨ ∃ j : Nat, 1 ≤ j ∧ -((-mn).fdiv (2 ^ (bc - p).toNat)) = 2 ^ j) := by
  rw [fdiv_p2]; exact grid_up hmn (by omega) hp hr
theorem grid_near0F {bc : Int} (hmn : 0 < mn) (hbc : bc = intBits mn) (hn : 0 < bc - p) (hp : 1 ≤ p) :
    Grid .n p sg mn ((mn.fdiv (2 ^ (bc - p - 1).toNat)).fdiv (2 ^ (1 : Int).toNat)) (bc - p).toNat ∧ 0 < (mn.fdiv (2 ^ (bc - p - 1).toNat)).fdiv (2 ^ (1 : Int).toNat) ∧
      (p = intBits ((mn.fdiv (2 ^ (bc - p - 1).toNat)).fdiv (2 ^ (1 : Int).toNat)) ∨ ∃ j : Nat, 1 ≤ j ∧ (mn.fdiv (2 ^ (bc - p - 1).toNat)).fdiv (2 ^ (1 : Int).toNat) = 2 ^ j) := by
  rw [fdiv_p2, fdiv_p2, show (bc - p).toNat = (bc - p - 1).toNat + 1 by omega]; exact grid_near0 hmn (by omega) hp
theorem grid_near1F {bc : Int} (hmn : 0 < mn) (hbc : bc = intBits mn) (hn : 0 < bc - p) (hp : 1 ≤ p) (ho : ¬ Builtin.bitAnd (mn.fdiv (2 ^ (bc - p - 1).toNat)) 1 = 0) :
    Grid .n p sg mn ((mn.fdiv (2 ^ (bc - p - 1).toNat)).fdiv (2 ^ (1 : Int).toNat) + 1) (bc - p).toNat ∧ 0 < (mn.fdiv (2 ^ (bc - p - 1).toNat)).fdiv (2 ^ (1 : Int).toNat) + 1 ∧
      (p = intBits ((mn.fdiv (2 ^ (bc - p - 1).toNat)).fdiv (2 ^ (1 : Int).toNat) + 1) ∨ ∃ j : Nat, 1 ≤ j ∧ (mn.fdiv (2 ^ (bc - p - 1).toNat)).fdiv (2 ^ (1 : Int).toNat) + 1 = 2 ^ j) := by
  rw [bitAnd_m1] at ho
  rw [fdiv_p2] at ho
  rw [fdiv_p2, fdiv_p2, show (bc - p).toNat = (bc - p - 1).toNat + 1 by omega]
  refine grid_near1 hmn (by omega) hp ?_
  generalize mn / 2 ^ (bc - p - 1).toNat = z at *
  omega
theorem strip_odd {q e B : Int} (hq : 0 < q) (ho : q % 2 = 1) (hB : B = intBits q ∨ ∃ j : Nat, 1 ≤ j ∧ q = 2 ^ j) : Strip sg q e ⟨sg, q, e, B⟩ := by
  refine ⟨rfl, ho, hq, ?_, 0, by simp, by simp⟩
  rcases hB with h | ⟨j, hj, h⟩
  · exact h
  · exfalso
    obtain ⟨i, rfl⟩ : ∃ i, j = i + 1 := ⟨j - 1, by omega⟩
    rw [h, Int.pow_succ] at ho
    omega
theorem strip_even {q e B m : Int} {k : Nat} (hq : 0 < q) (hk : q = m * 2 ^ k) (ho : m % 2 = 1) (hB : B = intBits q ∨ ∃ j : Nat, 1 ≤ j ∧ q = 2 ^ j) (h1 : m ≠ 1) : Strip sg q e ⟨sg, m, e + k, B - k⟩ := by
  have hm : 0 < m := Int.pos_of_mul_pos_left (by rw [← hk]; exact hq) (p2_pos k)
  refine ⟨rfl, ho, hm, ?_, k, hk, rfl⟩
  rcases hB with h | ⟨j, hj, h⟩
  · rw [h, hk, ib_mul_p2 hm]; show ((intBits m + k : Nat) : Int) - k = intBits m; omega
  · exfalso
    rw [hk] at h
    by_cases c : j ≤ k
    · obtain ⟨i, rfl⟩ : ∃ i, k = j + i := ⟨k - j, by omega⟩
      rw [Int.pow_add, ← Int.mul_assoc, Int.mul_right_comm] at h
      have h' : (m * 2 ^ i) * 2 ^ j = 1 * 2 ^ j := by rw [h, Int.one_mul]
      have h'' := Int.eq_of_mul_eq_mul_right (Int.ne_of_gt (p2_pos j)) h'
      have := p2_pos i
      have : m ≤ m * 2 ^ i := by
        have := Int.mul_le_mul_of_nonneg_left (show (1 : Int) ≤ 2 ^ i by omega) (Int.le_of_lt hm)
        omega
      omega
    · obtain ⟨i, rfl⟩ : ∃ i, j = k + (i + 1) := ⟨j - k - 1, by omega⟩
      rw [Int.pow_add, Int.mul_comm] at h
      have h'' := Int.eq_of_mul_eq_mul_left (Int.ne_of_gt (p2_pos k)) h
      rw [Int.pow_succ] at h''
      omega
theorem strip_one {q e m : Int} {k : Nat} (hk : q = m * 2 ^ k) (h1 : m = 1) : Strip sg q e ⟨sg, m, e + k, 1⟩ := by
  subst h1
  exact ⟨rfl, rfl, Int.one_pos, rfl, k, hk, rfl⟩
theorem strip_one' {q e : Int} (h1 : q = 1) : Strip sg q e ⟨sg, q, e, 1⟩ := by
  subst h1
  exact ⟨rfl, rfl, Int.one_pos, rfl, 0, rfl, by simp⟩
end
theorem of_bits {e : Int} {m : Nat} (h : intBits e ≤ m) (hm : m ≤ 100000000) : (intBits e : Int) ≤ 100000000 := by omega
def sv (sg m : Int) : Int := if sg = 0 then m else -m
def Mpf.val (x : Mpf) : Rat := (sv x.sg x.mn : Rat) * (2 : Rat) ^ x.ex
def InF (p : Int) (y : Rat) : Prop := ∃ k j : Int, y = (k : Rat) * (2 : Rat) ^ j ∧ -2 ^ p.toNat ≤ k ∧ k ≤ 2 ^ p.toNat
structure Rnd (r : Rd) (p : Int) (Y : Rat) (x : Mpf) : Prop where
  ok : x.Ok
  bc : x.bc ≤ p
  near : ∀ m, Y ≤ m → -Y ≤ m → x.val - Y ≤ (2 : Rat) ^ (1 - p) * m ∧ Y - x.val ≤ (2 : Rat) ^ (1 - p) * m
  lo : r = .f → x.val ≤ Y
  hi : r = .c → Y ≤ x.val
  fl : ∀ y, InF p y → y ≤ Y → y ≤ x.val
  cl : ∀ y, InF p y → Y ≤ y → x.val ≤ y
structure Res (r : Rd) (p : Int) (Y : Rat) (x : Mpf) : Prop where
  ok : x.Ok
  ex : p = 0 → x.val = Y
  rn : 1 ≤ p → Rnd r p Y x
structure Sz (B : Int) (x : Mpf) : Prop where
  lo : -B ≤ x.ex
  hi : x.ex ≤ B
  bc : x.bc ≤ B
/-- a number of known size; a positive one -/
structure Nf (B : Int) (x : Mpf) : Prop where
  ok : x.Ok
  sz : Sz B x
structure Pf (B : Int) (x : Mpf) : Prop where
  ok : x.Ok
  sg : x.sg = 0
  mn : 0 < x.mn
  sz : Sz B x
theorem Pf.nf {B : Int} {x : Mpf} (h : Pf B x) : Nf B x := ⟨h.ok, h.sz⟩
theorem Sz.le {B C : Int} {x : Mpf} (h : Sz B x) (hc : B ≤ C) : Sz C x := ⟨by have := h.lo; omega, by have := h.hi; omega, by have := h.bc; omega⟩
theorem Nf.le {B C : Int} {x : Mpf} (h : Nf B x) (hc : B ≤ C) : Nf C x := ⟨h.ok, h.sz.le hc⟩
theorem Pf.le {B C : Int} {x : Mpf} (h : Pf B x) (hc : B ≤ C) : Pf C x := ⟨h.ok, h.sg, h.mn, h.sz.le hc⟩
theorem raw_ok {r : Rd} {p sg mn ex : Int} {x : Mpf} (h : Raw r p sg mn ex x) (hsg : sg = 0 ∨ sg = 1) : x.Ok := by
  rcases h with ⟨_, rfl⟩ | ⟨h0, q, n, g, s1, s2, s3, s4, s5⟩
  · exact ⟨.inl rfl, Int.le_refl _, rfl, fun _ => ⟨rfl, rfl⟩, fun h => absurd rfl h⟩
  · exact ⟨by rw [s1]; exact hsg, Int.le_of_lt s3, s4, fun h => absurd h (by omega), fun _ => s2⟩
theorem two_ne : (2 : Rat) ≠ 0 := by decide
theorem zp_add (e : Int) (k : Nat) : (2 : Rat) ^ (e + k) = (2 : Rat) ^ e * ((2 ^ k : Int) : Rat) := by
  rw [Rat.zpow_add two_ne, Rat.zpow_natCast, Rat.intCast_pow]; rfl
theorem zp_pos (e : Int) : (0 : Rat) < (2 : Rat) ^ e := Rat.zpow_pos (by decide)
theorem ic_le {a b : Int} (h : a ≤ b) : (a : Rat) ≤ b := Rat.intCast_le_intCast.mpr h
theorem ic_lt {a b : Int} (h : a < b) : (a : Rat) < b := Rat.intCast_lt_intCast.mpr h
theorem zp_mono {a b : Int} (h : a ≤ b) : (2 : Rat) ^ a ≤ (2 : Rat) ^ b := by
  have e : b = a + (b - a).toNat := by omega
  rw [e, zp_add]
  have h1 : ((1 : Int) : Rat) ≤ ((2 ^ (b - a).toNat : Int) : Rat) := ic_le (by have := p2_pos (b - a).toNat; omega)
  have h2 := Rat.mul_le_mul_of_nonneg_left h1 (Rat.le_of_lt (zp_pos a))
  have h3 : (2 : Rat) ^ a * ((1 : Int) : Rat) = (2 : Rat) ^ a := Rat.mul_one _
  rw [h3] at h2
  exact h2
theorem zp_le {a b : Int} {e : Int} (h : a ≤ b) : (a : Rat) * (2 : Rat) ^ e ≤ (b : Rat) * (2 : Rat) ^ e := Rat.mul_le_mul_of_nonneg_right (ic_le h) (Rat.le_of_lt (zp_pos e))
theorem zp_lt {a b : Int} {e : Int} (h : a < b) : (a : Rat) * (2 : Rat) ^ e < (b : Rat) * (2 : Rat) ^ e := Rat.mul_lt_mul_of_pos_right (ic_lt h) (zp_pos e)
/-- a whole number of 2 ^ (e + n) as one of 2 ^ e -/
theorem zp_whole (q e : Int) (n : Nat) : (q : Rat) * (2 : Rat) ^ (e + n) = ((q * 2 ^ n : Int) : Rat) * (2 : Rat) ^ e := by
  rw [zp_add, Rat.intCast_mul]
  grind
/-- between neighbours of the grid lies no number of p bits -/
theorem noF {p c s : Int} {y : Rat} (hy : InF p y) (hp : 1 ≤ p) (hc : (2 : Int) ^ (p - 1).toNat ≤ c) : y ≤ (c : Rat) * (2 : Rat) ^ s ∨ ((c + 1 : Int) : Rat) * (2 : Rat) ^ s ≤ y := by
  obtain ⟨k, j, rfl, _, hk⟩ := hy
  by_cases hj : s ≤ j
  · have e : j = s + (j - s).toNat := by omega
    rw [e, zp_whole]
    rcases Int.lt_or_le (k * 2 ^ (j - s).toNat) (c + 1) with h | h
    · exact .inl (zp_le (by omega))
    · exact .inr (zp_le h)
  · refine .inl ?_
    have h1 : (k : Rat) * (2 : Rat) ^ j ≤ ((2 ^ p.toNat : Int) : Rat) * (2 : Rat) ^ j := zp_le hk
    have h2 : ((2 ^ p.toNat : Int) : Rat) * (2 : Rat) ^ j ≤ ((2 ^ p.toNat : Int) : Rat) * (2 : Rat) ^ (s - 1) :=
      Rat.mul_le_mul_of_nonneg_left (zp_mono (by omega)) (ic_le (Int.le_of_lt (p2_pos _)))
    have e1 : p.toNat = (p - 1).toNat + 1 := by omega
    have e2 : (2 : Rat) ^ s = (2 : Rat) ^ (s - 1) * ((2 ^ 1 : Int) : Rat) := by rw [← zp_add]; congr 1; omega
    have h3 : ((2 ^ (p - 1).toNat : Int) : Rat) * (2 : Rat) ^ s ≤ (c : Rat) * (2 : Rat) ^ s := zp_le hc
    have e3 : ((2 ^ p.toNat : Int) : Rat) * (2 : Rat) ^ (s - 1) = ((2 ^ (p - 1).toNat : Int) : Rat) * (2 : Rat) ^ s := by
      rw [e2, e1, Int.pow_succ, Rat.intCast_mul]
      grind
    grind
theorem inF_neg {p : Int} {y : Rat} (h : InF p y) : InF p (-y) := by
  obtain ⟨k, j, rfl, h1, h2⟩ := h
  exact ⟨-k, j, by rw [Rat.intCast_neg]; grind, by omega, by omega⟩
theorem grid_cell {r : Rd} {p sg mm q : Int} {n : Nat} (g : Grid r p sg mm q n) (h0 : 0 < mm) (hp : 1 ≤ p) :
    (n = 0 ∧ q = mm ∧ (intBits mm : Int) ≤ p) ∨ (0 < n ∧ (n : Int) = intBits mm - p ∧ ∃ c, c * 2 ^ n ≤ mm ∧ mm < (c + 1) * 2 ^ n ∧ (2 : Int) ^ (p - 1).toNat ≤ c ∧ (q = c ∨ (q = c + 1 ∧ c * 2 ^ n < mm))) := by
  have nn := g.nn
  have lo := g.lo
  have hi := g.hi
  by_cases hn : n = 0
  · subst hn
    simp only [Int.pow_zero, Int.mul_one] at lo hi
    exact .inl ⟨rfl, by omega, by omega⟩
  · refine .inr ⟨by omega, by omega, mm / 2 ^ n, ?_⟩
    obtain ⟨rr, e, r0, r1⟩ := div_p2 mm n
    obtain ⟨k, ek, k1, k2⟩ := ib_bounds h0
    have hk : k = (p - 1).toNat + n := by omega
    generalize mm / 2 ^ n = c at *
    have a1 : q * 2 ^ n < (c + 1 + 1) * 2 ^ n := by simp only [Int.add_mul]; omega
    have a2 : c * 2 ^ n < (q + 1) * 2 ^ n := by simp only [Int.add_mul]; omega
    have b1 := le_of_p2 a1
    have b2 := le_of_p2 a2
    have a3 : 2 ^ (p - 1).toNat * 2 ^ n < (c + 1) * 2 ^ n := by rw [← Int.pow_add, ← hk, Int.add_mul]; omega
    refine ⟨by omega, by rw [Int.add_mul]; omega, le_of_p2 a3, ?_⟩
    rcases Int.lt_or_eq_of_le b2 with b | b
    · refine .inr ⟨by omega, ?_⟩
      have : q = c + 1 := by omega
      subst this
      rw [Int.add_mul] at lo
      omega
    · exact .inl (by omega)
/-- what a magnitude's rounding gives -/
structure Mag (r : Rd) (p sg : Int) (Y M : Rat) : Prop where
  near : ∀ m, Y ≤ m → M - Y ≤ (2 : Rat) ^ (1 - p) * m ∧ Y - M ≤ (2 : Rat) ^ (1 - p) * m
  f0 : r = .f → sg = 0 → M ≤ Y
  f1 : r = .f → sg = 1 → Y ≤ M
  c0 : r = .c → sg = 0 → Y ≤ M
  c1 : r = .c → sg = 1 → M ≤ Y
  fl : ∀ y, InF p y → y ≤ Y → y ≤ M
  cl : ∀ y, InF p y → Y ≤ y → M ≤ y
def sr (sg : Int) (Y : Rat) : Rat := if sg = 0 then Y else -Y
theorem mag_rnd {r : Rd} {p sg : Int} {Y M : Rat} {x : Mpf} (ok : x.Ok) (hb : x.bc ≤ p) (hsg : sg = 0 ∨ sg = 1) (h : Mag r p sg Y M) (hv : x.val = sr sg M) : Rnd r p (sr sg Y) x := by
  obtain ⟨near, f0, f1, c0, c1, fl, cl⟩ := h
  rcases hsg with rfl | rfl
  · have e0 : ∀ Z, sr 0 Z = Z := fun Z => rfl
    rw [e0] at hv ⊢
    exact ⟨ok, hb, fun m h1 _ => hv ▸ near m h1, fun e => hv ▸ f0 e rfl, fun e => hv ▸ c0 e rfl, hv ▸ fl, hv ▸ cl⟩
  · have e0 : ∀ Z, sr 1 Z = -Z := fun Z => rfl
    rw [e0] at hv ⊢
    refine ⟨ok, hb, fun m h1 h2 => ?_, fun e => ?_, fun e => ?_, fun y hy h1 => ?_, fun y hy h1 => ?_⟩
    · have := near m (by grind)
      rw [hv]; grind
    · have := f1 e rfl; rw [hv]; grind
    · have := c1 e rfl; rw [hv]; grind
    · have := cl (-y) (inF_neg hy) (by grind); rw [hv]; grind
    · have := fl (-y) (inF_neg hy) (by grind); rw [hv]; grind
theorem mag_eq {r : Rd} {p sg : Int} {M : Rat} (h : 0 ≤ M) : Mag r p sg M M := by
  refine ⟨fun m h1 => ?_, fun _ _ => Rat.le_refl, fun _ _ => Rat.le_refl, fun _ _ => Rat.le_refl, fun _ _ => Rat.le_refl, fun _ _ h => h, fun _ _ h => h⟩
  have := Rat.mul_nonneg (Rat.le_of_lt (zp_pos (1 - p))) (Rat.le_trans h h1)
  have e : M - M = 0 := Rat.sub_self
  rw [e]
  exact ⟨this, this⟩
theorem near_aux {M L U Y E m : Rat} (hE : 0 < E) (hcU : U ≤ E * L) (hl : L < Y) (hu : Y < L + U) (h : Y ≤ m) (hM : M = L ∨ M = L + U) : M - Y ≤ E * m ∧ Y - M ≤ E * m := by
  have := Rat.mul_le_mul_of_nonneg_left (Rat.le_trans (Rat.le_of_lt hl) h) (Rat.le_of_lt hE)
  rcases hM with e | e <;> rw [e] <;> constructor <;> grind
theorem mag_cell {r : Rd} {p sg mm q e c : Int} {n : Nat} {Y : Rat} (g : Grid r p sg mm q n) (hp : 1 ≤ p) (hc : (2 : Int) ^ (p - 1).toNat ≤ c) (hq : q = c ∨ (q = c + 1 ∧ c * 2 ^ n < mm))
    (h1 : c * 2 ^ n < mm) (h2 : mm < (c + 1) * 2 ^ n) (hl : (c : Rat) * (2 : Rat) ^ (e + n) < Y) (hu : Y < ((c + 1 : Int) : Rat) * (2 : Rat) ^ (e + n)) : Mag r p sg Y ((q : Rat) * (2 : Rat) ^ (e + n)) := by
  have hU := zp_pos (e + n)
  have hE := zp_pos (1 - p)
  have hcE : (1 : Rat) ≤ (2 : Rat) ^ (1 - p) * c := by
    have := Rat.mul_le_mul_of_nonneg_left (ic_le hc) (Rat.le_of_lt hE)
    rw [← zp_add, show 1 - p + ((p - 1).toNat : Int) = 0 by omega] at this
    exact this
  have hw : ((c + 1 : Int) : Rat) * (2 : Rat) ^ (e + n) = (c : Rat) * (2 : Rat) ^ (e + n) + (2 : Rat) ^ (e + n) := by
    rw [Rat.intCast_add]; have : ((1 : Int) : Rat) = 1 := rfl; grind
  have hcU : (2 : Rat) ^ (e + n) ≤ (2 : Rat) ^ (1 - p) * ((c : Rat) * (2 : Rat) ^ (e + n)) := by
    have := Rat.mul_le_mul_of_nonneg_right hcE (Rat.le_of_lt hU)
    grind
  have qq : (q = c ∧ ¬ mm ≤ q * 2 ^ n) ∨ (q = c + 1 ∧ ¬ q * 2 ^ n ≤ mm) := by
    rcases hq with rfl | ⟨rfl, _⟩
    · exact .inl ⟨rfl, by omega⟩
    · exact .inr ⟨rfl, by omega⟩
  have hM : (q = c ∧ (q : Rat) * (2 : Rat) ^ (e + n) = (c : Rat) * (2 : Rat) ^ (e + n)) ∨ (q = c + 1 ∧ (q : Rat) * (2 : Rat) ^ (e + n) = (c : Rat) * (2 : Rat) ^ (e + n) + (2 : Rat) ^ (e + n)) := by
    rcases qq with ⟨rfl, _⟩ | ⟨rfl, _⟩
    · exact .inl ⟨rfl, rfl⟩
    · exact .inr ⟨rfl, hw⟩
  have fl : ∀ y, InF p y → y ≤ (c : Rat) * (2 : Rat) ^ (e + n) ∨ (c : Rat) * (2 : Rat) ^ (e + n) + (2 : Rat) ^ (e + n) ≤ y := fun y hy => by
    have := noF (s := e + n) hy hp hc
    rw [hw] at this; exact this
  rw [hw] at hu
  have g0 := g.f0
  have g1 := g.f1
  have g2 := g.c0
  have g3 := g.c1
  have near := fun m h => near_aux (m := m) hE hcU hl hu h (hM.elim (fun x => .inl x.2) fun x => .inr x.2)
  clear hw hc hcE g hcU hE
  generalize (q : Rat) * (2 : Rat) ^ (e + n) = M at *
  generalize (c : Rat) * (2 : Rat) ^ (e + n) = L at *
  generalize (2 : Rat) ^ (e + n) = U at *
  refine ⟨near, fun a b => ?_, fun a b => ?_, fun a b => ?_, fun a b => ?_, fun y hy h => ?_, fun y hy h => ?_⟩
  · have hg := g0 a b
    rcases hM with ⟨e', e⟩ | ⟨e', e⟩ <;> rcases qq with ⟨e'', hh⟩ | ⟨e'', hh⟩
    all_goals first
      | exact absurd hg hh
      | (exfalso; omega)
      | (rw [e]; exact Rat.le_of_lt hl)
      | (rw [e]; exact Rat.le_of_lt hu)
  · have hg := g1 a b
    rcases hM with ⟨e', e⟩ | ⟨e', e⟩ <;> rcases qq with ⟨e'', hh⟩ | ⟨e'', hh⟩
    all_goals first
      | exact absurd hg hh
      | (exfalso; omega)
      | (rw [e]; exact Rat.le_of_lt hl)
      | (rw [e]; exact Rat.le_of_lt hu)
  · have hg := g2 a b
    rcases hM with ⟨e', e⟩ | ⟨e', e⟩ <;> rcases qq with ⟨e'', hh⟩ | ⟨e'', hh⟩
    all_goals first
      | exact absurd hg hh
      | (exfalso; omega)
      | (rw [e]; exact Rat.le_of_lt hl)
      | (rw [e]; exact Rat.le_of_lt hu)
  · have hg := g3 a b
    rcases hM with ⟨e', e⟩ | ⟨e', e⟩ <;> rcases qq with ⟨e'', hh⟩ | ⟨e'', hh⟩
    all_goals first
      | exact absurd hg hh
      | (exfalso; omega)
      | (rw [e]; exact Rat.le_of_lt hl)
      | (rw [e]; exact Rat.le_of_lt hu)
  · have := fl y hy
    clear g0 g1 g2 g3 fl qq h1 h2 hq near
    rcases hM with ⟨_, e⟩ | ⟨_, e⟩ <;> rw [e] <;> grind
  · have := fl y hy
    clear g0 g1 g2 g3 fl qq h1 h2 hq near
    rcases hM with ⟨_, e⟩ | ⟨_, e⟩ <;> rw [e] <;> grind
/-- a magnitude rounded as another of the same cell, or as itself -/
theorem mag_grid {r : Rd} {p sg mm q e : Int} {n : Nat} {Y : Rat} (g : Grid r p sg mm q n) (h0 : 0 < mm) (hp : 1 ≤ p)
    (hY : Y = (mm : Rat) * (2 : Rat) ^ e ∨ (0 < n ∧ ∀ c, c * 2 ^ n ≤ mm → mm < (c + 1) * 2 ^ n → c * 2 ^ n < mm ∧ (c : Rat) * (2 : Rat) ^ (e + n) < Y ∧ Y < ((c + 1 : Int) : Rat) * (2 : Rat) ^ (e + n))) : Mag r p sg Y ((q : Rat) * (2 : Rat) ^ (e + n)) := by
  rcases grid_cell g h0 hp with ⟨rfl, rfl, _⟩ | ⟨hn, _, c, c1, c2, c3, c4⟩
  · rcases hY with hY | ⟨h, _⟩
    · rw [hY, show e + ((0 : Nat) : Int) = e by simp]
      exact mag_eq (Rat.mul_nonneg (ic_le (Int.le_of_lt h0)) (Rat.le_of_lt (zp_pos e)))
    · exact absurd h (by decide)
  · rcases hY with hY | ⟨_, hY⟩
    · by_cases hc : c * 2 ^ n < mm
      · refine mag_cell g hp c3 c4 hc c2 ?_ ?_
        · rw [hY, zp_whole]; exact zp_lt hc
        · rw [hY, zp_whole]; exact zp_lt c2
      · have hcm : mm = c * 2 ^ n := by omega
        have hqc : q = c := by rcases c4 with h | ⟨_, h⟩ <;> omega
        rw [hY, hqc, hcm, zp_whole]
        exact mag_eq (Rat.mul_nonneg (ic_le (show (0 : Int) ≤ c * 2 ^ n by omega)) (Rat.le_of_lt (zp_pos e)))
    · obtain ⟨a1, a2, a3⟩ := hY c c1 c2
      exact mag_cell g hp c3 c4 a1 c2 a2 a3
theorem strip_val {sg q e : Int} {x : Mpf} (h : Strip sg q e x) : x.val = sr sg ((q : Rat) * (2 : Rat) ^ e) := by
  obtain ⟨s1, s2, s3, s4, k, rfl, s6⟩ := h
  unfold Mpf.val sr sv
  rw [s1, s6]
  split
  · rw [zp_whole]
  · rw [zp_whole, Int.neg_mul, Rat.intCast_neg]; grind
theorem strip_bits {sg q e : Int} {x : Mpf} (h : Strip sg q e x) : ∃ k : Nat, x.bc + k = intBits q ∧ x.ex = e + k ∧ 1 ≤ x.bc ∧ q = x.mn * 2 ^ k := by
  obtain ⟨s1, s2, s3, s4, k, rfl, s6⟩ := h
  refine ⟨k, ?_, s6, ?_, rfl⟩
  · rw [s4, ib_mul_p2 s3]; push_cast; omega
  · have := ib_pos s3; omega
theorem raw_bc {r : Rd} {p sg mn ex : Int} {x : Mpf} (h : Raw r p sg mn ex x) (hp : 1 ≤ p) : x.bc ≤ p := by
  rcases h with ⟨_, rfl⟩ | ⟨h0, q, n, g, s⟩
  · show (0 : Int) ≤ p; omega
  · obtain ⟨k, k1, k2, k3, k4⟩ := strip_bits s
    rcases grid_cell g h0 hp with ⟨rfl, rfl, hb⟩ | ⟨hn, hn', _⟩
    · omega
    · rcases (q_bits h0 hn' hp g.lo g.hi).2 with hq | ⟨j, _, hq⟩
      · omega
      · obtain ⟨s1, s2, s3, s4, _⟩ := s
        have : x.mn = 1 := by
          rw [k4] at hq
          by_cases c : k ≤ j
          · have e : j = (j - k) + k := by omega
            rw [e, Int.pow_add] at hq
            have := Int.eq_of_mul_eq_mul_right (Int.ne_of_gt (p2_pos k)) hq
            rcases Nat.eq_zero_or_pos (j - k) with z | z
            · rw [z] at this; exact this
            · obtain ⟨i, hi⟩ : ∃ i, j - k = i + 1 := ⟨j - k - 1, by omega⟩
              rw [hi, Int.pow_succ] at this
              omega
          · have e : k = (k - j) + j := by omega
            rw [e, Int.pow_add, ← Int.mul_assoc] at hq
            have h1 : x.mn * 2 ^ (k - j) * 2 ^ j = 1 * 2 ^ j := by rw [hq, Int.one_mul]
            have := Int.eq_of_mul_eq_mul_right (Int.ne_of_gt (p2_pos j)) h1
            have hp2 := p2_pos (k - j)
            have : x.mn ≤ x.mn * 2 ^ (k - j) := by
              have := Int.mul_le_mul_of_nonneg_left (show (1 : Int) ≤ 2 ^ (k - j) by omega) (Int.le_of_lt s3)
              omega
            omega
        rw [s4, this]
        exact hp
/-- the result rounds every number of its cell -/
theorem raw_mag {r : Rd} {p sg mm e : Int} {x : Mpf} {Y : Rat} (h : Raw r p sg mm e x) (hsg : sg = 0 ∨ sg = 1) (h0 : 0 < mm) (hp : 1 ≤ p)
    (hY : Y = (mm : Rat) * (2 : Rat) ^ e ∨ ∃ n : Nat, 0 < n ∧ (n : Int) = intBits mm - p ∧ ∀ c, c * 2 ^ n ≤ mm → mm < (c + 1) * 2 ^ n → c * 2 ^ n < mm ∧ (c : Rat) * (2 : Rat) ^ (e + n) < Y ∧ Y < ((c + 1 : Int) : Rat) * (2 : Rat) ^ (e + n)) : Rnd r p (sr sg Y) x := by
  have ok := raw_ok h hsg
  have hb := raw_bc h hp
  rcases h with ⟨h, rfl⟩ | ⟨_, q, n, g, s⟩
  · omega
  · refine mag_rnd ok hb hsg (mag_grid g h0 hp ?_) (strip_val s)
    rcases hY with hY | ⟨n', a, b, hY⟩
    · exact .inl hY
    · have : n' = n := by have := g.nn; omega
      subst this
      exact .inr ⟨a, hY⟩
theorem val_of0 {x : Mpf} (h : x.mn = 0) : x.val = 0 := by
  unfold Mpf.val sv
  rw [h]; simp
theorem rnd_zero {r : Rd} {p : Int} (hp : 0 ≤ p) : Rnd r p 0 ⟨0, 0, 0, 0⟩ := by
  have e : Mpf.val ⟨0, 0, 0, 0⟩ = 0 := val_of0 rfl
  refine ⟨⟨.inl rfl, Int.le_refl _, rfl, fun _ => ⟨rfl, rfl⟩, fun h => absurd rfl h⟩, hp, fun m h1 _ => ?_, fun _ => ?_, fun _ => ?_, fun y _ h => ?_, fun y _ h => ?_⟩
  · rw [e]
    have := Rat.mul_nonneg (Rat.le_of_lt (zp_pos (1 - p))) h1
    grind
  all_goals rw [e]; first | exact Rat.le_refl | exact h
theorem sr_zero (sg : Int) : sr sg 0 = 0 := by unfold sr; split <;> simp
theorem sv_sr (sg m : Int) (e : Int) : (sv sg m : Rat) * (2 : Rat) ^ e = sr sg ((m : Rat) * (2 : Rat) ^ e) := by
  unfold sv sr
  split
  · rfl
  · rw [Rat.intCast_neg]; grind
theorem raw_rnd {r : Rd} {p sg mm e : Int} {x : Mpf} (h : Raw r p sg mm e x) (hsg : sg = 0 ∨ sg = 1) (hm : 0 ≤ mm) (hp : 1 ≤ p) : Rnd r p ((sv sg mm : Rat) * (2 : Rat) ^ e) x := by
  rw [sv_sr]
  by_cases h0 : mm = 0
  · rcases h with ⟨_, rfl⟩ | ⟨h, _⟩
    · rw [h0]
      have : ((0 : Int) : Rat) * (2 : Rat) ^ e = 0 := by simp
      rw [this, sr_zero]
      exact rnd_zero (by omega)
    · omega
  · exact raw_mag h hsg (by omega) hp (.inl rfl)
theorem raw_sz {r : Rd} {p sg mn ex : Int} {x : Mpf} (h : Raw r p sg mn ex x) (hp : 0 < mn → 1 ≤ p) : x.bc ≤ intBits mn ∧ ((ex ≤ x.ex ∧ x.ex ≤ ex + intBits mn + 1) ∨ x.ex = 0) := by
  rcases h with ⟨_, rfl⟩ | ⟨h0, q, n, g, s⟩
  · exact ⟨Int.natCast_nonneg _, .inr rfl⟩
  · obtain ⟨k, k1, k2, k3, k4⟩ := strip_bits s
    have hp := hp h0
    rcases grid_cell g h0 hp with ⟨rfl, rfl, hb⟩ | ⟨hn, hn', _⟩
    · exact ⟨by omega, .inl ⟨by omega, by omega⟩⟩
    · have hq := (q_bits h0 hn' hp g.lo g.hi).1
      obtain ⟨i, i1, i2, i3⟩ := ib_bounds hq
      obtain ⟨j, j1, j2, j3⟩ := ib_bounds h0
      have lo := g.lo
      have h3 : (2 : Int) ^ (i + n) < 2 ^ (j + 2) := by
        have h4 : (2 : Int) ^ i * 2 ^ n ≤ q * 2 ^ n := Int.mul_le_mul_of_nonneg_right i2 (Int.le_of_lt (p2_pos n))
        have h5 := p2_le (show n ≤ j + 1 by omega)
        rw [Int.pow_add, Int.pow_succ 2 (j + 1)]
        omega
      have := p2_lt_iff.mp h3
      exact ⟨by omega, .inl ⟨by omega, by omega⟩⟩
theorem raw_Sz {r : Rd} {p sg mn ex C : Int} {x : Mpf} (h : Raw r p sg mn ex x) (hp : 0 < mn → 1 ≤ p) (h1 : -C ≤ ex) (h2 : ex + intBits mn + 1 ≤ C) (h3 : intBits mn ≤ C) (h0 : 0 ≤ C) : Sz C x := by
  obtain ⟨a, b⟩ := raw_sz h hp
  exact ⟨by omega, by omega, by omega⟩
theorem raw_res {r : Rd} {p p' sg mm e : Int} {x : Mpf} {Y : Rat} (h : Raw r p' sg mm e x) (hsg : sg = 0 ∨ sg = 1) (hmm : 0 ≤ mm) (h0 : 0 ≤ p) (hp : p = 0 → p' = intBits mm) (hp' : 1 ≤ p → p' = p) (hY : Y = (sv sg mm : Rat) * (2 : Rat) ^ e) : Res r p Y x := by
  refine ⟨raw_ok h hsg, fun e0 => ?_, fun h1 => ?_⟩
  · have e1 := hp e0
    rcases h with ⟨rfl, rfl⟩ | ⟨hm, q, n, g, s⟩
    · rw [hY, val_of0 rfl]; unfold sv; simp
    · have hb := ib_pos hm
      rcases grid_cell g hm (by omega) with ⟨rfl, rfl, _⟩ | ⟨hn, hn', _⟩
      · rw [hY, strip_val s, sv_sr, show e + ((0 : Nat) : Int) = e by simp]
      · omega
  · have e1 := hp' h1
    subst e1
    rw [hY]
    exact raw_rnd h hsg hmm h1
/-- the last place is but a sign: numbers beside a whole number of the coarser grid -/
theorem pert_mag {r : Rd} {p bg bm e es : Int} {x : Mpf} {Y z : Rat} (h : Raw r p bg (bm * 2 ^ (p + 4).toNat + es) e x) (hbg : bg = 0 ∨ bg = 1) (hbm : 0 < bm) (hp : 1 ≤ p) (hbp : (intBits bm : Int) ≤ p)
    (hes : es = 1 ∨ es = -1) (hz : 0 < z) (hz' : z < ((2 ^ intBits bm : Int) : Rat) * (2 : Rat) ^ e) (hY : Y = ((bm * 2 ^ (p + 4).toNat : Int) : Rat) * (2 : Rat) ^ e + (es : Rat) * z) : Rnd r p (sr bg Y) x := by
  obtain ⟨k, ek, k1, k2⟩ := ib_bounds hbm
  have hN : ∃ N : Nat, (p + 4).toNat = N ∧ (N : Int) = p + 4 := ⟨_, rfl, by omega⟩
  obtain ⟨N, hN, hN'⟩ := hN
  rw [hN] at h hY
  have a1 : (2 : Int) ^ k * 2 ^ N ≤ bm * 2 ^ N := Int.mul_le_mul_of_nonneg_right k1 (Int.le_of_lt (p2_pos N))
  have a2 : bm * 2 ^ N ≤ (2 ^ (k + 1) - 1) * 2 ^ N := Int.mul_le_mul_of_nonneg_right (by omega) (Int.le_of_lt (p2_pos N))
  have a3 : (2 : Int) ^ 5 ≤ 2 ^ N := p2_le (by omega)
  have a4 : (2 : Int) ^ 5 = 32 := rfl
  have a5 : (2 : Int) ^ (k + N) = 2 ^ (k + N - 1) * 2 := by rw [← Int.pow_succ]; congr 1; omega
  have a6 : (2 : Int) ^ 4 ≤ 2 ^ (k + N - 1) := p2_le (by omega)
  have a7 : (2 : Int) ^ 4 = 16 := rfl
  rw [← Int.pow_add] at a1
  rw [Int.sub_mul, ← Int.pow_add, Int.one_mul, show k + 1 + N = k + N + 1 by omega] at a2
  have h0 : 0 < bm * 2 ^ N + es := by omega
  have ib : intBits (bm * 2 ^ N + es) = k + N + 1 ∨ intBits (bm * 2 ^ N + es) = k + N := by
    by_cases c : 2 ^ (k + N) ≤ bm * 2 ^ N + es
    · exact .inl (ib_eq c (by omega))
    · refine .inr ?_
      have := ib_eq (x := bm * 2 ^ N + es) (k := k + N - 1) (by omega) (by rw [show k + N - 1 + 1 = k + N by omega]; omega)
      omega
  have hn : ∃ n : Nat, (n : Int) = intBits (bm * 2 ^ N + es) - p ∧ k + 4 ≤ n ∧ n ≤ N := ⟨(intBits (bm * 2 ^ N + es) - p).toNat, by omega, by omega, by omega⟩
  obtain ⟨n, n1, n2, n3⟩ := hn
  refine raw_mag h hbg h0 hp (.inr ⟨n, by omega, n1, fun c c1 c2 => ?_⟩)
  have e1 : bm * 2 ^ N = (bm * 2 ^ (N - n)) * 2 ^ n := by rw [Int.mul_assoc, ← Int.pow_add]; congr 2; omega
  have e2 : (2 : Int) ^ (k + 1) ≤ 2 ^ n := p2_le (by omega)
  have e3 := p2_pos k
  have e4 : (2 : Int) ^ (k + 1) = 2 ^ k * 2 := Int.pow_succ ..
  have hU := zp_pos e
  have w1 : ((2 ^ intBits bm : Int) : Rat) * (2 : Rat) ^ e ≤ ((2 ^ n : Int) : Rat) * (2 : Rat) ^ e := zp_le (by rw [ek]; exact e2)
  rw [zp_whole, zp_whole]
  generalize bm * 2 ^ (N - n) = Q at *
  rw [e1] at c1 c2 hY
  have hz2 := Std.lt_of_lt_of_le hz' w1
  clear hz' w1 a1 a2 a3 a4 a5 a6 a7 ib h n1 n2 n3 ek k1 k2 h0
  rcases hes with rfl | rfl
  · have hc : c = Q := by
      have g1 : c * 2 ^ n < (Q + 1) * 2 ^ n := by rw [Int.add_mul]; omega
      have g2 : Q * 2 ^ n < (c + 1) * 2 ^ n := by omega
      have := le_of_p2 g1
      have := le_of_p2 g2
      omega
    subst hc
    refine ⟨by omega, ?_, ?_⟩
    · rw [hY]; have : ((1 : Int) : Rat) = 1 := rfl; grind
    · rw [hY, Int.add_mul, Rat.intCast_add]; have : ((1 : Int) : Rat) = 1 := rfl; rw [Int.one_mul]; grind
  · have hc : c + 1 = Q := by
      have g1 : c * 2 ^ n < (Q - 1 + 1) * 2 ^ n := by rw [Int.sub_add_cancel]; omega
      have g2 : Q * 2 ^ n < (c + 1 + 1) * 2 ^ n := by rw [Int.add_mul]; omega
      have := le_of_p2 g1
      have := le_of_p2 g2
      omega
    subst hc
    refine ⟨by rw [e1, Int.add_mul]; omega, ?_, ?_⟩
    · rw [hY, Int.add_mul, Rat.intCast_add]; have : ((-1 : Int) : Rat) = -1 := rfl; rw [Int.one_mul]; grind
    · rw [hY]; have : ((-1 : Int) : Rat) = -1 := rfl; grind
theorem xor00 : Builtin.bitXor 0 0 = 0 := by decide +kernel
theorem xor01 : Builtin.bitXor 0 1 = 1 := by decide +kernel
theorem xor10 : Builtin.bitXor 1 0 = 1 := by decide +kernel
theorem xor11 : Builtin.bitXor 1 1 = 0 := by decide +kernel
theorem val_sr (sg m e b : Int) : Mpf.val ⟨sg, m, e, b⟩ = sr sg ((m : Rat) * (2 : Rat) ^ e) := sv_sr sg m e
theorem sub_sr {tg tm te tb sub : Int} (ht : tg = 0 ∨ tg = 1) (hs : sub = 0 ∨ sub = 1) : (if sub = 0 then 1 else -1) * Mpf.val ⟨tg, tm, te, tb⟩ = sr (Builtin.bitXor tg sub) ((tm : Rat) * (2 : Rat) ^ te) := by
  rw [val_sr]
  rcases ht with rfl | rfl <;> rcases hs with rfl | rfl <;> simp only [xor00, xor01, xor10, xor11, sr, if_true, if_false, Int.one_ne_zero] <;> grind
/-- one number far below the other's last place -/
theorem far_bd {sm se tm te p : Int} (hs0 : 0 < sm) (ht1 : 0 < tm) (hd : p + 4 < intBits sm + se - intBits tm - te) : 0 < (tm : Rat) * (2 : Rat) ^ te ∧ (tm : Rat) * (2 : Rat) ^ te < ((2 ^ intBits sm : Int) : Rat) * (2 : Rat) ^ (se - (p + 4)) := by
  refine ⟨Rat.mul_pos (ic_lt ht1) (zp_pos te), ?_⟩
  obtain ⟨j, ej, j1, j2⟩ := ib_bounds ht1
  have h1 : (tm : Rat) * (2 : Rat) ^ te < ((2 ^ (j + 1) : Int) : Rat) * (2 : Rat) ^ te := zp_lt j2
  have h2 : ((2 ^ (j + 1) : Int) : Rat) * (2 : Rat) ^ te = (2 : Rat) ^ (te + ((j + 1 : Nat) : Int)) := by rw [zp_add]; grind
  have h3 : ((2 ^ intBits sm : Int) : Rat) * (2 : Rat) ^ (se - (p + 4)) = (2 : Rat) ^ (se - (p + 4) + (intBits sm : Nat)) := by rw [zp_add]; grind
  rw [h3]
  rw [h2] at h1
  exact Std.lt_of_lt_of_le h1 (zp_mono (by omega))
theorem far_whole {sm se p : Int} (hp : 1 ≤ p) : (sm : Rat) * (2 : Rat) ^ se = ((sm * 2 ^ (p + 4).toNat : Int) : Rat) * (2 : Rat) ^ (se - (p + 4)) := by
  rw [← zp_whole]
  congr 2
  omega
theorem pert_hi {r : Rd} {p sm se sb tg tm te tb sub es : Int} {x : Mpf} (h : Raw r p 0 (sm * 2 ^ (p + 4).toNat + es) (se - (p + 4)) x) (hs0 : 0 < sm) (ht1 : 0 < tm) (hsb : sb = intBits sm) (htb : tb = intBits tm) (hp : 1 ≤ p) (hbp : sb ≤ p)
    (ht : tg = 0 ∨ tg = 1) (hs : sub = 0 ∨ sub = 1) (hd : p + 4 < sb + se - tb - te) (hes : (Builtin.bitXor tg sub = 0 ∧ es = 1) ∨ (¬ Builtin.bitXor tg sub = 0 ∧ es = -1)) :
    Res r p (Mpf.val ⟨0, sm, se, sb⟩ + (if sub = 0 then 1 else -1) * Mpf.val ⟨tg, tm, te, tb⟩) x := by
  rw [sub_sr ht hs, val_sr]
  subst hsb htb
  obtain ⟨z0, z1⟩ := far_bd hs0 ht1 hd
  have fw := far_whole (sm := sm) (se := se) hp
  refine ⟨raw_ok h (.inl rfl), fun e => by omega, fun _ => ?_⟩
  have e0 : ∀ Z, sr 0 Z = Z := fun Z => rfl
  have key := pert_mag h (.inl rfl) hs0 hp hbp (by rcases hes with ⟨_, e⟩ | ⟨_, e⟩ <;> omega) z0 z1 rfl
  rw [e0] at key ⊢
  rw [fw]
  have e3 : ∀ A B : Rat, A = B → Rnd r p A x → Rnd r p B x := fun A B e h => e ▸ h
  refine e3 _ _ ?_ key
  congr 1
  rcases hes with ⟨e, rfl⟩ | ⟨e, rfl⟩ <;> unfold sr
  · rw [if_pos e]; have : ((1 : Int) : Rat) = 1 := rfl; grind
  · rw [if_neg e]; have : ((-1 : Int) : Rat) = -1 := rfl; grind
theorem pert_lo {r : Rd} {p sm se sb tg tm te tb sub es : Int} {x : Mpf} (h : Raw r p (Builtin.bitXor tg sub) (tm * 2 ^ (p + 4).toNat + es) (te - (p + 4)) x) (hs0 : 0 < sm) (ht1 : 0 < tm) (hsb : sb = intBits sm) (htb : tb = intBits tm) (hp : 1 ≤ p) (hbp : tb ≤ p)
    (ht : tg = 0 ∨ tg = 1) (hs : sub = 0 ∨ sub = 1) (hd : p + 4 < tb + te - sb - se) (hes : (Builtin.bitXor tg sub = 0 ∧ es = 1) ∨ (¬ Builtin.bitXor tg sub = 0 ∧ es = -1)) :
    Res r p (Mpf.val ⟨0, sm, se, sb⟩ + (if sub = 0 then 1 else -1) * Mpf.val ⟨tg, tm, te, tb⟩) x := by
  rw [sub_sr ht hs, val_sr]
  subst hsb htb
  have hx : Builtin.bitXor tg sub = 0 ∨ Builtin.bitXor tg sub = 1 := by
    rcases ht with rfl | rfl <;> rcases hs with rfl | rfl <;> simp [xor00, xor01, xor10, xor11]
  obtain ⟨z0, z1⟩ := far_bd ht1 hs0 hd
  have fw := far_whole (sm := tm) (se := te) hp
  refine ⟨raw_ok h hx, fun e => by omega, fun _ => ?_⟩
  have e0 : ∀ Z, sr 0 Z = Z := fun Z => rfl
  have key := pert_mag h hx ht1 hp hbp (by rcases hes with ⟨_, e⟩ | ⟨_, e⟩ <;> omega) z0 z1 rfl
  rw [e0, fw]
  have e3 : ∀ A B : Rat, A = B → Rnd r p A x → Rnd r p B x := fun A B e h => e ▸ h
  refine e3 _ _ ?_ key
  rcases hes with ⟨e, rfl⟩ | ⟨e, rfl⟩ <;> unfold sr
  · rw [if_pos e, if_pos e]; have : ((1 : Int) : Rat) = 1 := rfl; grind
  · rw [if_neg e, if_neg e]; have : ((-1 : Int) : Rat) = -1 := rfl; grind
theorem div_is {a b c : Rat} (hb : b ≠ 0) (e : a = c * b) : a / b = c := by grind
theorem sr_div {sg : Int} {a b : Rat} : sr sg a / b = sr sg (a / b) := by
  unfold sr
  split
  · rfl
  · rw [Rat.div_def, Rat.div_def, Rat.neg_mul]
/-- a quotient by a power of two; a quotient with its sticky bit -/
theorem div_one {r : Rd} {p sg sm se sb te tb : Int} {x : Mpf} (h : Raw r p sg sm (se - te) x) (hsg : sg = 0 ∨ sg = 1) (hs : 0 < sm) (hp : 1 ≤ p) : Rnd r p (Mpf.val ⟨sg, sm, se, sb⟩ / Mpf.val ⟨0, 1, te, tb⟩) x := by
  have key := raw_rnd h hsg (Int.le_of_lt hs) hp
  have e : Mpf.val ⟨sg, sm, se, sb⟩ / Mpf.val ⟨0, 1, te, tb⟩ = (sv sg sm : Rat) * (2 : Rat) ^ (se - te) := by
    have e1 : Mpf.val ⟨0, 1, te, tb⟩ = (2 : Rat) ^ te := by rw [val_sr]; show ((1 : Int) : Rat) * _ = _; have : ((1 : Int) : Rat) = 1 := rfl; grind
    rw [e1]
    refine div_is (Rat.ne_of_gt (zp_pos te)) ?_
    have e2 : (2 : Rat) ^ se = (2 : Rat) ^ (se - te) * (2 : Rat) ^ te := by rw [← Rat.zpow_add two_ne]; congr 1; omega
    show (sv sg sm : Rat) * (2 : Rat) ^ se = _
    rw [e2]; grind
  rw [e]; exact key
theorem div_mag {sm se tm te ex : Int} (ht : 0 < tm) (h0 : 0 ≤ ex) : ((sm : Rat) * (2 : Rat) ^ se) / ((tm : Rat) * (2 : Rat) ^ te) * (tm : Rat) = ((sm * 2 ^ ex.toNat : Int) : Rat) * (2 : Rat) ^ (se - te - ex) := by
  have e2 : (2 : Rat) ^ se = (2 : Rat) ^ (se - te) * (2 : Rat) ^ te := by rw [← Rat.zpow_add two_ne]; congr 1; omega
  have e3 : (2 : Rat) ^ (se - te) = (2 : Rat) ^ (se - te - ex) * ((2 ^ ex.toNat : Int) : Rat) := by rw [← zp_add]; congr 1; omega
  have ht' : (tm : Rat) ≠ 0 := Rat.ne_of_gt (ic_lt ht)
  have hz := Rat.ne_of_gt (zp_pos te)
  rw [Rat.intCast_mul]
  rw [e3] at e2
  rw [e2]
  generalize (2 : Rat) ^ te = T at *
  generalize (2 : Rat) ^ (se - te - ex) = U at *
  generalize ((2 ^ ex.toNat : Int) : Rat) = V at *
  generalize (tm : Rat) = t at *
  generalize (sm : Rat) = s at *
  have : (s * (U * V * T)) / (t * T) = (s * V * U) / t := by
    refine div_is (fun h => ?_) ?_
    · rcases Rat.mul_eq_zero.mp h with h | h <;> contradiction
    · have : (s * V * U) / t * t = s * V * U := Rat.div_mul_cancel ht'
      grind
  rw [this, Rat.div_mul_cancel ht']
theorem div_exact {r : Rd} {p sg sm se sb tm te tb ex : Int} {x : Mpf} (h : Raw r p sg ((sm * 2 ^ ex.toNat).fdiv tm) (se - te - ex) x) (hsg : sg = 0 ∨ sg = 1) (hs : 0 < sm) (ht : 0 < tm) (hsb : sb = intBits sm) (htb : tb = intBits tm) (hp : 1 ≤ p)
    (hx : 5 ≤ ex) (hx' : p - sb + tb + 5 ≤ ex) (hr : (sm * 2 ^ ex.toNat).fmod tm = 0) : Rnd r p (Mpf.val ⟨sg, sm, se, sb⟩ / Mpf.val ⟨0, tm, te, tb⟩) x := by
  have e4 : (sm * 2 ^ ex.toNat).fdiv tm * tm = sm * 2 ^ ex.toNat := by
    have := Int.mul_fdiv_add_fmod (sm * 2 ^ ex.toNat) tm
    rw [hr, Int.mul_comm] at this
    omega
  have h0 : 0 ≤ (sm * 2 ^ ex.toNat).fdiv tm := Int.fdiv_nonneg (Int.le_of_lt (Int.mul_pos hs (p2_pos _))) (Int.le_of_lt ht)
  have key := raw_rnd h hsg h0 hp
  rw [sv_sr] at key
  have ht' : (tm : Rat) ≠ 0 := Rat.ne_of_gt (ic_lt ht)
  have e : Mpf.val ⟨sg, sm, se, sb⟩ / Mpf.val ⟨0, tm, te, tb⟩ = sr sg (((sm * 2 ^ ex.toNat).fdiv tm : Int) * (2 : Rat) ^ (se - te - ex)) := by
    rw [val_sr, val_sr, sr_div]
    congr 1
    show _ / ((tm : Rat) * (2 : Rat) ^ te) = _
    have d := div_mag (sm := sm) (se := se) (te := te) ht (show 0 ≤ ex by omega)
    rw [← e4, Rat.intCast_mul] at d
    generalize (sm : Rat) * (2 : Rat) ^ se / ((tm : Rat) * (2 : Rat) ^ te) = D at *
    have : (D - ((sm * 2 ^ ex.toNat).fdiv tm : Int) * (2 : Rat) ^ (se - te - ex)) * tm = 0 := by grind
    rcases Rat.mul_eq_zero.mp this with h | h
    · grind
    · contradiction
  rw [e]; exact key
theorem sticky_mag {r : Rd} {p sg Z e : Int} {x : Mpf} {Y : Rat} (h : Raw r p sg (Z * 2 + 1) e x) (hsg : sg = 0 ∨ sg = 1) (hp : 1 ≤ p) (hZ : (2 : Int) ^ p.toNat ≤ Z)
    (hl : ((Z * 2 : Int) : Rat) * (2 : Rat) ^ e < Y) (hu : Y < ((Z * 2 + 2 : Int) : Rat) * (2 : Rat) ^ e) : Rnd r p (sr sg Y) x := by
  have hp2 := p2_pos p.toNat
  have h0 : 0 < Z * 2 + 1 := by omega
  obtain ⟨k, ek, k1, k2⟩ := ib_bounds h0
  have hk : p.toNat < k + 1 := p2_lt_iff.mp (by omega)
  refine raw_mag h hsg h0 hp (.inr ⟨(intBits (Z * 2 + 1) - p).toNat, by omega, by omega, fun c c1 c2 => ?_⟩)
  obtain ⟨n, hn⟩ : ∃ n : Nat, (intBits (Z * 2 + 1) - p).toNat = n + 1 := ⟨(intBits (Z * 2 + 1) - p).toNat - 1, by omega⟩
  rw [hn] at c1 c2 ⊢
  have d1 : c * 2 ^ (n + 1) = (c * 2 ^ n) * 2 := by rw [Int.pow_succ, Int.mul_assoc]
  have d2 : (c + 1) * 2 ^ (n + 1) = ((c + 1) * 2 ^ n) * 2 := by rw [Int.pow_succ, Int.mul_assoc]
  refine ⟨by omega, ?_, ?_⟩
  · rw [zp_whole]
    exact Std.lt_of_le_of_lt (zp_le (by omega)) hl
  · rw [zp_whole]
    exact Std.lt_of_lt_of_le hu (zp_le (by omega))
theorem div_sticky {r : Rd} {p sg sm se sb tm te tb ex : Int} {x : Mpf} (h : Raw r p sg ((sm * 2 ^ ex.toNat).fdiv tm * 2 ^ (1 : Int).toNat + 1) (se - te - (ex + 1)) x) (hsg : sg = 0 ∨ sg = 1) (hs : 0 < sm) (ht : 0 < tm) (hsb : sb = intBits sm) (htb : tb = intBits tm) (hp : 1 ≤ p)
    (hx : 5 ≤ ex) (hx' : p - sb + tb + 5 ≤ ex) (hr : ¬ (sm * 2 ^ ex.toNat).fmod tm = 0) : Rnd r p (Mpf.val ⟨sg, sm, se, sb⟩ / Mpf.val ⟨0, tm, te, tb⟩) x := by
  have e4 := Int.mul_fdiv_add_fmod (sm * 2 ^ ex.toNat) tm
  have e5 := Int.fmod_nonneg_of_pos (sm * 2 ^ ex.toNat) ht
  have e6 := Int.fmod_lt_of_pos (sm * 2 ^ ex.toNat) ht
  rw [val_sr, val_sr, sr_div]
  show Rnd r p (sr sg (_ / ((tm : Rat) * (2 : Rat) ^ te))) x
  have d := div_mag (sm := sm) (se := se) (te := te) ht (show 0 ≤ ex by omega)
  have hZ : (2 : Int) ^ p.toNat ≤ (sm * 2 ^ ex.toNat).fdiv tm := by
    rw [Int.fdiv_eq_ediv_of_nonneg _ (Int.le_of_lt ht)]
    refine Int.le_ediv_of_mul_le ht ?_
    obtain ⟨i, ei, i1, i2⟩ := ib_bounds hs
    obtain ⟨j, ej, j1, j2⟩ := ib_bounds ht
    have f1 : (2 : Int) ^ p.toNat * tm ≤ 2 ^ p.toNat * 2 ^ (j + 1) := Int.mul_le_mul_of_nonneg_left (Int.le_of_lt j2) (Int.le_of_lt (p2_pos _))
    have f2 : (2 : Int) ^ i * 2 ^ ex.toNat ≤ sm * 2 ^ ex.toNat := Int.mul_le_mul_of_nonneg_right i1 (Int.le_of_lt (p2_pos _))
    rw [← Int.pow_add] at f1 f2
    have f3 : (2 : Int) ^ (p.toNat + (j + 1)) ≤ 2 ^ (i + ex.toNat) := p2_le (by omega)
    omega
  have h2 : (2 : Int) ^ (1 : Int).toNat = 2 := rfl
  rw [h2] at h
  have ht' : (0 : Rat) < tm := ic_lt ht
  have hu : (2 : Rat) ^ (se - te - ex) = (2 : Rat) ^ (se - te - (ex + 1)) * 2 := by
    have : (2 : Rat) ^ (se - te - ex) = (2 : Rat) ^ (se - te - (ex + 1)) * ((2 ^ 1 : Int) : Rat) := by rw [← zp_add]; congr 1; omega
    exact this
  have hU := zp_pos (se - te - (ex + 1))
  generalize (sm * 2 ^ ex.toNat).fdiv tm = Z at *
  generalize sm * 2 ^ ex.toNat = S at *
  generalize S.fmod tm = R at *
  have g1 : Z * tm < S := by rw [Int.mul_comm]; omega
  have g2 : S < (Z + 1) * tm := by rw [Int.add_mul, Int.mul_comm Z]; omega
  have g1' := zp_lt (e := se - te - (ex + 1)) g1
  have g2' := zp_lt (e := se - te - (ex + 1)) g2
  rw [hu] at d
  rw [Rat.intCast_mul] at g1' g2'
  refine sticky_mag h hsg hp hZ ?_ ?_
  · refine Rat.lt_of_mul_lt_mul_right (c := (tm : Rat)) ?_ (Rat.le_of_lt ht')
    rw [d, Rat.intCast_mul]
    have : ((2 : Int) : Rat) = 2 := rfl
    grind
  · refine Rat.lt_of_mul_lt_mul_right (c := (tm : Rat)) ?_ (Rat.le_of_lt ht')
    rw [d, Rat.intCast_add, Rat.intCast_mul]
    rw [Rat.intCast_add] at g2'
    have : ((2 : Int) : Rat) = 2 := rfl
    have : ((1 : Int) : Rat) = 1 := rfl
    grind
theorem val_eq (sg m e c : Int) : Mpf.val ⟨sg, m, e, c⟩ = (sv sg m : Rat) * (2 : Rat) ^ e := rfl
theorem sv_zero (m : Int) : sv 0 m = m := if_pos rfl
theorem val_zero (sg e c : Int) : Mpf.val ⟨sg, 0, e, c⟩ = 0 := by
  unfold Mpf.val sv
  simp
theorem sv_xor {tg sub m : Int} (ht : tg = 0 ∨ tg = 1) (hs : sub = 0 ∨ sub = 1) : sv (Builtin.bitXor tg sub) m = if sub = 0 then sv tg m else -sv tg m := by
  rcases ht with rfl | rfl <;> rcases hs with rfl | rfl <;> simp [sv, xor00, xor01, xor10, xor11]
theorem x_01 {tg sub : Int} (ht : tg = 0 ∨ tg = 1) (hs : sub = 0 ∨ sub = 1) : Builtin.bitXor tg sub = 0 ∨ Builtin.bitXor tg sub = 1 := by
  rcases ht with rfl | rfl <;> rcases hs with rfl | rfl <;> simp [xor00, xor01, xor10, xor11]
theorem ib_sv (sg m : Int) : intBits (sv sg m) = intBits m := by
  unfold sv
  split
  · rfl
  · exact Nat.le_antisymm (bits_neg (Nat.le_refl _)) (by have := bits_neg (a := -m) (Nat.le_refl _); rwa [Int.neg_neg] at this)
theorem ib_sum {a b sg m ts : Int} {k N : Nat} (e : sv sg m = a * 2 ^ k + sv ts b) (ha : intBits a + k + 1 ≤ N) (hb : intBits b ≤ N) : intBits m ≤ N + 1 := by
  rw [← ib_sv sg m, e]
  have h1 : intBits (a * 2 ^ k) ≤ N := Nat.le_trans (bits_mul (Nat.le_refl _) (Nat.le_of_eq (ib_p2 k))) (by omega)
  have h2 := bits_add h1 (show intBits (sv ts b) ≤ N by rw [ib_sv]; exact hb)
  omega
theorem add_val_hi {sm se sb tg tm te tb sub mm sg : Int} {k : Nat} (ht : tg = 0 ∨ tg = 1) (hs : sub = 0 ∨ sub = 1) (e : se = te + k) (h : sv sg mm = sm * 2 ^ k + sv (Builtin.bitXor tg sub) tm) :
    Mpf.val ⟨0, sm, se, sb⟩ + (if sub = 0 then 1 else -1) * Mpf.val ⟨tg, tm, te, tb⟩ = (sv sg mm : Rat) * (2 : Rat) ^ te := by
  rw [h, sv_xor ht hs, val_eq, val_eq, sv_zero, e, zp_add]
  rw [Rat.intCast_add, Rat.intCast_mul]
  rcases hs with rfl | rfl <;> simp only [if_true, if_false, Int.one_ne_zero, Rat.intCast_neg] <;> grind
theorem add_val_lo {sm se sb tg tm te tb sub mm sg : Int} {k : Nat} (ht : tg = 0 ∨ tg = 1) (hs : sub = 0 ∨ sub = 1) (e : te = se + k) (h : sv sg mm = sv (Builtin.bitXor tg sub) tm * 2 ^ k + sv 0 sm) :
    Mpf.val ⟨0, sm, se, sb⟩ + (if sub = 0 then 1 else -1) * Mpf.val ⟨tg, tm, te, tb⟩ = (sv sg mm : Rat) * (2 : Rat) ^ se := by
  rw [h, sv_xor ht hs, val_eq, val_eq, sv_zero, e, zp_add]
  rw [Rat.intCast_add, Rat.intCast_mul]
  rcases hs with rfl | rfl <;> simp only [if_true, if_false, Int.one_ne_zero, Rat.intCast_neg] <;> grind
theorem ib_pert {a p es N : Int} (ha : intBits a + p + 5 ≤ N) (hp : 0 ≤ p) (hes : es = 1 ∨ es = -1) : (intBits (a * 2 ^ (p + 4).toNat + es) : Int) ≤ N + 1 := by
  have h1 : intBits (a * 2 ^ (p + 4).toNat) ≤ N.toNat := Nat.le_trans (bits_mul (Nat.le_refl _) (Nat.le_of_eq (ib_p2 _))) (by omega)
  have h2 := bits_add h1 (show intBits es ≤ 1 by rcases hes with rfl | rfl <;> decide +kernel)
  omega
theorem mul_val {xm xe xb ym ye yb b : Int} : Mpf.val ⟨0, xm * ym, xe + ye, b⟩ = Mpf.val ⟨0, xm, xe, xb⟩ * Mpf.val ⟨0, ym, ye, yb⟩ := by
  simp only [val_eq, sv_zero]
  rw [Rat.intCast_mul, Rat.zpow_add two_ne]
  grind
theorem shift_val {sg m e b n : Int} : Mpf.val ⟨sg, m, e + n, b⟩ = Mpf.val ⟨sg, m, e, b⟩ * (2 : Rat) ^ n := by
  simp only [val_eq]
  rw [Rat.zpow_add two_ne]
  grind
theorem fdiv_nn {a b : Int} (ha : 0 ≤ a) (hb : 0 < b) : 0 ≤ a.fdiv b := Int.fdiv_nonneg ha (Int.le_of_lt hb)
theorem fdiv_pos_of {a b : Int} (hb : 0 < b) (h : b ≤ a) : 0 < a.fdiv b := by
  rw [Int.fdiv_eq_ediv_of_nonneg _ (Int.le_of_lt hb)]
  exact Int.le_ediv_of_mul_le hb (by omega)
local macro_rules | `(tactic| leaf_len) => `(tactic| (dsimp only [x0, x1, x2, x3, x4, x5, x6, x7, x8, x9, x10, x11, x12, x13, x14, x15, x16, x17, x18, x19, x20, x21, x22, x23, x24, x25, x26, x27, x28, x29, x30, x31, x32, x33, x34, x35, x36, x37, x38, x39, x40, x41, x42, x43, x44, x45, x46, x47, x48, x49, x50, x51, x52, x53, x54, x55, x56, x57, x58, x59, x60, x61, x62, x63, x64, x65, x66, x67, x68, x69, x70, x71, x72, x73, x74, x75, x76, x77, x78, x79, x80, x81, x82, x83, x84, x85, x86, x87, x88, x89, x90, x91, x92, x93, x94, x95, x96, x97, x98, x99, x100, x101, x102, x103, x104, x105, x106, x107, x108, x109, x110, x111, x112, x113, x114, x115, x116, x117, x118, x119, x120, x121, x122, x123, x124]))

local macro_rules | `(tactic| isplit) => `(tactic| (refine' Fm.weak (by assumption) ?a ?b; (case a => (intro _ _; repeat (first | exact lk_nil | refine lk_cons rfl ?_))); (case b => first | exact (fun _ h => nomatch h) | exact (fun _ h => h))))

local macro_rules | `(tactic| bits_by_make) => `(tactic| with_reducible assumption)

local macro_rules | `(tactic| fold_depth) => `(tactic| first | with_reducible rfl | with_reducible assumption | exact Hd.out (by with_reducible assumption) | omega | exact Hd.mk (by omega) | exact Pf.nf (by with_reducible assumption) | exact kbm_shl (by bits_by_make) (by omega) (by decide) | exact mulOk_of_bits (by bits_by_make) (by bits_by_make) (by decide) | exact of_bits (by bits_by_make) (by decide) | (simp only [Int.reducePow, Int.reduceToNat, Int.reduceMul, Int.reduceAdd, Int.reduceSub]; omega) | decide +kernel)

local macro_rules | `(tactic| kst_all1) => `(tactic| exact Rm.le (by assumption) (by decide))

local macro_rules | `(tactic| kd_adr) => `(tactic| exact Fm.gw (by assumption))

local macro_rules | `(tactic| kcf_m) => `(tactic| first | exact List.Mem.head _ | (refine List.Mem.tail _ ?_; kcf_m))

local macro_rules | `(tactic| kbo_bools) => `(tactic| first
  | exact Fm.tup (by assumption) (by kcf_m)
  | exact t_zero (Fm.gw (by assumption))
  | exact t_nan (Fm.gw (by assumption))
  | exact t_inf (Fm.gw (by assumption))
  | exact t_ninf (Fm.gw (by assumption)))

local macro_rules | `(tactic| kxs_still) => `(tactic| (
  (case hcd => kernel_rfl); (case hb => first | exact BindsTo.of_eq rfl | exact binds_K (Gl.k (by assumption)) rfl rfl rfl rfl rfl); (case hlo => kernel_rfl); (case hgl => kernel_rfl); (case hms => exact rfl); (case hco => exact rfl); (case hgen => exact rfl); (case hk => exact rfl); (case hcell => exact rfl)))

local macro_rules | `(tactic| kat_tups) => `(tactic| first
  | (first
    | (with_reducible refine s_cons ?_)
    | (with_reducible refine s_nil ?_)
    | (with_reducible refine th_next ?_)
    | (with_reducible refine th_ret ?_)
    | (with_reducible refine jn_ret ?_)
    | (with_reducible refine bk_ret ?_)
    | (with_reducible refine bk_next ?_))
  | ((with_reducible show wpAny _ _ (exec _ _) _ _ _); first
    | (with_reducible refine wpAny_If ?_)
    | (with_reducible refine wpAny_Return_some ?_)
    | ((with_reducible refine wpAny_Assign_Name ?_ ?s); (case s => exact rfl))
    | (with_reducible refine wpAny_AugAssign_Name ?_)
    | (with_reducible refine wpAny_Assert_holds ?_)
    | ((with_reducible refine' r_swap2 ?F ?n ?a ?b ?d ?e ?f ?g ?_); (case F => with_reducible assumption); (case n => exact Rm.hn (by assumption)); (case a => exact rfl); (case b => exact rfl); (case d => exact rfl); (case e => exact rfl); (case f => exact rfl); (case g => got_up))
    | ((with_reducible refine' r_swap3 ?F ?n ?a ?b ?b' ?d ?e ?e' ?f ?g ?_); (case F => with_reducible assumption); (case n => exact Rm.hn (by assumption)); (case a => exact rfl); (case b => exact rfl); (case b' => exact rfl); (case d => exact rfl); (case e => exact rfl); (case e' => exact rfl); (case f => exact rfl); (case g => got_up))
    | ((with_reducible refine Assign_Tuple ?_ ?s ?s'); (case s => exact rfl); (case s' => exact rfl)))
  | ((with_reducible show wpAny _ _ (eval _ _) _ _ _); first
    | ((with_reducible refine' r_local ?F ?a ?b ?_); (case F => with_reducible assumption); (case a => exact rfl); (case b => exact rfl))
    | ((with_reducible refine r_int ?_); intro _ _)
    | ((with_reducible refine' r_global ?F ?v ?a ?_); (case F => with_reducible assumption); (case v => exact rfl); (case a => exact rfl))
    | ((with_reducible refine' r_builtin ?F ?v ?a ?_); (case F => with_reducible assumption); (case v => exact rfl); (case a => exact rfl))
    | (with_reducible refine wpAny_BinOp ?_)
    | ((with_reducible refine' e_method ?s ?_); (case s => exact rfl))
    | ((with_reducible refine e_call ?_ ?s); (case s => exact rfl))
    | ((with_reducible refine wpAny_Compare1 ?_ ?s); (case s => with_unfolding_all rfl))
    | (with_reducible refine UnaryOp_ ?_)
    | (with_reducible refine Tuple_ ?_)
    | (with_reducible refine Subscript_ ?_)
    | (with_reducible refine IfExp_ ?_)
    | (with_reducible refine BoolOp_one ?_)
    | (with_reducible refine BoolOp_and ?_)
    | (with_reducible refine BoolOp_or ?_)
    | ((with_reducible refine r_str ?_); intro _ _))
  | (first
    | ((with_reducible refine r_add ?_); intro _ _)
    | ((with_reducible refine r_sub ?_); intro _ _)
    | ((with_reducible refine r_iadd ?_); intro _ _)
    | ((with_reducible refine r_isub ?_); intro _ _)
    | ((with_reducible refine r_neg ?_); intro _ _)
    | (with_reducible refine r_lt ?_)
    | (with_reducible refine r_le ?_)
    | (with_reducible refine r_gt ?_)
    | (with_reducible refine r_ge ?_)
    | (with_reducible refine r_eq ?_)
    | (with_reducible refine r_ne ?_)
    | (with_reducible refine r_truthy_int ?_)
    | (with_reducible refine r_truthy_bool ?_)
    | ((with_reducible refine r_and ?_); intro _ _)
    | ((with_reducible refine r_xor ?_); intro _ _)
    | ((with_reducible refine r_ixor ?_); intro _ _)
    | (with_reducible refine r_getbits ?_)
    | ((with_reducible refine r_bits ?_); intro _ _)
    | ((with_reducible refine' r_eqstrT ?e ?_); (case e => decide +kernel))
    | ((with_reducible refine' r_eqstrF ?e ?_); (case e => decide +kernel))
    | ((with_reducible refine' r_instr (b := true) ?e ?_); (case e => decide +kernel))
    | ((with_reducible refine' r_instr (b := false) ?e ?_); (case e => decide +kernel))
    | (with_reducible refine r_isint ?_)
    | ((with_reducible refine' r_eqtup (d := _) ?R ?T ?T' ?_); (case R => assumption); (case T => kbo_bools); (case T' => kbo_bools))
    | ((with_reducible refine' r_mul ?s ?_); (case s => fold_depth); intro _ _)
    | ((with_reducible refine' r_shl ?s ?s' ?_); (case s => fold_depth); (case s' => fold_depth); intro _ _)
    | ((with_reducible refine' r_shr ?s ?_); (case s => fold_depth); intro _ _)
    | ((with_reducible refine' r_ishl ?s ?s' ?_); (case s => fold_depth); (case s' => fold_depth); intro _ _)
    | ((with_reducible refine' r_ishr ?s ?_); (case s => fold_depth); intro _ _)
    | ((with_reducible refine' r_fdiv ?s ?s' ?_); (case s => fold_depth); (case s' => fold_depth); intro _ _)
    | ((with_reducible refine' r_mod ?s ?_); (case s => fold_depth); intro _ _)
    | ((with_reducible refine' r_pow ?s ?s' ?s'' ?_); (case s => fold_depth); (case s' => fold_depth); (case s'' => fold_depth); intro _ _)
    | ((with_reducible refine' r_max ?F ?n ?_); (case F => with_reducible assumption); (case n => exact Rm.hn (by assumption)); intro _ _ _ _)
    | ((with_reducible refine' r_min ?F ?n ?_); (case F => with_reducible assumption); (case n => exact Rm.hn (by assumption)); intro _ _ _ _)
    | ((with_reducible refine' r_divmod ?F ?s ?s' ?_); (case F => with_reducible assumption); (case s => fold_depth); (case s' => fold_depth); intro _ _ _ _ _ _))
  | ((with_reducible show wpAny _ _ (PySem.isTrue _ _ _) _ _ _); first
    | (with_reducible refine isTrue_not ?_)
    | (with_reducible refine isTrue_and_nil ?_)
    | (with_reducible refine isTrue_or_nil ?_)
    | (with_reducible refine isTrue_and ?_)
    | (with_reducible refine isTrue_or ?_)
    | ((with_reducible refine wpAny_isTrue_Compare1 ?_ ?s); (case s => with_unfolding_all rfl))
    | ((with_reducible refine isTrue_chain ?_ ?s); (case s => exact rfl))
    | ((with_reducible refine isTrue_plain ?_ ?s); (case s => exact rfl)))
  | (first
    | (with_reducible refine i_true ?_)
    | (with_reducible refine i_false ?_)
    | (with_reducible refine i_not ?_)
    | (with_reducible refine i_dec ?_ ?_ <;> (intro hc'; first | (exfalso; omega) | skip)))
  | (first
    | ((with_reducible refine' r_store ?F ?a ?_); (case F => with_reducible assumption); (case a => exact rfl); intro _ _ _)
    | ((with_reducible refine' r_localn ?F ?a ?b ?_); (case F => with_reducible assumption); (case a => exact rfl); (case b => exact rfl))
    | ((with_reducible refine spliced_more ?_ ?s); (case s => exact rfl))
    | (with_reducible refine spliced_none ?_)
    | ((with_reducible refine' e_callK ?F ?k ?_ ?s ?s'); (case k => exact rfl); (case F => with_reducible assumption); (case s => exact rfl); (case s' => exact rfl))
    | (with_reducible refine e_inK (by assumption) ?_)
    | (with_reducible refine e_method0 ?_)
    | ((with_reducible refine e_callB ?_ ?s ?s'); (case s => exact rfl); (case s' => exact rfl))
    | ((with_reducible refine' r_shifts ?F ?v ?e ?_); (case F => with_reducible assumption); (case v => first | exact s_f _ | exact s_c _); (case e => exact rfl); intro _)
    | ((with_reducible refine' r_topitem ?F ?v ?a ?b ?c ?d ?e ?_); (case v => first | exact k_61 _ | exact k_62 _); (case F => with_reducible assumption); (case a => decide); (case b => decide); (case c => exact rfl); (case d => exact rfl); (case e => exact rfl))
    | ((with_reducible refine' r_newtuple ?F ?z ?_); (case F => with_reducible assumption); (case z => exact Nat.le_of_ble_eq_true rfl); intro _ _ _)
    | ((with_reducible refine' r_item ?F ?m ?a ?b ?c ?d ?e ?_); (case F => with_reducible assumption); (case m => kcf_m); (case a => decide); (case b => decide); (case c => exact rfl); (case d => exact rfl); (case e => exact rfl))
    | ((with_reducible refine' r_unpack4 ?F ?m ?n ?a ?b ?c ?d ?_); (case F => with_reducible assumption); (case m => kcf_m); (case n => exact Rm.hn (by assumption)); (case a => exact rfl); (case b => exact rfl); (case c => exact rfl); (case d => exact rfl); intro _ _ _)
    | ((with_reducible refine' r_unpack2 ?F ?m ?n ?a ?b ?_); (case F => with_reducible assumption); (case m => kcf_m); (case n => exact Rm.hn (by assumption)); (case a => exact rfl); (case b => exact rfl); intro _ _ _)
    | ((with_reducible refine' r_unpack ?F ?m ?n ?a ?b ?_); (case F => with_reducible assumption); (case m => kcf_m); (case n => exact Rm.hn (by assumption)); (case a => exact rfl); (case b => exact rfl); intro _ _)
    | ((with_reducible refine' sw2 ?F ?_); (case F => with_reducible assumption); intro _ _ _)
    | ((with_reducible refine' sw3 ?F ?_); (case F => with_reducible assumption); intro _ _ _)
    | (with_reducible refine assignInOrder_nil ?_)
    | (with_reducible refine a_cons ?_)
    | (with_reducible refine PyProof.Rows.assign_Name ?_)
    | (with_reducible refine test_link ?_)
    | (with_reducible refine test_last' ?_)
    | (with_reducible refine test_last ?_)
    | (with_reducible refine in_and ?_ ?_))
  | (first | kp_flats | fail "no step"))

local macro_rules | `(tactic| krn_off) => `(tactic| repeat' kat_tups)

section
variable {w : World} {A : Around} {E : Value → Shared → Prop} {s₀ : Shared} {h : Heap} {t : Nat}
theorem c_trailing {n : Int} {u : Tok} {Q : Value → Shared → Prop} (R : Rm 1 A) (G : Gl w h) (hn : n ≠ 0)
  (q : ∀ (k : Nat) (m : Int) v t' h', Kp h h' → n = m * 2 ^ k → m % 2 = 1 → Q (.int k v) (St s₀ h' t')) : wpAny (MM w) A (call (.ref 21) [.int n u]) Q E (St s₀ h t) := by
  refine' enter [0] [] [(0, .int n u)] R G rfl ?hcd ?hb ?hlo ?hgl ?hms ?hco ?hgen ?hk ?hcell ?_
  kxs_still
  intro A' env h₁ t' E' R' F
  leaf_len
  krn_off
  obtain ⟨k, m, e, h1, h2⟩ := trail_spec hn
  rw [h2]
  exact q k m _ _ _ (Fm.kp (by assumption)) e h1
end

local macro_rules | `(tactic| kp_flats) => `(tactic| ((with_reducible refine' c_trailing ?R ?G ?n ?_); (case R => kst_all1); (case G => kd_adr); (case n => omega); intro _ _ _ _ _ k' _ _; (have F' := Fm.after (by assumption) k')))

section
variable {w : World} {A : Around} {E : Value → Shared → Prop} {s₀ : Shared} {h : Heap} {t : Nat}
theorem c_normalize0 {r : Rd} {sg mn ex bc p : Int} {u1 u2 u3 u4 u5 u6 : Tok} {Q : Value → Shared → Prop} (R : Rm 2 A) (G : Gl w h) (hsg : sg = 0 ∨ sg = 1) (hmn : 0 ≤ mn) (hbc : bc = intBits mn) (hp : 0 < mn → 1 ≤ p) (hb : bc ≤ 100000000)
  (q : ∀ a h' t' x u1 u2 u3 u4, Kp h h' → IsTup h' a #[.int x.sg u1, .int x.mn u2, .int x.ex u3, .int x.bc u4] → Raw r p sg mn ex x → Q (.ref a) (St s₀ h' t')) :
  wpAny (MM w) A (call (.ref 71) [.int sg u1, .int mn u2, .int ex u3, .int bc u4, .int p u5, .str r.str u6]) Q E (St s₀ h t) := by
  refine' enter [0, 6, 7, 8, 9, 10, 11, 13] [12, 14, 17, 16, 15] [(11, .str r.str u6), (10, .int p u5), (9, .int bc u4), (8, .int ex u3), (7, .int mn u2), (6, .int sg u1)] R G rfl ?hcd ?hb ?hlo ?hgl ?hms ?hco ?hgen ?hk ?hcell ?_
  kxs_still
  intro A' env h₁ t' E' R' F
  leaf_len
  repeat' ((fail_if_success (with_reducible show wpAny _ _ (execs (Stmt.If (Expr.Compare (Expr.Name (X 0) _) [CmpOp.Gt] _ _) _ _ _ :: _) _) _ _ _)); kat_tups)
  · exact q 56 _ _ ⟨0, 0, 0, 0⟩ _ _ _ _ (Fm.kp (by assumption)) (t_zero (Fm.gw (by assumption))) (.inl ⟨by assumption, rfl⟩)
  · have h0 : 0 < mn := by omega
    have hp := hp h0
    refine s_join (fun hh => ∃ (qq : Int) (nn : Nat) (B : Int) (v1 v2 v3 : Tok), Grid r p sg mn qq nn ∧ 0 < qq ∧ (B = intBits qq ∨ (∃ j : Nat, 1 ≤ j ∧ qq = 2 ^ j)) ∧
      Fm w ⟨h, []⟩ env [0, 6, 7, 8, 9, 10, 11, 13] [12, 14, 17, 16, 15] [(9, .int B v3), (8, .int (ex + nn) v2), (7, .int qq v1), (6, .int sg u1)] [] hh) ?_ ?_
    · rename_i u0 _ h1 t1 F1
      clear F
      by_cases hn : 0 < bc - p
      · have en : ((bc - p).toNat : Int) = bc - p := by omega
        cases r
        · rcases hsg with rfl | rfl <;> simp only [Rd.str] at F1 <;> krn_off
          · have g := grid_downF (r := .f) (sg := 0) h0 hbc hn hp (.inl ⟨rfl, rfl⟩)
            exact jn ⟨_, _, p, _, _, _, g.1, g.2.1, g.2.2, by rw [en]; isplit⟩
          · have g := grid_upF (r := .f) (sg := 1) h0 hbc hn hp (.inl ⟨rfl, rfl⟩)
            exact jn ⟨_, _, p, _, _, _, g.1, g.2.1, g.2.2, by rw [en]; isplit⟩
        · rcases hsg with rfl | rfl <;> simp only [Rd.str] at F1 <;> krn_off
          · have g := grid_upF (r := .c) (sg := 0) h0 hbc hn hp (.inr ⟨rfl, rfl⟩)
            exact jn ⟨_, _, p, _, _, _, g.1, g.2.1, g.2.2, by rw [en]; isplit⟩
          · have g := grid_downF (r := .c) (sg := 1) h0 hbc hn hp (.inr ⟨rfl, rfl⟩)
            exact jn ⟨_, _, p, _, _, _, g.1, g.2.1, g.2.2, by rw [en]; isplit⟩
        · have hs : (intBits (1 : Int) : Int) + (bc - p - 1) ≤ 2 ^ 27 := by have : intBits (1 : Int) = 1 := rfl; rw [this]; omega
          simp only [Rd.str] at F1
          krn_off
          all_goals first
            | (have g := grid_near1F (sg := sg) h0 hbc hn hp (by assumption)
               exact jn ⟨_, _, p, _, _, _, g.1, g.2.1, g.2.2, by rw [en]; isplit⟩)
            | (have g := grid_near0F (sg := sg) h0 hbc hn hp
               exact jn ⟨_, _, p, _, _, _, g.1, g.2.1, g.2.2, by rw [en]; isplit⟩)
      · krn_off
        have ez : ex + ((0 : Nat) : Int) = ex := by simp
        exact jn ⟨mn, 0, bc, _, _, _, grid_zero h0 (by omega), h0, .inl hbc, by rw [ez]; isplit⟩
    · clear F
      rintro hh tt ⟨qq, nn, B, v1, v2, v3, g, hq, hB, F⟩
      krn_off
      · rename qq = _ * 2 ^ _ => e
        rename Int.fdiv _ _ = 1 => h1
        rename Fm _ _ _ _ _ _ _ _ => F9
        rw [fdiv_split e] at h1 F9
        exact q _ _ _ ⟨sg, _, _, 1⟩ _ _ _ _ F9.kp (F9.tup (.head _)) (.inr ⟨h0, qq, nn, g, strip_one e h1⟩)
      · rename qq = _ * 2 ^ _ => e
        rename _ % 2 = 1 => ho
        rename ¬Int.fdiv _ _ = 1 => h1
        rename Fm _ _ _ _ _ _ _ _ => F9
        rw [fdiv_split e] at h1 F9
        exact q _ _ _ ⟨sg, _, _, _⟩ _ _ _ _ F9.kp (F9.tup (.head _)) (.inr ⟨h0, qq, nn, g, strip_even hq e ho hB h1⟩)
      · exact q _ _ _ ⟨sg, _, _, 1⟩ _ _ _ _ (Fm.kp (by assumption)) (Fm.tup (by assumption) (.head _)) (.inr ⟨h0, qq, nn, g, strip_one' (by assumption)⟩)
      · exact q _ _ _ ⟨sg, _, _, _⟩ _ _ _ _ (Fm.kp (by assumption)) (Fm.tup (by assumption) (.head _)) (.inr ⟨h0, qq, nn, g, strip_odd hq (odd_of (by assumption)) hB⟩)
end

local macro_rules | `(tactic| kp_flats) => `(tactic| ((with_reducible refine' c_normalize0 ?R ?G ?s ?m ?b ?p ?B ?_); (case R => kst_all1); (case G => kd_adr); (case s => fold_depth); (case m => fold_depth); (case b => fold_depth); (case p => fold_depth); (case B => fold_depth); intro _ _ _ _ _ _ _ _ k' T' S'; (have F' := Fm.add (Fm.after (by assumption) k') T')))

section
variable {w : World} {A : Around} {E : Value → Shared → Prop} {s₀ : Shared} {h : Heap} {t : Nat}
theorem c_normalize {r : Rd} {sg mn ex bc p : Int} {u1 u2 u3 u4 u5 u6 : Tok} {Q : Value → Shared → Prop} (R : Rm 3 A) (G : Gl w h) (hsg : sg = 0 ∨ sg = 1) (hmn : 0 ≤ mn) (hbc : bc = intBits mn) (hp : 0 < mn → 1 ≤ p) (hb : bc ≤ 100000000)
  (q : ∀ a h' t' x u1 u2 u3 u4, Kp h h' → IsTup h' a #[.int x.sg u1, .int x.mn u2, .int x.ex u3, .int x.bc u4] → Raw r p sg mn ex x → Q (.ref a) (St s₀ h' t')) :
  wpAny (MM w) A (call (.ref 78) [.int sg u1, .int mn u2, .int ex u3, .int bc u4, .int p u5, .str r.str u6]) Q E (St s₀ h t) := by
  refine' enter [6, 7, 8, 9, 10, 11] [18] [(11, .str r.str u6), (10, .int p u5), (9, .int bc u4), (8, .int ex u3), (7, .int mn u2), (6, .int sg u1)] R G rfl ?hcd ?hb ?hlo ?hgl ?hms ?hco ?hgen ?hk ?hcell ?_
  kxs_still
  intro A' env h₁ t' E' R' F
  leaf_len
  krn_off
  all_goals first
    | (simp only [decide_eq_true_eq]; fold_depth)
    | exact q _ _ _ _ _ _ _ _ (Fm.kp (by assumption)) (by assumption) (by assumption)
end

local macro_rules | `(tactic| kp_flats) => `(tactic| ((with_reducible refine' c_normalize ?R ?G ?s ?m ?b ?p ?B ?_); (case R => kst_all1); (case G => kd_adr); (case s => fold_depth); (case m => fold_depth); (case b => fold_depth); (case p => fold_depth); (case B => fold_depth); intro _ _ _ _ _ _ _ _ k' T' S'; (have F' := Fm.add (Fm.after (by assumption) k') T')))

section
variable {w : World} {A : Around} {E : Value → Shared → Prop} {s₀ : Shared} {h : Heap} {t : Nat}
theorem c_from_man_exp {r : Rd} {mn ex p : Int} {u2 u3 u5 u6 : Tok} {Q : Value → Shared → Prop} (R : Rm 4 A) (G : Gl w h) (hmn : 0 < mn) (hp : 1 ≤ p) (hb : intBits mn ≤ 100000000)
  (q : ∀ a h' t' x u1 u2 u3 u4, Kp h h' → IsTup h' a #[.int x.sg u1, .int x.mn u2, .int x.ex u3, .int x.bc u4] → Raw r p 0 mn ex x → Q (.ref a) (St s₀ h' t')) :
  wpAny (MM w) A (call (.ref 86) [.int mn u2, .int ex u3, .int p u5, .str r.str u6]) Q E (St s₀ h t) := by
  refine' enter [7, 8, 10, 11, 6, 9, 13] [21, 22, 23, 12, 15, 20] [(11, .str r.str u6), (10, .int p u5), (8, .int ex u3), (7, .int mn u2)] R G rfl ?hcd ?hb ?hlo ?hgl ?hms ?hco ?hgen ?hk ?hcell ?_
  kxs_still
  intro A' env h₁ t' E' R' F
  leaf_len
  krn_off
  all_goals exact q _ _ _ _ _ _ _ _ (Fm.kp (by assumption)) (by assumption) (by assumption)
theorem c_mpf_sign {a : Addr} {x : Mpf} {u1 u2 u3 u4 : Tok} {Q : Value → Shared → Prop} (R : Rm 1 A) (G : Gl w h) (T : IsTup h a #[.int x.sg u1, .int x.mn u2, .int x.ex u3, .int x.bc u4]) (hx : x.Ok)
  (q : ∀ h' t' u, Kp h h' → Q (.int (if x.mn = 0 then 0 else if x.sg = 0 then 1 else -1) u) (St s₀ h' t')) :
  wpAny (MM w) A (call (.ref 151) [.ref a]) Q E (St s₀ h t) := by
  refine' enter [24, 6, 7, 8, 9] [39, 40] [(24, .ref a)] R G rfl ?hcd ?hb ?hlo ?hgl ?hms ?hco ?hgen ?hk ?hcell ?_
  kxs_still
  intro A' env h₁ t' E' R' F
  replace F := F.add (IsTup.keeps T F.kp)
  have hz := hx.zero
  have hs := hx.sg
  leaf_len
  krn_off
  · have e : (if x.mn = 0 then (0 : Int) else if x.sg = 0 then 1 else -1) = 0 := if_pos (by assumption)
    rw [e] at q
    exact q _ _ _ (Fm.kp (by assumption))
  · have e : (if x.mn = 0 then (0 : Int) else if x.sg = 0 then 1 else -1) = (-1) ^ x.sg.toNat := by
      rw [if_neg (by assumption)]
      rcases hs with e | e <;> rw [e] <;> rfl
    rw [e] at q
    exact q _ _ _ (Fm.kp (by assumption))
end

local macro_rules | `(tactic| kp_flats) => `(tactic| ((with_reducible refine' c_mpf_sign ?R ?G ?T ?X ?_); (case R => kst_all1); (case G => kd_adr); (case T => kbo_bools); (case X => assumption); intro _ _ _ k'; (have F' := Fm.after (by assumption) k')))

section
variable {w : World} {A : Around} {E : Value → Shared → Prop} {s₀ : Shared} {h : Heap} {t : Nat}
theorem c_mpf_neg0 {a : Addr} {u1 u2 u3 u4 : Tok} {Q : Value → Shared → Prop} (R : Rm 1 A) (G : Gl w h) (T : IsTup h a #[.int 0 u1, .int 0 u2, .int 0 u3, .int 0 u4])
  (q : ∀ h' t', Kp h h' → Q (.ref a) (St s₀ h' t')) :
  wpAny (MM w) A (call (.ref 144) [.ref a]) Q E (St s₀ h t) := by
  refine' enter [24, 10, 11, 6, 7, 8, 9] [39, 40, 20] [(11, .str (Str.ofString "d") 252), (10, .int 0 405), (24, .ref a)] R G rfl ?hcd ?hb ?hlo ?hgl ?hms ?hco ?hgen ?hk ?hcell ?_
  kxs_still
  intro A' env h₁ t' E' R' F
  replace F := F.add (IsTup.keeps T F.kp)
  leaf_len
  krn_off
  exact q _ _ (Fm.kp (by assumption))
end

local macro_rules | `(tactic| kp_flats) => `(tactic| ((with_reducible refine' c_mpf_neg0 ?R ?G ?T ?_); (case R => kst_all1); (case G => kd_adr); (case T => kbo_bools); intro _ _ k'; (have F' := Fm.after (by assumption) k')))

section
variable {w : World} {A : Around} {E : Value → Shared → Prop} {s₀ : Shared} {h : Heap} {t : Nat}
theorem c_mpf_add {r : Rd} {a b : Addr} {sm se sb tg tm te tb p sub B : Int} {u1 u2 u3 u4 v1 v2 v3 v4 w1 w2 w3 : Tok} {Q : Value → Shared → Prop} {vals : List Value} (R : Rm 4 A) (G : Gl w h) (hvals : Binds w 159 (St s₀ h t) vals [(43, .int sub w3), (11, .str r.str w2), (10, .int p w1), (13, .ref b), (24, .ref a)])
  (Ts : IsTup h a #[.int 0 u1, .int sm u2, .int se u3, .int sb u4]) (Tt : IsTup h b #[.int tg v1, .int tm v2, .int te v3, .int tb v4])
  (os : Mpf.Ok ⟨0, sm, se, sb⟩) (ot : Mpf.Ok ⟨tg, tm, te, tb⟩) (hs0 : 0 < sm) (hsub : Hd (sub = 0 ∨ sub = 1)) (hp0 : 0 ≤ p) (hpB : p ≤ B) (hB : B ≤ 100000) (zs : Sz B ⟨0, sm, se, sb⟩) (zt : Sz B ⟨tg, tm, te, tb⟩)
  (hP : Hd (p = 0 ∨ (sb ≤ p ∧ tb ≤ p) ∨ sb + se = tb + te))
  (q : ∀ a h' t' x u1 u2 u3 u4, Kp h h' → IsTup h' a #[.int x.sg u1, .int x.mn u2, .int x.ex u3, .int x.bc u4] →
    Res r p (Mpf.val ⟨0, sm, se, sb⟩ + (if sub = 0 then 1 else -1) * Mpf.val ⟨tg, tm, te, tb⟩) x → Sz (4 * B + 10) x → Q (.ref a) (St s₀ h' t')) :
  wpAny (MM w) A (call (.ref 159) vals) Q E (St s₀ h t) := by
  obtain ⟨-, -, os2, -, -⟩ := os
  obtain ⟨ot1, ot2, ot3, ot4, -⟩ := ot
  obtain ⟨zs1, zs2, zs3⟩ := zs
  obtain ⟨zt1, zt2, zt3⟩ := zt
  dsimp only at os2 ot1 ot2 ot3 ot4 zs1 zs2 zs3 zt1 zt2 zt3
  have bs : intBits sm ≤ 100000 := by omega
  have bt : intBits tm ≤ 100000 := by omega
  have hx : Hd (Builtin.bitXor tg sub = 0 ∨ Builtin.bitXor tg sub = 1) := x_01 ot1 hsub.out
  replace ot1 := Hd.mk ot1
  have bsp := ib_pos hs0
  refine' enter [24, 13, 10, 11, 43, 27, 29, 30, 31, 32, 33, 34, 35, 44, 28, 7, 9] [20, 45, 38] [(43, .int sub w3), (11, .str r.str w2), (10, .int p w1), (13, .ref b), (24, .ref a)] R G rfl ?hcd ?hb ?hlo ?hgl ?hms ?hco ?hgen ?hk ?hcell ?_
  case hb => exact hvals _ _ rfl rfl
  (case hcd => kernel_rfl); (case hlo => kernel_rfl); (case hgl => kernel_rfl); (case hms => exact rfl); (case hco => exact rfl); (case hgen => exact rfl); (case hk => exact rfl); (case hcell => exact rfl)
  intro A' env h₁ t' E' R' F
  replace F := (F.add (IsTup.keeps Ts F.kp)).add (IsTup.keeps Tt F.kp)
  leaf_len
  by_cases ht0 : tm = 0
  · obtain ⟨rfl, rfl⟩ := ot4 ht0
    clear ot4
    subst ht0
    have : tb = 0 := ot3
    subst this
    krn_off
    all_goals exact q _ _ _ _ _ _ _ _ (Fm.kp (by assumption)) (by assumption) (raw_res (by assumption) (.inl rfl) (Int.le_of_lt hs0) hp0 (fun _ => by omega) (fun _ => by omega) (by rw [val_zero, val_eq, Rat.mul_zero, Rat.add_zero])) (raw_Sz (by assumption) (fun _ => by omega) (by omega) (by omega) (by omega) (by omega))
  · clear ot4
    have ht1 : 0 < tm := by omega
    have m1 := Int.mul_pos hs0 (p2_pos (p + 4).toNat)
    have m2 := Int.mul_pos ht1 (p2_pos (p + 4).toNat)
    repeat' ((fail_if_success (with_reducible show wpAny _ _ (execs (Stmt.If (Expr.Compare (Expr.Name (X 27) _) [CmpOp.Eq] [Expr.Name (X 32) _] _) (Stmt.Assign _ _ _ :: _) _ _ :: _) _) _ _ _)); (fail_if_success (with_reducible show wpAny _ _ (execs (Stmt.If (Expr.BoolOp _ [Expr.Compare (Expr.Name (X 44) _) _ _ _, _] _) _ _ _ :: _) _) _ _ _)); kat_tups)
    · -- the same exponent
      refine s_join (fun hh => ∃ (mm sg' : Int) (y1 y2 : Tok), Fm w ⟨h, []⟩ env [24, 13, 10, 11, 43, 27, 29, 30, 31, 32, 33, 34, 35, 44, 28, 7, 9] [20, 45, 38] [(7, .int mm y1), (27, .int sg' y2), (34, .int te v3), (10, .int p w1), (11, .str r.str w2)] [] hh ∧ Hd (sg' = 0 ∨ sg' = 1) ∧ 0 ≤ mm ∧ sv sg' mm = sm * 2 ^ 0 + sv (Builtin.bitXor tg sub) tm) ?_ ?_
      · krn_off
        all_goals first
          | exact jn ⟨_, 0, _, _, by isplit, .inl rfl, by omega, by (unfold sv; (repeat' split) <;> first | omega | (simp only [Int.neg_mul]; omega) | (rcases hx.out with hq | hq <;> simp only [Int.neg_mul] at * <;> omega))⟩
          | exact jn ⟨_, 1, _, _, by isplit, .inr rfl, by omega, by (unfold sv; (repeat' split) <;> first | omega | (simp only [Int.neg_mul]; omega) | (rcases hx.out with hq | hq <;> simp only [Int.neg_mul] at * <;> omega))⟩
      · rintro hh tt ⟨mm, sg', y1, y2, F9, hsg', hmm, hsv⟩
        have hib : intBits mm ≤ (3 * B).toNat + 2 := ib_sum (N := (3 * B).toNat + 1) hsv (by omega) (by omega)
        have hib' : intBits mm ≤ 400000 := by omega
        have hpos : Hd (0 < mm → (1 : Int) ≤ intBits mm) := fun hm => Int.ofNat_le.mpr (ib_pos hm)
        krn_off
        all_goals exact q _ _ _ _ _ _ _ _ (Fm.kp (by assumption)) (by assumption) (raw_res (by assumption) hsg' hmm hp0 (fun _ => by omega) (fun _ => by omega) (add_val_hi ot1.out hsub.out (by omega) hsv)) (raw_Sz (by assumption) (fun _ => by first | omega | exact hpos.out (by assumption)) (by omega) (by omega) (by omega) (by omega))
    · rename Fm _ _ _ _ _ ((44, _) :: _) _ _ => F8
      have hk : ((se - te).toNat : Int) = (se - te) := by omega
      have m3 := Int.mul_pos hs0 (p2_pos (se - te).toNat)
      have hpd : Hd (¬ p = 0 → sb ≤ p ∨ sb + se = tb + te) := by rcases hP.out with e | e | e <;> intro e' <;> omega
      refine s_join (fun hh => ∃ (u8 u9 : Tok), Fm w ⟨h, []⟩ env [24, 13, 10, 11, 43, 27, 29, 30, 31, 32, 33, 34, 35, 44, 28, 7, 9] [20, 45, 38] [(44, .int (se - te) u8), (35, .int tb v4), (34, .int te v3), (33, .int tm v2), (32, .int (Builtin.bitXor tg sub) u9), (31, .int sb u4), (30, .int se u3), (29, .int sm u2), (27, .int 0 u1), (11, .str r.str w2), (10, .int p w1)] [] hh) ?_ ?_
      · krn_off
        all_goals first
          | exact jn ⟨_, _, by isplit⟩
          | (have hb1 : sb ≤ p := by rcases hpd.out (by assumption) with e | e <;> omega
             exact q _ _ _ _ _ _ _ _ (Fm.kp (by assumption)) (by assumption) (pert_hi (es := 1) (by assumption) hs0 ht1 os2 ot3 (by omega) hb1 ot1.out hsub.out (by omega) (.inl ⟨by first | assumption | omega, rfl⟩)) (raw_Sz (by assumption) (fun _ => by omega) (by omega) (by have := ib_pert (a := sm) (p := p) (es := 1) (N := 2 * B + 5) (by omega) hp0 (.inl rfl); omega) (by have := ib_pert (a := sm) (p := p) (es := 1) (N := 2 * B + 5) (by omega) hp0 (.inl rfl); omega) (by omega)))
          | (have hb1 : sb ≤ p := by rcases hpd.out (by assumption) with e | e <;> omega
             exact q _ _ _ _ _ _ _ _ (Fm.kp (by assumption)) (by assumption) (pert_hi (es := -1) (by assumption) hs0 ht1 os2 ot3 (by omega) hb1 ot1.out hsub.out (by omega) (.inr ⟨by first | assumption | omega, rfl⟩)) (raw_Sz (by assumption) (fun _ => by omega) (by omega) (by have : _ ≤ _ := ib_pert (a := sm) (p := p) (es := -1) (N := 2 * B + 5) (by omega) hp0 (.inr rfl); rw [← Int.sub_eq_add_neg] at this; omega) (by have : _ ≤ _ := ib_pert (a := sm) (p := p) (es := -1) (N := 2 * B + 5) (by omega) hp0 (.inr rfl); rw [← Int.sub_eq_add_neg] at this; omega) (by omega)))
      · rintro hh tt ⟨u8, u9, F7⟩
        refine s_join (fun hh => ∃ (mm sg' : Int) (y1 y2 : Tok), Fm w ⟨h, []⟩ env [24, 13, 10, 11, 43, 27, 29, 30, 31, 32, 33, 34, 35, 44, 28, 7, 9] [20, 45, 38] [(7, .int mm y1), (27, .int sg' y2), (34, .int te v3), (10, .int p w1), (11, .str r.str w2)] [] hh ∧ Hd (sg' = 0 ∨ sg' = 1) ∧ 0 ≤ mm ∧ sv sg' mm = sm * 2 ^ (se - te).toNat + sv (Builtin.bitXor tg sub) tm) ?_ ?_
        · krn_off
          all_goals first
            | exact jn ⟨_, 0, _, _, by isplit, .inl rfl, by omega, by (unfold sv; (repeat' split) <;> first | omega | (simp only [Int.neg_mul]; omega) | (rcases hx.out with hq | hq <;> simp only [Int.neg_mul] at * <;> omega))⟩
            | exact jn ⟨_, 1, _, _, by isplit, .inr rfl, by omega, by (unfold sv; (repeat' split) <;> first | omega | (simp only [Int.neg_mul]; omega) | (rcases hx.out with hq | hq <;> simp only [Int.neg_mul] at * <;> omega))⟩
        · rintro hh tt ⟨mm, sg', y1, y2, F9, hsg', hmm, hsv⟩
          have hib : intBits mm ≤ (3 * B).toNat + 2 := ib_sum (N := (3 * B).toNat + 1) hsv (by omega) (by omega)
          have hib' : intBits mm ≤ 400000 := by omega
          have hpos : Hd (0 < mm → (1 : Int) ≤ intBits mm) := fun hm => Int.ofNat_le.mpr (ib_pos hm)
          krn_off
          all_goals exact q _ _ _ _ _ _ _ _ (Fm.kp (by assumption)) (by assumption) (raw_res (by assumption) hsg' hmm hp0 (fun _ => by omega) (fun _ => by omega) (add_val_hi (k := (se - te).toNat) ot1.out hsub.out (by omega) hsv)) (raw_Sz (by assumption) (fun _ => by first | omega | exact hpos.out (by assumption)) (by omega) (by omega) (by omega) (by omega))
    · rename Fm _ _ _ _ _ ((44, _) :: _) _ _ => F8
      have hk : ((-(se - te)).toNat : Int) = (-(se - te)) := by omega
      have m3 := Int.mul_pos ht1 (p2_pos (-(se - te)).toNat)
      have hpd : Hd (¬ p = 0 → tb ≤ p ∨ sb + se = tb + te) := by rcases hP.out with e | e | e <;> intro e' <;> omega
      refine s_join (fun hh => ∃ (u8 u9 : Tok), Fm w ⟨h, []⟩ env [24, 13, 10, 11, 43, 27, 29, 30, 31, 32, 33, 34, 35, 44, 28, 7, 9] [20, 45, 38] [(44, .int (se - te) u8), (35, .int tb v4), (34, .int te v3), (33, .int tm v2), (32, .int (Builtin.bitXor tg sub) u9), (31, .int sb u4), (30, .int se u3), (29, .int sm u2), (27, .int 0 u1), (11, .str r.str w2), (10, .int p w1)] [] hh) ?_ ?_
      · krn_off
        all_goals first
          | exact jn ⟨_, _, by isplit⟩
          | (have hb1 : tb ≤ p := by rcases hpd.out (by assumption) with e | e <;> omega
             exact q _ _ _ _ _ _ _ _ (Fm.kp (by assumption)) (by assumption) (pert_lo (es := 1) (by assumption) hs0 ht1 os2 ot3 (by omega) hb1 ot1.out hsub.out (by omega) (.inl ⟨by first | assumption | omega, rfl⟩)) (raw_Sz (by assumption) (fun _ => by omega) (by omega) (by have := ib_pert (a := tm) (p := p) (es := 1) (N := 2 * B + 5) (by omega) hp0 (.inl rfl); omega) (by have := ib_pert (a := tm) (p := p) (es := 1) (N := 2 * B + 5) (by omega) hp0 (.inl rfl); omega) (by omega)))
          | (have hb1 : tb ≤ p := by rcases hpd.out (by assumption) with e | e <;> omega
             exact q _ _ _ _ _ _ _ _ (Fm.kp (by assumption)) (by assumption) (pert_lo (es := -1) (by assumption) hs0 ht1 os2 ot3 (by omega) hb1 ot1.out hsub.out (by omega) (.inr ⟨by first | assumption | omega, rfl⟩)) (raw_Sz (by assumption) (fun _ => by omega) (by omega) (by have : _ ≤ _ := ib_pert (a := tm) (p := p) (es := -1) (N := 2 * B + 5) (by omega) hp0 (.inr rfl); rw [← Int.sub_eq_add_neg] at this; omega) (by have : _ ≤ _ := ib_pert (a := tm) (p := p) (es := -1) (N := 2 * B + 5) (by omega) hp0 (.inr rfl); rw [← Int.sub_eq_add_neg] at this; omega) (by omega)))
      · rintro hh tt ⟨u8, u9, F7⟩
        refine s_join (fun hh => ∃ (mm sg' : Int) (y1 y2 : Tok), Fm w ⟨h, []⟩ env [24, 13, 10, 11, 43, 27, 29, 30, 31, 32, 33, 34, 35, 44, 28, 7, 9] [20, 45, 38] [(7, .int mm y1), (27, .int sg' y2), (30, .int se u3), (10, .int p w1), (11, .str r.str w2)] [] hh ∧ Hd (sg' = 0 ∨ sg' = 1) ∧ 0 ≤ mm ∧ sv sg' mm = sv (Builtin.bitXor tg sub) tm * 2 ^ (-(se - te)).toNat + sv 0 sm) ?_ ?_
        · krn_off
          all_goals first
            | exact jn ⟨_, 0, _, _, by isplit, .inl rfl, by omega, by (unfold sv; (repeat' split) <;> first | omega | (simp only [Int.neg_mul]; omega) | (rcases hx.out with hq | hq <;> simp only [Int.neg_mul] at * <;> omega))⟩
            | exact jn ⟨_, 1, _, _, by isplit, .inr rfl, by omega, by (unfold sv; (repeat' split) <;> first | omega | (simp only [Int.neg_mul]; omega) | (rcases hx.out with hq | hq <;> simp only [Int.neg_mul] at * <;> omega))⟩
        · rintro hh tt ⟨mm, sg', y1, y2, F9, hsg', hmm, hsv⟩
          have hib : intBits mm ≤ (3 * B).toNat + 2 := ib_sum (N := (3 * B).toNat + 1) hsv (by rw [ib_sv]; omega) (by omega)
          have hib' : intBits mm ≤ 400000 := by omega
          have hpos : Hd (0 < mm → (1 : Int) ≤ intBits mm) := fun hm => Int.ofNat_le.mpr (ib_pos hm)
          krn_off
          all_goals exact q _ _ _ _ _ _ _ _ (Fm.kp (by assumption)) (by assumption) (raw_res (by assumption) hsg' hmm hp0 (fun _ => by omega) (fun _ => by omega) (add_val_lo (k := (-(se - te)).toNat) ot1.out hsub.out (by omega) hsv)) (raw_Sz (by assumption) (fun _ => by first | omega | exact hpos.out (by assumption)) (by omega) (by omega) (by omega) (by omega))
end
section
variable {w : World} {A : Around} {E : Value → Shared → Prop} {s₀ : Shared} {h : Heap} {t : Nat}
theorem c_addv {r : Rd} {a b : Addr} {xs xt : Mpf} {p sub B : Int} {u1 u2 u3 u4 v1 v2 v3 v4 w1 w2 w3 : Tok} {vals : List Value} {Q : Value → Shared → Prop} (R : Rm 4 A) (G : Gl w h)
  (hvals : Binds w 159 (St s₀ h t) vals [(43, .int sub w3), (11, .str r.str w2), (10, .int p w1), (13, .ref b), (24, .ref a)])
  (Ts : IsTup h a #[.int xs.sg u1, .int xs.mn u2, .int xs.ex u3, .int xs.bc u4]) (Tt : IsTup h b #[.int xt.sg v1, .int xt.mn v2, .int xt.ex v3, .int xt.bc v4])
  (fs : Pf B xs) (ft : Nf B xt) (hsub : Hd (sub = 0 ∨ sub = 1)) (hp0 : 0 ≤ p) (hpB : p ≤ B) (hB : B ≤ 100000) (hP : Hd (p = 0 ∨ (xs.bc ≤ p ∧ xt.bc ≤ p) ∨ xs.bc + xs.ex = xt.bc + xt.ex))
  (q : ∀ a h' t' x u1 u2 u3 u4, Kp h h' → IsTup h' a #[.int x.sg u1, .int x.mn u2, .int x.ex u3, .int x.bc u4] →
    Res r p (xs.val + (if sub = 0 then 1 else -1) * xt.val) x → Nf (4 * B + 10) x → Q (.ref a) (St s₀ h' t')) :
  wpAny (MM w) A (call (.ref 159) vals) Q E (St s₀ h t) := by
  obtain ⟨sg, sm, se, sb⟩ := xs
  obtain ⟨tg, tm, te, tb⟩ := xt
  obtain ⟨os, rfl, hm, zs⟩ := fs
  exact c_mpf_add R G hvals Ts Tt os ft.ok hm hsub hp0 hpB hB zs ft.sz hP fun a h' t' x u1 u2 u3 u4 k T rs z => q a h' t' x u1 u2 u3 u4 k T rs ⟨rs.ok, z⟩
theorem binds5 {r : Rd} {a b : Addr} {p sub : Int} {w1 w2 w3 : Tok} {s : Shared} (G : Gl w s.heap) : Binds w 159 s [.ref a, .ref b, .int p w1, .str r.str w2, .int sub w3] [(43, .int sub w3), (11, .str r.str w2), (10, .int p w1), (13, .ref b), (24, .ref a)] := by
  intro o fd ho hd
  have ho' : (KK w).lookup 159 = some o := ho
  simp only [show (KK w).lookup 159 = some _ from rfl, Option.some.injEq] at ho'
  subst ho'
  cases hd
  exact binds_K G.k rfl rfl rfl rfl rfl
theorem binds4 {r : Rd} {a b : Addr} {p : Int} {w1 w2 : Tok} {s : Shared} (G : Gl w s.heap) : ∃ w3, Binds w 159 s [.ref a, .ref b, .int p w1, .str r.str w2] [(43, .int 0 w3), (11, .str r.str w2), (10, .int p w1), (13, .ref b), (24, .ref a)] := by
  refine ⟨431, ?_⟩
  intro o fd ho hd
  have ho' : (KK w).lookup 159 = some o := ho
  simp only [show (KK w).lookup 159 = some _ from rfl, Option.some.injEq] at ho'
  subst ho'
  cases hd
  exact binds_K G.k rfl rfl rfl rfl rfl
theorem c_add {r : Rd} {a b : Addr} {xs xt : Mpf} {p sub B : Int} {u1 u2 u3 u4 v1 v2 v3 v4 w1 w2 w3 : Tok} {Q : Value → Shared → Prop} (R : Rm 4 A) (G : Gl w h)
  (Ts : IsTup h a #[.int xs.sg u1, .int xs.mn u2, .int xs.ex u3, .int xs.bc u4]) (Tt : IsTup h b #[.int xt.sg v1, .int xt.mn v2, .int xt.ex v3, .int xt.bc v4])
  (fs : Pf B xs) (ft : Nf B xt) (hsub : Hd (sub = 0 ∨ sub = 1)) (hp0 : 0 ≤ p) (hpB : p ≤ B) (hB : B ≤ 100000) (hP : Hd (p = 0 ∨ (xs.bc ≤ p ∧ xt.bc ≤ p) ∨ xs.bc + xs.ex = xt.bc + xt.ex))
  (q : ∀ a h' t' x u1 u2 u3 u4, Kp h h' → IsTup h' a #[.int x.sg u1, .int x.mn u2, .int x.ex u3, .int x.bc u4] →
    Res r p (xs.val + (if sub = 0 then 1 else -1) * xt.val) x → Nf (4 * B + 10) x → Q (.ref a) (St s₀ h' t')) :
  wpAny (MM w) A (call (.ref 159) [.ref a, .ref b, .int p w1, .str r.str w2, .int sub w3]) Q E (St s₀ h t) :=
  c_addv R G (binds5 G) Ts Tt fs ft hsub hp0 hpB hB hP q
theorem c_add4 {r : Rd} {a b : Addr} {xs xt : Mpf} {p B : Int} {u1 u2 u3 u4 v1 v2 v3 v4 w1 w2 : Tok} {Q : Value → Shared → Prop} (R : Rm 4 A) (G : Gl w h)
  (Ts : IsTup h a #[.int xs.sg u1, .int xs.mn u2, .int xs.ex u3, .int xs.bc u4]) (Tt : IsTup h b #[.int xt.sg v1, .int xt.mn v2, .int xt.ex v3, .int xt.bc v4])
  (fs : Pf B xs) (ft : Nf B xt) (hp0 : 0 ≤ p) (hpB : p ≤ B) (hB : B ≤ 100000) (hP : Hd (p = 0 ∨ (xs.bc ≤ p ∧ xt.bc ≤ p) ∨ xs.bc + xs.ex = xt.bc + xt.ex))
  (q : ∀ a h' t' x u1 u2 u3 u4, Kp h h' → IsTup h' a #[.int x.sg u1, .int x.mn u2, .int x.ex u3, .int x.bc u4] →
    Res r p (xs.val + xt.val) x → Nf (4 * B + 10) x → Q (.ref a) (St s₀ h' t')) :
  wpAny (MM w) A (call (.ref 159) [.ref a, .ref b, .int p w1, .str r.str w2]) Q E (St s₀ h t) := by
  obtain ⟨w3, hb⟩ := binds4 (r := r) (a := a) (b := b) (p := p) (w1 := w1) (w2 := w2) (s := St s₀ h t) G
  refine c_addv R G hb Ts Tt fs ft (.inl rfl) hp0 hpB hB hP fun a h' t' x u1 u2 u3 u4 k T rs z => q a h' t' x u1 u2 u3 u4 k T ?_ z
  have e : xs.val + (if (0 : Int) = 0 then 1 else -1) * xt.val = xs.val + xt.val := by rw [if_pos rfl]; grind
  exact e ▸ rs
theorem c_mpf_sub {r : Rd} {a b : Addr} {xs xt : Mpf} {p B : Int} {u1 u2 u3 u4 v1 v2 v3 v4 w1 w2 : Tok} {Q : Value → Shared → Prop} (R : Rm 5 A) (G : Gl w h)
  (Ts : IsTup h a #[.int xs.sg u1, .int xs.mn u2, .int xs.ex u3, .int xs.bc u4]) (Tt : IsTup h b #[.int xt.sg v1, .int xt.mn v2, .int xt.ex v3, .int xt.bc v4])
  (fs : Pf B xs) (ft : Nf B xt) (hp0 : 0 ≤ p) (hpB : p ≤ B) (hB : B ≤ 100000) (hP : Hd (p = 0 ∨ (xs.bc ≤ p ∧ xt.bc ≤ p) ∨ xs.bc + xs.ex = xt.bc + xt.ex))
  (q : ∀ a h' t' x u1 u2 u3 u4, Kp h h' → IsTup h' a #[.int x.sg u1, .int x.mn u2, .int x.ex u3, .int x.bc u4] →
    Res r p (xs.val - xt.val) x → Nf (4 * B + 10) x → Q (.ref a) (St s₀ h' t')) :
  wpAny (MM w) A (call (.ref 167) [.ref a, .ref b, .int p w1, .str r.str w2]) Q E (St s₀ h t) := by
  refine' enter [24, 13, 10, 11] [46] [(11, .str r.str w2), (10, .int p w1), (13, .ref b), (24, .ref a)] R G rfl ?hcd ?hb ?hlo ?hgl ?hms ?hco ?hgen ?hk ?hcell ?_
  kxs_still
  intro A' env h₁ t' E' R' F
  replace F := (F.add (IsTup.keeps Ts F.kp)).add (IsTup.keeps Tt F.kp)
  leaf_len
  krn_off
  refine' c_add (B := B) ?R ?G ?T1 ?T2 fs ft (.inr rfl) hp0 hpB hB hP ?_
  case R => kst_all1
  case G => kd_adr
  case T1 => kbo_bools
  case T2 => kbo_bools
  intro a h' t' x u1 u2 u3 u4 k T rs z
  have F' := Fm.after (by assumption) k
  krn_off
  have e : xs.val + (if (1 : Int) = 0 then 1 else -1) * xt.val = xs.val - xt.val := by rw [if_neg (by decide)]; grind
  exact q _ _ _ _ _ _ _ _ F'.kp T (e ▸ rs) z
theorem c_mpf_mul0 {r : Rd} {a b : Addr} {xs xt : Mpf} {B : Int} {u1 u2 u3 u4 v1 v2 v3 v4 w1 w2 : Tok} {Q : Value → Shared → Prop} (R : Rm 1 A) (G : Gl w h)
  (Ts : IsTup h a #[.int xs.sg u1, .int xs.mn u2, .int xs.ex u3, .int xs.bc u4]) (Tt : IsTup h b #[.int xt.sg v1, .int xt.mn v2, .int xt.ex v3, .int xt.bc v4])
  (fs : Pf B xs) (ft : Pf B xt) (hB : B ≤ 100000)
  (q : ∀ a h' t' x u1 u2 u3 u4, Kp h h' → IsTup h' a #[.int x.sg u1, .int x.mn u2, .int x.ex u3, .int x.bc u4] → x.val = xs.val * xt.val → Pf (2 * B) x → Q (.ref a) (St s₀ h' t')) :
  wpAny (MM w) A (call (.ref 175) [.ref a, .ref b, .int 0 w1, .str r.str w2]) Q E (St s₀ h t) := by
  obtain ⟨sg, sm, se, sb⟩ := xs
  obtain ⟨tg, tm, te, tb⟩ := xt
  obtain ⟨⟨-, -, os2, -, os5⟩, rfl, hm, ⟨zs1, zs2, zs3⟩⟩ := fs
  obtain ⟨⟨-, -, ot2, -, ot5⟩, rfl, hm', ⟨zt1, zt2, zt3⟩⟩ := ft
  dsimp only at hm hm' os2 ot2 os5 ot5 zs1 zs2 zs3 zt1 zt2 zt3 Ts Tt
  have bs : intBits sm ≤ 100000 := by omega
  have bt : intBits tm ≤ 100000 := by omega
  have hpos := Int.mul_pos hm hm'
  refine' enter [24, 13, 10, 11, 27, 29, 30, 31, 32, 33, 34, 35, 6, 7, 9, 47, 48] [20] [(11, .str r.str w2), (10, .int 0 w1), (13, .ref b), (24, .ref a)] R G rfl ?hcd ?hb ?hlo ?hgl ?hms ?hco ?hgen ?hk ?hcell ?_
  kxs_still
  intro A' env h₁ t' E' R' F
  replace F := (F.add (IsTup.keeps Ts F.kp)).add (IsTup.keeps Tt F.kp)
  leaf_len
  krn_off
  rename Fm _ _ _ _ _ _ _ _ => F9
  rw [xor00] at F9
  have hb := bits_mul (a := sm) (b := tm) (Nat.le_refl _) (Nat.le_refl _)
  refine q _ _ _ ⟨0, sm * tm, se + te, intBits (sm * tm)⟩ _ _ _ _ F9.kp (F9.tup (.head _)) mul_val ⟨⟨.inl rfl, Int.le_of_lt hpos, rfl, fun e => absurd e (Int.ne_of_gt hpos), fun _ => ?_⟩, rfl, hpos, ⟨?_, ?_, ?_⟩⟩
  · have h1 := os5 (by omega)
    have h2 := ot5 (by omega)
    show sm * tm % 2 = 1
    rw [Int.mul_emod, h1, h2]; rfl
  all_goals (dsimp only; omega)
theorem c_mpf_shift {a : Addr} {x : Mpf} {n B : Int} {u1 u2 u3 u4 w1 : Tok} {Q : Value → Shared → Prop} (R : Rm 1 A) (G : Gl w h) (T : IsTup h a #[.int x.sg u1, .int x.mn u2, .int x.ex u3, .int x.bc u4])
  (f : Pf B x) (hn : -1 ≤ n ∧ n ≤ 1) (q : ∀ a h' t' y u1 u2 u3 u4, Kp h h' → IsTup h' a #[.int y.sg u1, .int y.mn u2, .int y.ex u3, .int y.bc u4] → y = ⟨x.sg, x.mn, x.ex + n, x.bc⟩ → Pf (B + 1) y → Q (.ref a) (St s₀ h' t')) :
  wpAny (MM w) A (call (.ref 182) [.ref a, .int n w1]) Q E (St s₀ h t) := by
  obtain ⟨⟨o1, o2, o3, o4, o5⟩, hsg, hm, ⟨z1, z2, z3⟩⟩ := f
  refine' enter [24, 0, 6, 7, 8, 9] [] [(0, .int n w1), (24, .ref a)] R G rfl ?hcd ?hb ?hlo ?hgl ?hms ?hco ?hgen ?hk ?hcell ?_
  kxs_still
  intro A' env h₁ t' E' R' F
  replace F := F.add (IsTup.keeps T F.kp)
  leaf_len
  krn_off
  exact q _ _ _ ⟨x.sg, x.mn, x.ex + n, x.bc⟩ _ _ _ _ (Fm.kp (by assumption)) (Fm.tup (by assumption) (.head _)) rfl ⟨⟨o1, o2, o3, fun e => absurd e (Int.ne_of_gt hm), o5⟩, hsg, hm, ⟨by dsimp only; omega, by dsimp only; omega, by dsimp only; omega⟩⟩
end

local macro_rules | `(tactic| kp_flats) => `(tactic| ((with_reducible first | refine' c_mpf_sub (r := .f) ?R ?G ?T ?T' ?f ?f' ?p ?p' ?B ?P ?_ | refine' c_mpf_sub (r := .c) ?R ?G ?T ?T' ?f ?f' ?p ?p' ?B ?P ?_ | refine' c_mpf_sub ?R ?G ?T ?T' ?f ?f' ?p ?p' ?B ?P ?_); (case R => kst_all1); (case G => kd_adr); (case T => kbo_bools); (case T' => kbo_bools); (case f => fold_depth); (case f' => fold_depth); (case p => fold_depth); (case p' => fold_depth); (case B => fold_depth); (case P => fold_depth); intro _ _ _ _ _ _ _ _ k' T' S' N'; (have F' := Fm.add (Fm.after (by assumption) k') T')))

local macro_rules | `(tactic| kp_flats) => `(tactic| ((with_reducible first | refine' c_mpf_mul0 (r := .f) ?R ?G ?T ?T' ?f ?f' ?B ?_ | refine' c_mpf_mul0 (r := .c) ?R ?G ?T ?T' ?f ?f' ?B ?_ | refine' c_mpf_mul0 ?R ?G ?T ?T' ?f ?f' ?B ?_); (case R => kst_all1); (case G => kd_adr); (case T => kbo_bools); (case T' => kbo_bools); (case f => fold_depth); (case f' => fold_depth); (case B => fold_depth); intro _ _ _ _ _ _ _ _ k' T' S' N'; (have o' := Mpf.Ok.bc (Pf.ok N')); (have F' := Fm.add (Fm.after (by assumption) k') T')))

local macro_rules | `(tactic| kp_flats) => `(tactic| ((with_reducible refine' c_mpf_shift ?R ?G ?T ?f ?n ?_); (case R => kst_all1); (case G => kd_adr); (case T => kbo_bools); (case f => fold_depth); (case n => decide); intro _ _ _ _ _ _ _ _ k' T' S' N'; (have F' := Fm.add (Fm.after (by assumption) k') T')))


local macro_rules | `(tactic| kp_flats) => `(tactic| ((with_reducible refine' c_add4 (r := .n) ?R ?G ?T ?T' ?f ?f' ?p ?p' ?B ?P ?_); (case R => kst_all1); (case G => kd_adr); (case T => kbo_bools); (case T' => kbo_bools); (case f => fold_depth); (case f' => fold_depth); (case p => fold_depth); (case p' => fold_depth); (case B => fold_depth); (case P => fold_depth); intro _ _ _ _ _ _ _ _ k' T' S' N'; (have F' := Fm.add (Fm.after (by assumption) k') T')))

section
variable {w : World} {A : Around} {E : Value → Shared → Prop} {s₀ : Shared} {h : Heap} {t : Nat}
theorem log2_lt_of_ib {x : Int} (h : intBits x ≤ 5000) (h0 : x ≠ 0) : x.natAbs.log2 < 9000 := by
  unfold intBits at h
  rw [if_neg (by simpa using h0)] at h
  omega
theorem ib_fdiv_le {a b : Int} {m : Nat} (h : intBits a ≤ m) : intBits (a.fdiv b) ≤ m := bits_fdiv h
theorem ib_2p1 {z : Int} {N : Nat} (h : intBits z ≤ N) : intBits (z * 2 ^ (1 : Int).toNat + 1) ≤ N + 3 := by
  have h1 := bits_mul (a := z) (b := 2 ^ (1 : Int).toNat) h (show intBits (2 ^ (1 : Int).toNat) ≤ 2 by decide +kernel)
  have h2 := bits_add h1 (show intBits (1 : Int) ≤ 1 by decide +kernel)
  omega
theorem c_mpf_div {r : Rd} {a b : Addr} {xs xt : Mpf} {p B : Int} {u1 u2 u3 u4 v1 v2 v3 v4 w1 w2 : Tok} {Q : Value → Shared → Prop} (R : Rm 4 A) (G : Gl w h)
  (Ts : IsTup h a #[.int xs.sg u1, .int xs.mn u2, .int xs.ex u3, .int xs.bc u4]) (Tt : IsTup h b #[.int xt.sg v1, .int xt.mn v2, .int xt.ex v3, .int xt.bc v4])
  (fs : Nf B xs) (hs0 : 0 < xs.mn) (ft : Pf B xt) (hp : 1 ≤ p) (hpB : p ≤ B) (hB : B ≤ 5000)
  (q : ∀ a h' t' x u1 u2 u3 u4, Kp h h' → IsTup h' a #[.int x.sg u1, .int x.mn u2, .int x.ex u3, .int x.bc u4] →
    Rnd r p (xs.val / xt.val) x → Nf (6 * B + 20) x → Q (.ref a) (St s₀ h' t')) :
  wpAny (MM w) A (call (.ref 190) [.ref a, .ref b, .int p w1, .str r.str w2]) Q E (St s₀ h t) := by
  obtain ⟨sg, sm, se, sb⟩ := xs
  obtain ⟨tg, tm, te, tb⟩ := xt
  obtain ⟨⟨os1, -, os2, -, -⟩, ⟨zs1, zs2, zs3⟩⟩ := fs
  obtain ⟨⟨-, -, ot2, -, -⟩, rfl, hm', ⟨zt1, zt2, zt3⟩⟩ := ft
  dsimp only at hs0 hm' os1 os2 ot2 zs1 zs2 zs3 zt1 zt2 zt3 Ts Tt
  have bs : intBits sm ≤ 5000 := by omega
  have bt : intBits tm ≤ 5000 := by omega
  have bsp := ib_pos hs0
  have btp := ib_pos hm'
  have hlg := log2_lt_of_ib bt (by omega)
  have hx0 : Builtin.bitXor sg 0 = sg := by rcases os1 with rfl | rfl <;> decide +kernel
  have hx : Hd (Builtin.bitXor sg 0 = 0 ∨ Builtin.bitXor sg 0 = 1) := by rw [hx0]; exact os1
  replace os1 := Hd.mk os1
  have n1 := fdiv_nn (Int.le_of_lt (Int.mul_pos hs0 (p2_pos (5 : Int).toNat))) hm'
  have n2 := fdiv_nn (Int.le_of_lt (Int.mul_pos hs0 (p2_pos (p - sb + tb + 5).toNat))) hm'
  have n3 : 0 ≤ (sm * 2 ^ (5 : Int).toNat).fdiv tm * 2 ^ (1 : Int).toNat + 1 := Int.le_add_one (Int.mul_nonneg n1 (Int.le_of_lt (p2_pos _)))
  have n4 : 0 ≤ (sm * 2 ^ (p - sb + tb + 5).toNat).fdiv tm * 2 ^ (1 : Int).toNat + 1 := Int.le_add_one (Int.mul_nonneg n2 (Int.le_of_lt (p2_pos _)))
  have b1 : intBits ((sm * 2 ^ (5 : Int).toNat).fdiv tm) ≤ (4 * B + 8).toNat := ib_fdiv_le (Nat.le_trans (bits_mul (Nat.le_refl _) (Nat.le_of_eq (ib_p2 _))) (by omega))
  have b2 : 5 ≤ p - sb + tb + 5 → intBits ((sm * 2 ^ (p - sb + tb + 5).toNat).fdiv tm) ≤ (4 * B + 8).toNat := fun _ => ib_fdiv_le (Nat.le_trans (bits_mul (Nat.le_refl _) (Nat.le_of_eq (ib_p2 _))) (by omega))
  have b3 := ib_2p1 b1
  have b4 := fun e => ib_2p1 (b2 e)
  replace b2 := Hd.mk b2
  replace b4 := Hd.mk b4
  refine' enter [24, 13, 10, 11, 27, 29, 30, 31, 32, 33, 34, 35, 47, 48, 6, 50, 51, 49, 9] [20, 52] [(11, .str r.str w2), (10, .int p w1), (13, .ref b), (24, .ref a)] R G rfl ?hcd ?hb ?hlo ?hgl ?hms ?hco ?hgen ?hk ?hcell ?_
  kxs_still
  intro A' env h₁ t' E' R' F
  replace F := (F.add (IsTup.keeps Ts F.kp)).add (IsTup.keeps Tt F.kp)
  leaf_len
  krn_off
  · rename tm = 1 => e1
    rename Raw _ _ _ _ _ _ => S'
    subst e1
    rw [hx0] at S'
    exact q _ _ _ _ _ _ _ _ (Fm.kp (by assumption)) (by assumption) (div_one S' os1.out hs0 hp) ⟨raw_ok S' os1.out, raw_Sz S' (fun _ => hp) (by omega) (by omega) (by omega) (by omega)⟩
  · rename Raw _ _ _ _ _ _ => S'
    rw [hx0] at S'
    exact q _ _ _ _ _ _ _ _ (Fm.kp (by assumption)) (by assumption) (div_exact S' os1.out hs0 hm' os2 ot2 hp (by omega) (by omega) (by assumption)) ⟨raw_ok S' os1.out, raw_Sz S' (fun _ => hp) (by omega) (by omega) (by omega) (by omega)⟩
  · rename Raw _ _ _ _ _ _ => S'
    rw [hx0] at S'
    exact q _ _ _ _ _ _ _ _ (Fm.kp (by assumption)) (by assumption) (div_sticky S' os1.out hs0 hm' os2 ot2 hp (by omega) (by omega) (by assumption)) ⟨raw_ok S' os1.out, raw_Sz S' (fun _ => hp) (by omega) (by omega) (by omega) (by omega)⟩
  · rename Raw _ _ _ _ _ _ => S'
    rw [hx0] at S'
    have b2 := b2.out (by omega)
    exact q _ _ _ _ _ _ _ _ (Fm.kp (by assumption)) (by assumption) (div_exact S' os1.out hs0 hm' os2 ot2 hp (by omega) (by omega) (by assumption)) ⟨raw_ok S' os1.out, raw_Sz S' (fun _ => hp) (by omega) (by omega) (by omega) (by omega)⟩
  · rename Raw _ _ _ _ _ _ => S'
    rw [hx0] at S'
    have b4 := b4.out (by omega)
    exact q _ _ _ _ _ _ _ _ (Fm.kp (by assumption)) (by assumption) (div_sticky S' os1.out hs0 hm' os2 ot2 hp (by omega) (by omega) (by assumption)) ⟨raw_ok S' os1.out, raw_Sz S' (fun _ => hp) (by omega) (by omega) (by omega) (by omega)⟩
end
def CmpIs (c : Int) (x y : Mpf) : Prop := (0 ≤ c ↔ y.val ≤ x.val) ∧ (c ≤ 0 ↔ x.val ≤ y.val)
theorem cmp_gt {x y : Mpf} (h : y.val < x.val) : CmpIs 1 x y := by
  unfold CmpIs
  generalize x.val = a at *
  generalize y.val = b at *
  refine ⟨⟨fun _ => ?_, fun _ => by decide⟩, ⟨fun h => absurd h (by decide), fun h' => ?_⟩⟩ <;> grind
theorem cmp_lt {x y : Mpf} (h : x.val < y.val) : CmpIs (-1) x y := by
  unfold CmpIs
  generalize x.val = a at *
  generalize y.val = b at *
  refine ⟨⟨fun h => absurd h (by decide), fun h' => ?_⟩, ⟨fun _ => ?_, fun _ => by decide⟩⟩ <;> grind
theorem cmp_eq {x y : Mpf} (h : x.val = y.val) : CmpIs 0 x y := by
  refine ⟨⟨fun _ => ?_, fun _ => by decide⟩, ⟨fun _ => ?_, fun _ => by decide⟩⟩ <;> rw [h] <;> exact Rat.le_refl
theorem pos_val {x : Mpf} (h : 0 < x.mn) (hs : x.sg = 0) : 0 < x.val := by
  unfold Mpf.val sv
  rw [if_pos hs]
  exact Rat.mul_pos (ic_lt h) (zp_pos _)
theorem neg_val {x : Mpf} (h : 0 < x.mn) (hs : ¬ x.sg = 0) : x.val < 0 := by
  unfold Mpf.val sv
  rw [if_neg hs, Rat.intCast_neg, Rat.neg_mul]
  have := Rat.mul_pos (ic_lt h) (zp_pos x.ex)
  grind
theorem val_s0 {x : Mpf} (hs : x.sg = 0) : x.val = (x.mn : Rat) * (2 : Rat) ^ x.ex := by
  unfold Mpf.val sv
  rw [if_pos hs]
theorem val_up {x : Mpf} (ok : x.Ok) (h : 0 < x.mn) (hs : x.sg = 0) : x.val < (2 : Rat) ^ (x.bc + x.ex) := by
  rw [val_s0 hs, ok.bc]
  obtain ⟨k, e, a, b⟩ := ib_bounds h
  have := zp_lt (e := x.ex) b
  rw [e, Int.add_comm, zp_add]
  grind
theorem val_dn {x : Mpf} (ok : x.Ok) (h : 0 < x.mn) (hs : x.sg = 0) : (2 : Rat) ^ (x.bc + x.ex - 1) ≤ x.val := by
  rw [val_s0 hs, ok.bc]
  obtain ⟨k, e, a, b⟩ := ib_bounds h
  have := zp_le (e := x.ex) a
  have e1 : ((intBits x.mn : Nat) : Int) + x.ex - 1 = x.ex + (k : Nat) := by omega
  rw [e1, zp_add]
  grind
theorem v_gt0 {B : Int} {x y : Mpf} (fx : Pf B x) (h : y.mn = 0) : CmpIs 1 x y := cmp_gt (by rw [val_of0 h]; exact pos_val fx.mn fx.sg)
theorem v_neg {B : Int} {x y : Mpf} (fx : Pf B x) (fy : Nf B y) (h : ¬ y.mn = 0) (hs : ¬ y.sg = 0) : CmpIs 1 x y :=
  cmp_gt (Std.lt_trans (neg_val (by have := fy.ok.mn; omega) hs) (pos_val fx.mn fx.sg))
theorem v_eq {B : Int} {x y : Mpf} (fx : Pf B x) (hs : y.sg = 0) (he : x.ex = y.ex) (hm : x.mn = y.mn) : CmpIs 0 x y := cmp_eq (by rw [val_s0 fx.sg, val_s0 hs, he, hm])
theorem v_mgt {B : Int} {x y : Mpf} (fx : Pf B x) (hs : y.sg = 0) (he : x.ex = y.ex) (hm : y.mn < x.mn) : CmpIs 1 x y := cmp_gt (by rw [val_s0 fx.sg, val_s0 hs, he]; exact zp_lt hm)
theorem v_mlt {B : Int} {x y : Mpf} (fx : Pf B x) (hs : y.sg = 0) (he : x.ex = y.ex) (hm : x.mn < y.mn) : CmpIs (-1) x y := cmp_lt (by rw [val_s0 fx.sg, val_s0 hs, he]; exact zp_lt hm)
theorem v_blt {B : Int} {x y : Mpf} (fx : Pf B x) (fy : Nf B y) (h : ¬ y.mn = 0) (hs : y.sg = 0) (hb : x.bc + x.ex < y.bc + y.ex) : CmpIs (-1) x y :=
  cmp_lt (Std.lt_of_lt_of_le (Std.lt_of_lt_of_le (val_up fx.ok fx.mn fx.sg) (zp_mono (by omega))) (val_dn fy.ok (by have := fy.ok.mn; omega) hs))
theorem v_bgt {B : Int} {x y : Mpf} (fx : Pf B x) (fy : Nf B y) (h : ¬ y.mn = 0) (hs : y.sg = 0) (hb : y.bc + y.ex < x.bc + x.ex) : CmpIs 1 x y :=
  cmp_gt (Std.lt_of_lt_of_le (Std.lt_of_lt_of_le (val_up fy.ok (by have := fy.ok.mn; omega) hs) (zp_mono (by omega))) (val_dn fx.ok fx.mn fx.sg))
theorem odd_ne {m n e f : Int} (hm : m % 2 = 1) (h : e < f) : ¬ (m : Rat) * (2 : Rat) ^ e = (n : Rat) * (2 : Rat) ^ f := by
  intro c
  obtain ⟨k, hk⟩ : ∃ k : Nat, f = e + ((k + 1 : Nat) : Int) := ⟨(f - e - 1).toNat, by omega⟩
  rw [hk, zp_whole] at c
  have hz := Rat.ne_of_gt (zp_pos e)
  have h1 : ((m : Rat) - ((n * 2 ^ (k + 1) : Int) : Rat)) * (2 : Rat) ^ e = 0 := by grind
  rcases Rat.mul_eq_zero.mp h1 with h2 | h2
  · have h3 : (m : Rat) = ((n * 2 ^ (k + 1) : Int) : Rat) := by grind
    have h4 := Rat.intCast_inj.mp h3
    rw [Int.pow_succ, ← Int.mul_assoc] at h4
    omega
  · exact hz h2
theorem v_sub {B : Int} {x y d : Mpf} (fx : Pf B x) (fy : Nf B y) (h : ¬ y.mn = 0) (hs : y.sg = 0) (he : ¬ x.ex = y.ex) (r : Res .f 5 (x.val - y.val) d) : (¬ d.sg = 0 → CmpIs (-1) x y) ∧ (d.sg = 0 → CmpIs 1 x y) := by
  have r := r.rn (by decide)
  have ne : ¬ x.val = y.val := by
    rw [val_s0 fx.sg, val_s0 hs]
    have o1 := fx.ok.odd (by have := fx.mn; omega)
    have o2 := fy.ok.odd h
    rcases Int.lt_or_gt_of_ne he with c | c
    · exact odd_ne o1 c
    · exact fun e => odd_ne o2 c e.symm
  have lo := r.lo rfl
  have fl := r.fl 0 ⟨0, 0, by simp, by decide, by decide⟩
  refine ⟨fun c => cmp_lt ?_, fun c => cmp_gt ?_⟩
  · have dn : d.val < 0 := by
      refine neg_val ?_ c
      have := r.ok.mn
      rcases Int.lt_or_eq_of_le this with c' | c'
      · exact c'
      · exact absurd (r.ok.zero c'.symm).1 c
    generalize x.val = a at *
    generalize y.val = b at *
    refine Classical.byContradiction fun q => ?_
    have := fl (by grind)
    grind
  · have dn : 0 ≤ d.val := by
      rw [val_s0 c]
      exact Rat.mul_nonneg (ic_le r.ok.mn) (Rat.le_of_lt (zp_pos _))
    generalize x.val = a at *
    generalize y.val = b at *
    grind
section
variable {w : World} {A : Around} {E : Value → Shared → Prop} {s₀ : Shared} {h : Heap} {t : Nat}
theorem c_mpf_cmp {a b : Addr} {xs xt : Mpf} {B : Int} {u1 u2 u3 u4 v1 v2 v3 v4 : Tok} {Q : Value → Shared → Prop} (R : Rm 6 A) (G : Gl w h)
  (Ts : IsTup h a #[.int xs.sg u1, .int xs.mn u2, .int xs.ex u3, .int xs.bc u4]) (Tt : IsTup h b #[.int xt.sg v1, .int xt.mn v2, .int xt.ex v3, .int xt.bc v4])
  (fs : Pf B xs) (ft : Nf B xt) (hB0 : 5 ≤ B) (hB : B ≤ 100000) (q : ∀ c h' t' u, Kp h h' → CmpIs c xs xt → Q (.int c u) (St s₀ h' t')) :
  wpAny (MM w) A (call (.ref 93) [.ref a, .ref b]) Q E (St s₀ h t) := by
  have hs0 := fs.mn
  have hss := fs.sg
  have hts := Hd.mk ft.ok.sg
  have htz := Hd.mk ft.ok.zero
  have htb := ft.ok.bc
  have htn := ft.ok.mn
  have hz0 : intBits 0 = 0 := rfl
  refine' enter [24, 13, 27, 29, 30, 31, 32, 33, 34, 35, 25, 26, 28] [12, 41, 38, 39, 40, 36, 37] [(13, .ref b), (24, .ref a)] R G rfl ?hcd ?hb ?hlo ?hgl ?hms ?hco ?hgen ?hk ?hcell ?_
  kxs_still
  intro A' env h₁ t' E' R' F
  replace F := (F.add (IsTup.keeps Ts F.kp)).add (IsTup.keeps Tt F.kp)
  leaf_len
  by_cases ht0 : xt.mn = 0
  · obtain ⟨h1, h2⟩ := htz.out ht0
    have h3 : xt.bc = 0 := by rw [htb, ht0]; rfl
    have fsk := fs.ok
    krn_off
    · rename Fm _ _ _ _ _ _ _ _ => F9
      have e : (if xs.mn = 0 then (0 : Int) else if xs.sg = 0 then 1 else -1) = 1 := by rw [if_neg (by omega), if_pos hss]
      exact q _ _ _ _ F9.kp (by rw [e]; exact v_gt0 fs ht0)
  · have htp : 0 < xt.mn := by omega
    krn_off
    · exact q _ _ _ _ (Fm.kp (by assumption)) (v_eq fs (by omega) (by assumption) (by assumption))
    · exact q _ _ _ _ (Fm.kp (by assumption)) (v_mgt fs (by omega) (by assumption) (by assumption))
    · exact q _ _ _ _ (Fm.kp (by assumption)) (v_mlt fs (by omega) (by assumption) (by omega))
    · exact q _ _ _ _ (Fm.kp (by assumption)) (v_blt fs ft ht0 (by omega) (by assumption))
    · exact q _ _ _ _ (Fm.kp (by assumption)) (v_bgt fs ft ht0 (by omega) (by assumption))
    · rename Res _ _ _ _ => S'
      exact q _ _ _ _ (Fm.kp (by assumption)) ((v_sub fs ft ht0 (by omega) (by assumption) S').2 (by assumption))
    · rename Res _ _ _ _ => S'
      exact q _ _ _ _ (Fm.kp (by assumption)) ((v_sub fs ft ht0 (by omega) (by assumption) S').1 (by assumption))
    · exact q _ _ _ _ (Fm.kp (by assumption)) (v_neg fs ft ht0 (by omega))
end

local macro_rules | `(tactic| kp_flats) => `(tactic| ((with_reducible refine' c_mpf_cmp ?R ?G ?T ?T' ?f ?f' ?b ?B ?_); (case R => kst_all1); (case G => kd_adr); (case T => kbo_bools); (case T' => kbo_bools); (case f => fold_depth); (case f' => fold_depth); (case b => fold_depth); (case B => fold_depth); intro _ _ _ _ k' S'; (have F' := Fm.after (by assumption) k')))

section
variable {w : World} {A : Around} {E : Value → Shared → Prop} {s₀ : Shared} {h : Heap} {t : Nat}
theorem c_mpf_le {a b : Addr} {xs xt : Mpf} {B : Int} {u1 u2 u3 u4 v1 v2 v3 v4 : Tok} {Q : Value → Shared → Prop} (R : Rm 7 A) (G : Gl w h)
  (Ts : IsTup h a #[.int xs.sg u1, .int xs.mn u2, .int xs.ex u3, .int xs.bc u4]) (Tt : IsTup h b #[.int xt.sg v1, .int xt.mn v2, .int xt.ex v3, .int xt.bc v4])
  (fs : Pf B xs) (ft : Nf B xt) (hB0 : 5 ≤ B) (hB : B ≤ 100000) (q : ∀ (z : Bool) h' t', Kp h h' → (z = true ↔ xs.val ≤ xt.val) → Q (.bool z) (St s₀ h' t')) :
  wpAny (MM w) A (call (.ref 107) [.ref a, .ref b]) Q E (St s₀ h t) := by
  have hsb := fs.ok.bc
  have htb := ft.ok.bc
  refine' enter [24, 13] [38, 42] [(13, .ref b), (24, .ref a)] R G rfl ?hcd ?hb ?hlo ?hgl ?hms ?hco ?hgen ?hk ?hcell ?_
  kxs_still
  intro A' env h₁ t' E' R' F
  replace F := (F.add (IsTup.keeps Ts F.kp)).add (IsTup.keeps Tt F.kp)
  leaf_len
  krn_off
  rename CmpIs _ _ _ => C
  exact q _ _ _ (Fm.kp (by assumption)) (by rw [decide_eq_true_eq]; exact C.2)
end

local macro_rules | `(tactic| kp_flats) => `(tactic| ((with_reducible refine' c_mpf_le ?R ?G ?T ?T' ?f ?f' ?b ?B ?_); (case R => kst_all1); (case G => kd_adr); (case T => kbo_bools); (case T' => kbo_bools); (case f => fold_depth); (case f' => fold_depth); (case b => fold_depth); (case B => fold_depth); intro _ _ _ k' S'; (have F' := Fm.after (by assumption) k')))

section
variable {w : World} {A : Around} {E : Value → Shared → Prop} {s₀ : Shared} {h : Heap} {t : Nat}
theorem c_mpf_ge {a b : Addr} {xs xt : Mpf} {B : Int} {u1 u2 u3 u4 v1 v2 v3 v4 : Tok} {Q : Value → Shared → Prop} (R : Rm 7 A) (G : Gl w h)
  (Ts : IsTup h a #[.int xs.sg u1, .int xs.mn u2, .int xs.ex u3, .int xs.bc u4]) (Tt : IsTup h b #[.int xt.sg v1, .int xt.mn v2, .int xt.ex v3, .int xt.bc v4])
  (fs : Pf B xs) (ft : Nf B xt) (hB0 : 5 ≤ B) (hB : B ≤ 100000) (q : ∀ (z : Bool) h' t', Kp h h' → (z = true ↔ xt.val ≤ xs.val) → Q (.bool z) (St s₀ h' t')) :
  wpAny (MM w) A (call (.ref 121) [.ref a, .ref b]) Q E (St s₀ h t) := by
  have hsb := fs.ok.bc
  have htb := ft.ok.bc
  refine' enter [24, 13] [38, 42] [(13, .ref b), (24, .ref a)] R G rfl ?hcd ?hb ?hlo ?hgl ?hms ?hco ?hgen ?hk ?hcell ?_
  kxs_still
  intro A' env h₁ t' E' R' F
  replace F := (F.add (IsTup.keeps Ts F.kp)).add (IsTup.keeps Tt F.kp)
  leaf_len
  krn_off
  rename CmpIs _ _ _ => C
  exact q _ _ _ (Fm.kp (by assumption)) (by rw [decide_eq_true_eq]; exact C.1)
end

local macro_rules | `(tactic| kp_flats) => `(tactic| ((with_reducible refine' c_mpf_ge ?R ?G ?T ?T' ?f ?f' ?b ?B ?_); (case R => kst_all1); (case G => kd_adr); (case T => kbo_bools); (case T' => kbo_bools); (case f => fold_depth); (case f' => fold_depth); (case b => fold_depth); (case B => fold_depth); intro _ _ _ k' S'; (have F' := Fm.after (by assumption) k')))

section
variable {w : World} {A : Around} {E : Value → Shared → Prop} {s₀ : Shared} {h : Heap} {t : Nat}
theorem c_MIN {a b : Addr} {xs xt : Mpf} {B : Int} {u1 u2 u3 u4 v1 v2 v3 v4 : Tok} {Q : Value → Shared → Prop} (R : Rm 8 A) (G : Gl w h)
  (Ts : IsTup h a #[.int xs.sg u1, .int xs.mn u2, .int xs.ex u3, .int xs.bc u4]) (Tt : IsTup h b #[.int xt.sg v1, .int xt.mn v2, .int xt.ex v3, .int xt.bc v4])
  (fs : Pf B xs) (ft : Nf B xt) (hB0 : 5 ≤ B) (hB : B ≤ 100000) (q : ∀ c h' t' x u1 u2 u3 u4, Kp h h' → IsTup h' c #[.int x.sg u1, .int x.mn u2, .int x.ex u3, .int x.bc u4] → (x = xs ∧ xs.val ≤ xt.val) ∨ (x = xt ∧ xt.val ≤ xs.val) → Q (.ref c) (St s₀ h' t')) :
  wpAny (MM w) A (call (.ref 265) [.ref a, .ref b]) Q E (St s₀ h t) := by
  refine' enter [1, 3] [75] [(3, .ref b), (1, .ref a)] R G rfl ?hcd ?hb ?hlo ?hgl ?hms ?hco ?hgen ?hk ?hcell ?_
  kxs_still
  intro A' env h₁ t' E' R' F
  replace F := (F.add (IsTup.keeps Ts F.kp)).add (IsTup.keeps Tt F.kp)
  leaf_len
  krn_off
  rename Bool => z
  rename (_ = true ↔ _) => S
  cases z
  · refine i_false ?_
    krn_off
    have S' : ¬ xs.val ≤ xt.val := fun e => Bool.false_ne_true (S.mpr e)
    exact q _ _ _ xt _ _ _ _ (Fm.kp (by assumption)) (Fm.tup (by assumption) (.head _)) (.inr ⟨rfl, by grind⟩)
  · refine i_true ?_
    krn_off
    exact q _ _ _ xs _ _ _ _ (Fm.kp (by assumption)) (Fm.tup (by assumption) (.tail _ (.head _))) (.inl ⟨rfl, S.mp rfl⟩)
end

local macro_rules | `(tactic| kp_flats) => `(tactic| ((with_reducible refine' c_MIN ?R ?G ?T ?T' ?f ?f' ?b ?B ?_); (case R => kst_all1); (case G => kd_adr); (case T => kbo_bools); (case T' => kbo_bools); (case f => fold_depth); (case f' => fold_depth); (case b => fold_depth); (case B => fold_depth); intro _ _ _ _ _ _ _ _ k' T' S'; (have F' := Fm.add (Fm.after (by assumption) k') T')))

section
variable {w : World} {A : Around} {E : Value → Shared → Prop} {s₀ : Shared} {h : Heap} {t : Nat}
theorem c_MAX {a b : Addr} {xs xt : Mpf} {B : Int} {u1 u2 u3 u4 v1 v2 v3 v4 : Tok} {Q : Value → Shared → Prop} (R : Rm 8 A) (G : Gl w h)
  (Ts : IsTup h a #[.int xs.sg u1, .int xs.mn u2, .int xs.ex u3, .int xs.bc u4]) (Tt : IsTup h b #[.int xt.sg v1, .int xt.mn v2, .int xt.ex v3, .int xt.bc v4])
  (fs : Pf B xs) (ft : Nf B xt) (hB0 : 5 ≤ B) (hB : B ≤ 100000) (q : ∀ c h' t' x u1 u2 u3 u4, Kp h h' → IsTup h' c #[.int x.sg u1, .int x.mn u2, .int x.ex u3, .int x.bc u4] → (x = xs ∧ xt.val ≤ xs.val) ∨ (x = xt ∧ xs.val ≤ xt.val) → Q (.ref c) (St s₀ h' t')) :
  wpAny (MM w) A (call (.ref 272) [.ref a, .ref b]) Q E (St s₀ h t) := by
  refine' enter [1, 3] [74] [(3, .ref b), (1, .ref a)] R G rfl ?hcd ?hb ?hlo ?hgl ?hms ?hco ?hgen ?hk ?hcell ?_
  kxs_still
  intro A' env h₁ t' E' R' F
  replace F := (F.add (IsTup.keeps Ts F.kp)).add (IsTup.keeps Tt F.kp)
  leaf_len
  krn_off
  rename Bool => z
  rename (_ = true ↔ _) => S
  cases z
  · refine i_false ?_
    krn_off
    have S' : ¬ xt.val ≤ xs.val := fun e => Bool.false_ne_true (S.mpr e)
    exact q _ _ _ xt _ _ _ _ (Fm.kp (by assumption)) (Fm.tup (by assumption) (.head _)) (.inr ⟨rfl, by grind⟩)
  · refine i_true ?_
    krn_off
    exact q _ _ _ xs _ _ _ _ (Fm.kp (by assumption)) (Fm.tup (by assumption) (.tail _ (.head _))) (.inl ⟨rfl, S.mp rfl⟩)
end

local macro_rules | `(tactic| kp_flats) => `(tactic| ((with_reducible refine' c_MAX ?R ?G ?T ?T' ?f ?f' ?b ?B ?_); (case R => kst_all1); (case G => kd_adr); (case T => kbo_bools); (case T' => kbo_bools); (case f => fold_depth); (case f' => fold_depth); (case b => fold_depth); (case B => fold_depth); intro _ _ _ _ _ _ _ _ k' T' S'; (have F' := Fm.add (Fm.after (by assumption) k') T')))

/-- behind a turn of a while -/
def Wl (s₀ : Shared) (I : Nat → Heap → Prop) (n : Nat) (Q : Flow → Shared → Prop) : Flow → Shared → Prop := fun f s => match f with
  | .next | .cont => ∃ m, m < n ∧ ∃ h t, s = St s₀ h t ∧ I m h
  | .brk => Q .next s
  | .ret v => Q (.ret v) s
section
variable {w : World} {A : Around} {E : Value → Shared → Prop} {s₀ : Shared} {h h₀ : Heap} {t : Nat} {prog : Program} {env : Env} {s : Shared}
theorem wl_next {I : Nat → Heap → Prop} {n m : Nat} {Q : Flow → Shared → Prop} (hm : m < n) (i : I m h) : Wl s₀ I n Q .next (St s₀ h t) := ⟨m, hm, h, t, rfl, i⟩
theorem wl_ret {I : Nat → Heap → Prop} {n : Nat} {Q : Flow → Shared → Prop} {v : Value} (k : Q (.ret v) s) : Wl s₀ I n Q (.ret v) s := k
theorem s_while {test : Expr} {body orelse : List Stmt} {pos : Pos} {Q : Flow → Shared → Prop} (I : Nat → Heap → Prop) (n : Nat) (i : I n h)
    (k : ∀ n h t E', I n h → wpAny (model prog w) A (PySem.isTrue test env (eval test env)) (fun b s₂ => if b = true then wpAny (model prog w) A (execs body env) (Wl s₀ I n Q) E' s₂ else wpAny (model prog w) A (execs orelse env) Q E' s₂) E' (St s₀ h t)) :
    wpAny (model prog w) A (exec (.While test body orelse pos) env) Q E (St s₀ h t) := by
  refine wpAny_While (codeAny_whileLoop (fun n s => ∃ h t, s = St s₀ h t ∧ I n h) (fun n s hs => ?_) n ⟨h, t, rfl, i⟩)
  obtain ⟨h, t, rfl, i⟩ := hs
  refine wpAny_mono (k n h t _ i) (fun b s₂ hb => ?_) fun _ _ x => x
  cases b
  · rw [if_neg Bool.false_ne_true] at hb ⊢
    exact wpAny_mono hb (fun f s₃ hf => hf) fun _ _ x => x
  · rw [if_pos rfl] at hb ⊢
    refine wpAny_mono hb (fun f s₃ hf => ?_) fun _ _ x => x
    cases f with
    | next => obtain ⟨m, hm, h, t, e, i⟩ := hf; exact ⟨m, hm, h, t, e, i⟩
    | cont => obtain ⟨m, hm, h, t, e, i⟩ := hf; exact ⟨m, hm, h, t, e, i⟩
    | brk => exact hf
    | ret v => exact hf
end
theorem nt_stop {x r : Int} (hr : 0 < r) (h : r ≤ (r + x.fdiv r).fdiv (2 ^ (1 : Int).toNat)) : r * r ≤ x := by
  rw [Int.fdiv_eq_ediv_of_nonneg _ (Int.le_of_lt hr)] at h
  have h2 : r ≤ x / r := by
    rw [fdiv_p2] at h
    generalize x / r = z at *
    have : (2 : Int) ^ (1 : Int).toNat = 2 := rfl
    rw [this] at h
    omega
  have h3 := Int.mul_le_mul_of_nonneg_right h2 (Int.le_of_lt hr)
  have h4 := Int.ediv_mul_le x (Int.ne_of_gt hr)
  exact Int.le_trans h3 h4
theorem nt_step {x r : Int} (hx : 0 < x) (hr : 0 < r) : x < ((r + x.fdiv r).fdiv (2 ^ (1 : Int).toNat) + 1) * ((r + x.fdiv r).fdiv (2 ^ (1 : Int).toNat) + 1) ∧ 0 < (r + x.fdiv r).fdiv (2 ^ (1 : Int).toNat) := by
  rw [Int.fdiv_eq_ediv_of_nonneg _ (Int.le_of_lt hr), fdiv_p2, show (2 : Int) ^ (1 : Int).toNat = 2 from rfl]
  have h1 := Int.mul_ediv_add_emod x r
  have h2 := Int.emod_nonneg x (Int.ne_of_gt hr)
  have h3 := Int.emod_lt_of_pos x hr
  have h4 : 0 ≤ x / r := Int.ediv_nonneg (Int.le_of_lt hx) (Int.le_of_lt hr)
  have h5 : r = 1 → x / r = x := by rintro rfl; exact Int.ediv_one x
  generalize x / r = z at *
  generalize x % r = y at *
  have hs : ∃ s, s = (r + z) / 2 + 1 := ⟨_, rfl⟩
  obtain ⟨s, hs⟩ := hs
  rw [← hs]
  have h6 : r + z + 1 ≤ 2 * s := by omega
  refine ⟨?_, ?_⟩
  · have h7 : r * z + r ≤ r * (2 * s - r) := by
      have := Int.mul_le_mul_of_nonneg_left (show z + 1 ≤ 2 * s - r by omega) (Int.le_of_lt hr)
      rw [Int.mul_add, Int.mul_one] at this
      exact this
    have h8 : r * (2 * s - r) ≤ s * s := by
      have : 0 ≤ (s - r) * (s - r) := by
        rcases Int.le_total 0 (s - r) with c | c
        · exact Int.mul_nonneg c c
        · exact Int.mul_nonneg_of_nonpos_of_nonpos c c
      grind
    omega
  · rcases Int.lt_or_le 1 r with c | c
    · omega
    · have := h5 (by omega)
      omega
theorem nt_start {x : Int} (hx : 0 < x) : x < (1 * 2 ^ (((intBits x : Int) + 1).fdiv (2 ^ (1 : Int).toNat)).toNat + 1) * (1 * 2 ^ (((intBits x : Int) + 1).fdiv (2 ^ (1 : Int).toNat)).toNat + 1) := by
  obtain ⟨k, e, a, b⟩ := ib_bounds hx
  rw [fdiv_p2, show (2 : Int) ^ (1 : Int).toNat = 2 from rfl, Int.one_mul]
  have h1 : ∃ N : Nat, (((intBits x : Int) + 1) / 2).toNat = N ∧ k + 1 ≤ N + N := ⟨_, rfl, by omega⟩
  obtain ⟨N, hN, hk⟩ := h1
  rw [hN]
  have h2 := p2_le hk
  rw [Int.pow_add 2 N N] at h2
  have := p2_pos N
  generalize (2 : Int) ^ N = P at *
  have : (P + 1) * (P + 1) = P * P + 2 * P + 1 := by grind
  omega
theorem log2_lt_of_lt {x : Int} {N : Nat} (h0 : 0 < x) (h : x ≤ 2 ^ N) (hN : N < 9000) : x.natAbs.log2 < 9000 := by
  refine (Nat.log2_lt (by omega)).mpr ?_
  have h1 : (2 : Int) ^ N < 2 ^ 9000 := p2_lt_iff.mpr hN
  have h2 : x < ((2 ^ 9000 : Nat) : Int) := by rw [Int.natCast_pow]; exact Int.lt_of_le_of_lt h h1
  generalize 2 ^ 9000 = z at *
  omega
section
variable {w : World} {A : Around} {E : Value → Shared → Prop} {s₀ : Shared} {h : Heap} {t : Nat}
theorem c_isqrt_small {x : Int} {u : Tok} {Q : Value → Shared → Prop} (R : Rm 1 A) (G : Gl w h) (hx : 0 < x) (hb : intBits x ≤ 10000)
  (q : ∀ z h' t' u, Kp h h' → 0 < z → z * z ≤ x → x < (z + 1) * (z + 1) → Q (.int z u) (St s₀ h' t')) :
  wpAny (MM w) A (call (.ref 28) [.int x u]) Q E (St s₀ h t) := by
  refine' enter [1, 2, 3] [] [(1, .int x u)] R G rfl ?hcd ?hb ?hlo ?hgl ?hms ?hco ?hgen ?hk ?hcell ?_
  kxs_still
  intro A' env h₁ t' E' R' F
  leaf_len
  have i1 : (0 : Int) ≤ ((intBits x : Int) + 1).fdiv (2 ^ (1 : Int).toNat) := fdiv_nn (by omega) (p2_pos _)
  have i2 : ((intBits x : Int) + 1).fdiv (2 ^ (1 : Int).toNat) ≤ 5001 := by rw [fdiv_p2, show (2 : Int) ^ (1 : Int).toNat = 2 from rfl]; omega
  repeat' ((fail_if_success (with_reducible show wpAny _ _ (exec (Stmt.While _ _ _ _) _) _ _ _)); kat_tups)
  refine s_while (fun n hh => ∃ (r : Int) (y : Tok), Fm w ⟨h, []⟩ env [1, 2, 3] [] [(2, .int r y), (1, .int x u)] [] hh ∧ n = r.toNat ∧ 0 < r ∧ r ≤ 2 ^ 5001 ∧ x < (r + 1) * (r + 1)) _ ⟨_, _, by isplit, rfl, ?_, ?_, nt_start hx⟩ ?_
  · rw [Int.one_mul]; exact p2_pos _
  · rw [Int.one_mul]; exact p2_le (by omega)
  · rintro n hh tt E'' ⟨r, y, F9, rfl, hr, hr', hxr⟩
    have hlg := log2_lt_of_lt hr hr' (by decide)
    obtain ⟨n1, n2⟩ := nt_step hx hr
    krn_off
    · exact wl_ret (q _ _ _ _ (Fm.kp (by assumption)) hr (nt_stop hr (by assumption)) hxr)
    · exact wl_next (m := ((r + x.fdiv r).fdiv (2 ^ (1 : Int).toNat)).toNat) (by omega) ⟨_, _, by isplit, rfl, n2, by omega, n1⟩
end

local macro_rules | `(tactic| kp_flats) => `(tactic| ((with_reducible refine' c_isqrt_small ?R ?G ?x ?b ?_); (case R => kst_all1); (case G => kd_adr); (case x => fold_depth); (case b => fold_depth); intro _ _ _ _ k' _ _ _; (have F' := Fm.after (by assumption) k')))

theorem ib_mono {a b : Int} (h0 : 0 ≤ a) (h : a ≤ b) : intBits a ≤ intBits b := by
  rcases Int.lt_or_eq_of_le h0 with h1 | h1
  · obtain ⟨j, e1, a1, b1⟩ := ib_bounds h1
    obtain ⟨k, e2, a2, b2⟩ := ib_bounds (Int.lt_of_lt_of_le h1 h)
    have : j < k + 1 := p2_lt_iff.mp (by omega)
    omega
  · rw [← h1]; exact Nat.zero_le _
theorem ib_sq {z x : Int} (h0 : 0 < z) (h : z * z ≤ x) : intBits z ≤ intBits x := by
  refine ib_mono (Int.le_of_lt h0) (Int.le_trans ?_ h)
  have := Int.mul_le_mul_of_nonneg_left (show (1 : Int) ≤ z by omega) (Int.le_of_lt h0)
  omega
section
variable {w : World} {A : Around} {E : Value → Shared → Prop} {s₀ : Shared} {h : Heap} {t : Nat}
theorem c_sqrtrem {x : Int} {u : Tok} {Q : Value → Shared → Prop} (R : Rm 2 A) (G : Gl w h) (hx : 0 < x) (hb : intBits x ≤ 10000)
  (q : ∀ a z h' t' u1 u2, Kp h h' → IsTup h' a [.int z u1, .int (x - z * z) u2].toArray → 0 < z → z * z ≤ x → x < (z + 1) * (z + 1) → Q (.ref a) (St s₀ h' t')) :
  wpAny (MM w) A (call (.ref 35) [.int x u]) Q E (St s₀ h t) := by
  refine' enter [1, 3] [4] [(1, .int x u)] R G rfl ?hcd ?hb ?hlo ?hgl ?hms ?hco ?hgen ?hk ?hcell ?_
  kxs_still
  intro A' env h₁ t' E' R' F
  leaf_len
  repeat' ((fail_if_success (with_reducible show wpAny _ _ (binaryOp Operator.Mult _ _) _ _ _)); kat_tups)
  rename ((0 : Int) < _) => z0
  rename ((_ : Int) * _ ≤ x) => z1
  have zb := Nat.le_trans (ib_sq z0 z1) hb
  krn_off
  exact q _ _ _ _ _ _ (Fm.kp (by assumption)) (Fm.tup (by assumption) (.head _)) z0 z1 (by assumption)
end

local macro_rules | `(tactic| kp_flats) => `(tactic| ((with_reducible refine' c_sqrtrem ?R ?G ?x ?b ?_); (case R => kst_all1); (case G => kd_adr); (case x => fold_depth); (case b => fold_depth); intro _ _ _ _ _ _ k' T' _ _ _; (have F' := Fm.add (Fm.after (by assumption) k') T')))

section
variable {w : World} {A : Around} {E : Value → Shared → Prop} {s₀ : Shared} {h : Heap} {t : Nat}
theorem c_isqrt {x : Int} {u : Tok} {Q : Value → Shared → Prop} (R : Rm 3 A) (G : Gl w h) (hx : 0 < x) (hb : intBits x ≤ 10000)
  (q : ∀ z h' t' u, Kp h h' → 0 < z → z * z ≤ x → x < (z + 1) * (z + 1) → Q (.int z u) (St s₀ h' t')) :
  wpAny (MM w) A (call (.ref 42) [.int x u]) Q E (St s₀ h t) := by
  refine' enter [1] [5] [(1, .int x u)] R G rfl ?hcd ?hb ?hlo ?hgl ?hms ?hco ?hgen ?hk ?hcell ?_
  kxs_still
  intro A' env h₁ t' E' R' F
  leaf_len
  krn_off
  exact q _ _ _ _ (Fm.kp (by assumption)) (by assumption) (by assumption) (by assumption)
end

local macro_rules | `(tactic| kp_flats) => `(tactic| ((with_reducible refine' c_isqrt ?R ?G ?x ?b ?_); (case R => kst_all1); (case G => kd_adr); (case x => fold_depth); (case b => fold_depth); intro _ _ _ _ k' _ _ _; (have F' := Fm.after (by assumption) k')))

structure SqIs (r : Rd) (p : Int) (v : Rat) (x : Mpf) : Prop where
  ok : x.Ok
  bc : x.bc ≤ p
  nn : 0 ≤ x.val
  lo : r = .f → x.val * x.val ≤ v
  hi : r = .c → v ≤ x.val * x.val
  fl : r = .f → ∀ y, InF p y → 0 ≤ y → y * y ≤ v → y ≤ x.val
  cl : r = .c → ∀ y, InF p y → 0 ≤ y → v ≤ y * y → x.val ≤ y
theorem sq_mono {a b : Rat} (h0 : 0 ≤ a) (h : a ≤ b) : a * a ≤ b * b :=
  Rat.le_trans (Rat.mul_le_mul_of_nonneg_left h h0) (Rat.mul_le_mul_of_nonneg_right h (Rat.le_trans h0 h))
theorem sq_cancel {a b : Rat} (hb : 0 ≤ b) (h : a * a ≤ b * b) : a ≤ b := by
  refine Classical.byContradiction fun c => ?_
  have c : b < a := by grind
  have h1 := Rat.mul_le_mul_of_nonneg_left (Rat.le_of_lt c) hb
  have h2 := Rat.mul_lt_mul_of_pos_right c (show 0 < a by grind)
  grind
theorem sq_cancel_lt {a b : Rat} (hb : 0 ≤ b) (h : a * a < b * b) : a < b := by
  refine Classical.byContradiction fun c => ?_
  have := sq_mono hb (show b ≤ a by grind)
  grind
theorem inF_zero (p : Int) : InF p 0 := ⟨0, 0, by simp, by have := p2_pos p.toNat; omega, by have := p2_pos p.toNat; omega⟩
/-- an exact root, rounded -/
theorem sq_exact {r : Rd} {p : Int} {Y v : Rat} {x : Mpf} (h : Rnd r p Y x) (h0 : 0 ≤ Y) (e : Y * Y = v) : SqIs r p v x := by
  subst e
  refine ⟨h.ok, h.bc, h.fl _ (inF_zero p) h0, fun e => ?_, fun e => sq_mono h0 (h.hi e), fun _ y hy y0 hv => h.fl y hy (sq_cancel h0 hv), fun _ y hy y0 hv => h.cl y hy (sq_cancel y0 hv)⟩
  exact sq_mono (h.fl _ (inF_zero p) h0) (h.lo e)
theorem zp_half {e : Int} (he : e % 2 = 0) : (2 : Rat) ^ (e.fdiv 2) * (2 : Rat) ^ (e.fdiv 2) = (2 : Rat) ^ e := by
  rw [← Rat.zpow_add two_ne]
  congr 1
  rw [Int.fdiv_eq_ediv_of_nonneg _ (by decide)]
  omega
theorem sq_one {r : Rd} {p e b : Int} {x : Mpf} (hr : r = .f ∨ r = .c) (hp : 1 ≤ p) (he : Builtin.bitAnd e 1 = 0) (h : Raw r p 0 1 (e.fdiv 2) x) : SqIs r p (Mpf.val ⟨0, 1, e, b⟩) x := by
  rw [bitAnd_m1] at he
  have key := raw_rnd h (.inl rfl) (by decide) hp
  have o : ((1 : Int) : Rat) = 1 := rfl
  have e1 : (sv 0 1 : Rat) * (2 : Rat) ^ (e.fdiv 2) = (2 : Rat) ^ (e.fdiv 2) := by
    show ((1 : Int) : Rat) * _ = _
    rw [o, Rat.one_mul]
  rw [e1] at key
  refine sq_exact key (Rat.le_of_lt (zp_pos _)) ?_
  rw [zp_half he]
  show _ = ((1 : Int) : Rat) * _
  rw [o, Rat.one_mul]
theorem sq_v {m e sh : Int} (he : e % 2 = 0) (hs : sh % 2 = 0) (h0 : 0 ≤ sh) : (m : Rat) * (2 : Rat) ^ e = ((m * 2 ^ sh.toNat : Int) : Rat) * ((2 : Rat) ^ ((e - sh).fdiv 2) * (2 : Rat) ^ ((e - sh).fdiv 2)) := by
  rw [zp_half (by omega), ← zp_whole]
  congr 2
  omega
theorem sq_z {p m b z sh : Int} (hm : 0 < m) (hp : 1 ≤ p) (hb : b = intBits m) (hs4 : 4 ≤ sh) (hs' : 2 * p - b + 4 ≤ sh) (z0 : 0 < z) (z2 : m * 2 ^ sh.toNat < (z + 1) * (z + 1)) : (2 : Int) ^ p.toNat ≤ z := by
  refine Classical.byContradiction fun c => ?_
  obtain ⟨k, ek, k1, k2⟩ := ib_bounds hm
  have h1 : (z + 1) * (z + 1) ≤ 2 ^ p.toNat * 2 ^ p.toNat := Int.mul_le_mul (by omega) (by omega) (by omega) (Int.le_of_lt (p2_pos _))
  have h2 : (2 : Int) ^ k * 2 ^ sh.toNat ≤ m * 2 ^ sh.toNat := Int.mul_le_mul_of_nonneg_right k1 (Int.le_of_lt (p2_pos _))
  rw [← Int.pow_add] at h1 h2
  have h3 : (2 : Int) ^ (p.toNat + p.toNat) ≤ 2 ^ (k + sh.toNat) := p2_le (by omega)
  omega
theorem sq_u {a b : Int} {u : Rat} (hu : 0 < u) (h : a ≤ b) : (a : Rat) * (u * u) ≤ (b : Rat) * (u * u) := Rat.mul_le_mul_of_nonneg_right (ic_le h) (Rat.le_of_lt (Rat.mul_pos hu hu))
theorem sq_ul {a b : Int} {u : Rat} (hu : 0 < u) (h : a < b) : (a : Rat) * (u * u) < (b : Rat) * (u * u) := Rat.mul_lt_mul_of_pos_right (ic_lt h) (Rat.mul_pos hu hu)
theorem sq_floor {p m e b z sh : Int} {x : Mpf} (hm : 0 < m) (hp : 1 ≤ p) (hb : b = intBits m) (he : e % 2 = 0) (hs : sh % 2 = 0) (hs4 : 4 ≤ sh) (hs' : 2 * p - b + 4 ≤ sh) (z0 : 0 < z) (z1 : z * z ≤ m * 2 ^ sh.toNat) (z2 : m * 2 ^ sh.toNat < (z + 1) * (z + 1))
    (h : Raw .f p 0 z ((e - sh).fdiv 2) x) : SqIs .f p ((m : Rat) * (2 : Rat) ^ e) x := by
  have hz := sq_z hm hp hb hs4 hs' z0 z2
  rw [sq_v (m := m) he hs (by omega)]
  have key := raw_rnd h (.inl rfl) (Int.le_of_lt z0) hp
  rw [sv_sr] at key
  have e0 : ∀ Z, sr 0 Z = Z := fun Z => rfl
  rw [e0] at key
  have hu := zp_pos ((e - sh).fdiv 2)
  have a1 := sq_u hu z1
  have a2 := sq_ul hu z2
  have hc : (2 : Int) ^ (p - 1).toNat ≤ z := by
    have : (2 : Int) ^ p.toNat = 2 ^ (p - 1).toNat * 2 := by rw [← Int.pow_succ]; congr 1; omega
    have := p2_pos (p - 1).toNat
    omega
  have nf := fun y hy => noF (s := (e - sh).fdiv 2) (y := y) hy hp hc
  have zz : (0 : Rat) ≤ (z : Rat) * (2 : Rat) ^ ((e - sh).fdiv 2) := Rat.mul_nonneg (ic_le (Int.le_of_lt z0)) (Rat.le_of_lt hu)
  have x0 := key.fl _ (inF_zero p) zz
  have zz1 : (0 : Rat) ≤ ((z + 1 : Int) : Rat) * (2 : Rat) ^ ((e - sh).fdiv 2) := Rat.mul_nonneg (ic_le (show 0 ≤ z + 1 by omega)) (Rat.le_of_lt hu)
  refine ⟨key.ok, key.bc, x0, fun _ => ?_, fun e => (nomatch e), fun _ y hy y0 hv => ?_, fun e => (nomatch e)⟩
  · have := sq_mono x0 (key.lo rfl)
    rw [Rat.intCast_mul] at a1
    grind
  · refine key.fl y hy ?_
    rcases nf y hy with g | g
    · exact g
    · exfalso
      have := sq_mono zz1 g
      rw [Rat.intCast_mul (z + 1)] at a2
      grind
theorem sq_ceil0 {p m e b z sh : Int} {x : Mpf} (hm : 0 < m) (hp : 1 ≤ p) (hb : b = intBits m) (he : e % 2 = 0) (hs : sh % 2 = 0) (hs4 : 4 ≤ sh) (hs' : 2 * p - b + 4 ≤ sh) (z0 : 0 < z) (z1 : z * z = m * 2 ^ sh.toNat)
    (h : Raw .c p 0 z ((e - sh).fdiv 2) x) : SqIs .c p ((m : Rat) * (2 : Rat) ^ e) x := by
  rw [sq_v (m := m) he hs (by omega), ← z1]
  have key := raw_rnd h (.inl rfl) (Int.le_of_lt z0) hp
  rw [sv_sr] at key
  refine sq_exact key (Rat.mul_nonneg (ic_le (Int.le_of_lt z0)) (Rat.le_of_lt (zp_pos _))) ?_
  show (z : Rat) * _ * ((z : Rat) * _) = _
  rw [Rat.intCast_mul]; grind
theorem sq_ceil1 {p m e b z sh : Int} {x : Mpf} (hm : 0 < m) (hp : 1 ≤ p) (hb : b = intBits m) (he : e % 2 = 0) (hs : sh % 2 = 0) (hs4 : 4 ≤ sh) (hs' : 2 * p - b + 4 ≤ sh) (z0 : 0 < z) (z1 : z * z ≤ m * 2 ^ sh.toNat) (z2 : m * 2 ^ sh.toNat < (z + 1) * (z + 1)) (z3 : ¬ z * z = m * 2 ^ sh.toNat)
    (h : Raw .c p 0 (z * 2 ^ (1 : Int).toNat + 1) ((e - (sh + 2)).fdiv 2) x) : SqIs .c p ((m : Rat) * (2 : Rat) ^ e) x := by
  have hz := sq_z hm hp hb hs4 hs' z0 z2
  rw [sq_v (m := m) he hs (by omega)]
  rw [show (2 : Int) ^ (1 : Int).toNat = 2 from rfl] at h
  have e0 : ∀ Z, sr 0 Z = Z := fun Z => rfl
  have st := fun Y => sticky_mag (Y := Y) h (.inl rfl) hp hz
  have eu : (2 : Rat) ^ ((e - sh).fdiv 2) = (2 : Rat) ^ ((e - (sh + 2)).fdiv 2) * 2 := by
    have : (2 : Rat) ^ ((e - sh).fdiv 2) = (2 : Rat) ^ ((e - (sh + 2)).fdiv 2) * ((2 ^ 1 : Int) : Rat) := by
      rw [← zp_add]; congr 1
      rw [Int.fdiv_eq_ediv_of_nonneg _ (by decide), Int.fdiv_eq_ediv_of_nonneg _ (by decide)]
      omega
    exact this
  have hu := zp_pos ((e - sh).fdiv 2)
  have hu' := zp_pos ((e - (sh + 2)).fdiv 2)
  have a1 := sq_ul hu (show z * z < m * 2 ^ sh.toNat by omega)
  have a2 := sq_u hu (Int.le_of_lt z2)
  rw [Rat.intCast_mul z] at a1
  rw [Rat.intCast_mul (z + 1)] at a2
  have hc : (2 : Int) ^ (p - 1).toNat ≤ z * 2 := by
    have : (2 : Int) ^ p.toNat = 2 ^ (p - 1).toNat * 2 := by rw [← Int.pow_succ]; congr 1; omega
    have := p2_pos (p - 1).toNat
    omega
  have nf := fun y hy => noF (s := (e - (sh + 2)).fdiv 2) (y := y) hy hp hc
  have l1 : ((z * 2 : Int) : Rat) * (2 : Rat) ^ ((e - (sh + 2)).fdiv 2) < ((z * 2 + 1 : Int) : Rat) * (2 : Rat) ^ ((e - (sh + 2)).fdiv 2) := zp_lt (by omega)
  have l2 : ((z * 2 + 1 : Int) : Rat) * (2 : Rat) ^ ((e - (sh + 2)).fdiv 2) < ((z * 2 + 2 : Int) : Rat) * (2 : Rat) ^ ((e - (sh + 2)).fdiv 2) := zp_lt (by omega)
  have w1 : (z : Rat) * (2 : Rat) ^ ((e - sh).fdiv 2) = ((z * 2 : Int) : Rat) * (2 : Rat) ^ ((e - (sh + 2)).fdiv 2) := by
    rw [eu, Rat.intCast_mul]; have : ((2 : Int) : Rat) = 2 := rfl; grind
  have w2 : ((z + 1 : Int) : Rat) * (2 : Rat) ^ ((e - sh).fdiv 2) = ((z * 2 + 2 : Int) : Rat) * (2 : Rat) ^ ((e - (sh + 2)).fdiv 2) := by
    rw [eu, Rat.intCast_add, Rat.intCast_add, Rat.intCast_mul]; have : ((2 : Int) : Rat) = 2 := rfl; have : ((1 : Int) : Rat) = 1 := rfl; grind
  have zz : (0 : Rat) ≤ (z : Rat) * (2 : Rat) ^ ((e - sh).fdiv 2) := Rat.mul_nonneg (ic_le (Int.le_of_lt z0)) (Rat.le_of_lt hu)
  have key := st _ l1 l2
  rw [e0] at key
  generalize (m * 2 ^ sh.toNat : Int) = S at *
  generalize (2 : Rat) ^ ((e - sh).fdiv 2) = u at *
  generalize ((z * 2 : Int) : Rat) * (2 : Rat) ^ ((e - (sh + 2)).fdiv 2) = L at *
  generalize ((z * 2 + 1 : Int) : Rat) * (2 : Rat) ^ ((e - (sh + 2)).fdiv 2) = M at *
  generalize ((z * 2 + 2 : Int) : Rat) * (2 : Rat) ^ ((e - (sh + 2)).fdiv 2) = H at *
  have hM := key.hi rfl
  have hH : H ≤ x.val := by
    refine Classical.byContradiction fun c => ?_
    have k2 := st ((x.val + H) / 2) (by grind) (by grind)
    rw [e0] at k2
    have := k2.hi rfl
    grind
  have H0 : 0 ≤ H := by grind
  refine ⟨key.ok, key.bc, by grind, fun e => (nomatch e), fun _ => ?_, fun e => (nomatch e), fun _ y hy y0 hv => ?_⟩
  · have := sq_mono H0 hH
    rw [← w2] at this
    grind
  · refine key.cl y hy ?_
    rcases nf y hy with g | g
    · exfalso
      have := sq_mono y0 g
      rw [← w1] at this
      grind
    · exact g
section
variable {w : World} {A : Around} {E : Value → Shared → Prop} {s₀ : Shared} {h : Heap} {t : Nat}
end

local macro_rules | `(tactic| kp_flats) => `(tactic| ((with_reducible first | refine' c_from_man_exp (r := .f) ?R ?G ?m ?p ?b ?_ | refine' c_from_man_exp (r := .c) ?R ?G ?m ?p ?b ?_); (case R => kst_all1); (case G => kd_adr); (case m => fold_depth); (case p => fold_depth); (case b => fold_depth); intro _ _ _ _ _ _ _ _ k' T' S'; (have F' := Fm.add (Fm.after (by assumption) k') T')))

section
variable {w : World} {A : Around} {E : Value → Shared → Prop} {s₀ : Shared} {h : Heap} {t : Nat}
theorem c_mpf_sqrt {r : Rd} {a : Addr} {xs : Mpf} {p B : Int} {u1 u2 u3 u4 w1 w2 : Tok} {Q : Value → Shared → Prop} (R : Rm 5 A) (G : Gl w h) (hr : r = .f ∨ r = .c)
  (Ts : IsTup h a #[.int xs.sg u1, .int xs.mn u2, .int xs.ex u3, .int xs.bc u4]) (fs : Pf B xs) (hp : 1 ≤ p) (hpB : p ≤ 100) (hB : B ≤ 1000)
  (q : ∀ a h' t' x u1 u2 u3 u4, Kp h h' → IsTup h' a #[.int x.sg u1, .int x.mn u2, .int x.ex u3, .int x.bc u4] → SqIs r p xs.val x → Q (.ref a) (St s₀ h' t')) :
  wpAny (MM w) A (call (.ref 198) [.ref a, .int p w1, .str r.str w2]) Q E (St s₀ h t) := by
  obtain ⟨sg, sm, se, sb⟩ := xs
  obtain ⟨⟨-, -, os2, -, -⟩, rfl, hm, ⟨zs1, zs2, zs3⟩⟩ := fs
  dsimp only at hm os2 zs1 zs2 zs3 Ts
  have bs : intBits sm ≤ 1000 := by omega
  have bsp := ib_pos hm
  refine' enter [24, 10, 11, 6, 7, 8, 9, 55, 49] [57, 20, 54, 58, 5, 56] [(11, .str r.str w2), (10, .int p w1), (24, .ref a)] R G rfl ?hcd ?hb ?hlo ?hgl ?hms ?hco ?hgen ?hk ?hcell ?_
  kxs_still
  intro A' env h₁ t' E' R' F
  replace F := F.add (IsTup.keeps Ts F.kp)
  leaf_len
  repeat' ((fail_if_success (with_reducible show wpAny _ _ (execs (Stmt.If (Expr.BinOp (Expr.Name (X 8) _) _ _ _) _ _ _ :: _) _) _ _ _)); kat_tups)
  refine s_join (fun hh => ∃ (m e b : Int) (y1 y2 y3 : Tok), Fm w ⟨h, []⟩ env [24, 10, 11, 6, 7, 8, 9, 55, 49] [57, 20, 54, 58, 5, 56] [(7, .int m y1), (8, .int e y2), (9, .int b y3), (10, .int p w1), (11, .str r.str w2)] [] hh ∧
    0 < m ∧ b = intBits m ∧ Hd (e % 2 = 0) ∧ (m : Rat) * (2 : Rat) ^ e = Mpf.val ⟨0, sm, se, sb⟩ ∧ b ≤ 1001) ?_ ?_
  · krn_off
    · rename Raw _ _ _ _ _ _ => S'
      rename Builtin.bitAnd se 1 = 0 => h1
      rename sm = 1 => h2
      subst h2
      exact q _ _ _ _ _ _ _ _ (Fm.kp (by assumption)) (by assumption) (sq_one hr hp h1 S')
    · refine jn ⟨sm, se, sb, _, _, _, by isplit, hm, os2, Hd.mk ?_, ?_, by omega⟩
      · rename Builtin.bitAnd se 1 = 0 => h1
        rw [bitAnd_m1] at h1
        exact h1
      · rw [val_eq, sv_zero]
    · refine jn ⟨_, _, _, _, _, _, by isplit, ?_, ?_, ?_, ?_, ?_⟩
      · exact Int.mul_pos hm (p2_pos _)
      · rw [show (2 : Int) ^ (1 : Int).toNat = 2 ^ 1 from rfl, ib_mul_p2 hm, os2]; omega
      · refine Hd.mk ?_
        rename ¬Builtin.bitAnd se 1 = 0 => h1
        have := odd_of h1
        omega
      · rw [show (2 : Int) ^ (1 : Int).toNat = 2 ^ 1 from rfl, val_eq, sv_zero]
        have e1 := zp_add (se - 1) 1
        rw [show se - 1 + ((1 : Nat) : Int) = se by omega] at e1
        rw [e1, Rat.intCast_mul]
        grind
      · omega
  · rintro hh tt ⟨m, e, b, y1, y2, y3, F9, hm', hb, he, hv, hb'⟩
    rw [← hv] at q
    have hbp := ib_pos hm'
    have hsh := bitAnd_m1 (max 4 (2 * p - b + 4))
    have hN := Int.mul_pos hm' (p2_pos (max 4 (2 * p - b + 4) + Builtin.bitAnd (max 4 (2 * p - b + 4)) 1).toNat)
    have hNb : intBits (m * 2 ^ (max 4 (2 * p - b + 4) + Builtin.bitAnd (max 4 (2 * p - b + 4)) 1).toNat) ≤ 10000 := Nat.le_trans (bits_mul (Nat.le_refl _) (Nat.le_of_eq (ib_p2 _))) (by omega)
    have g1 : (max 4 (2 * p - b + 4) + Builtin.bitAnd (max 4 (2 * p - b + 4)) 1) % 2 = 0 := by omega
    have g2 : 4 ≤ max 4 (2 * p - b + 4) + Builtin.bitAnd (max 4 (2 * p - b + 4)) 1 := by omega
    have g3 : 2 * p - b + 4 ≤ max 4 (2 * p - b + 4) + Builtin.bitAnd (max 4 (2 * p - b + 4)) 1 := by omega
    clear F
    rcases hr with rfl | rfl <;> simp only [Rd.str] at F9
    · repeat' ((fail_if_success (with_reducible show wpAny _ _ (call (Value.ref 86) _) _ _ _)); kat_tups)
      rename ((0 : Int) < _) => z0
      rename ((_ : Int) * _ ≤ _) => z1
      have zb := Nat.le_trans (ib_sq z0 z1) hNb
      krn_off
      exact q _ _ _ _ _ _ _ _ (Fm.kp (by assumption)) (by assumption) (sq_floor hm' hp hb he.out g1 g2 g3 z0 z1 (by assumption) (by assumption))
    · repeat' ((fail_if_success (with_reducible show wpAny _ _ (execs (Stmt.If (Expr.Name (X 49) _) _ _ _ :: _) _) _ _ _)); kat_tups)
      rename ((0 : Int) < _) => z0
      rename ((_ : Int) * _ ≤ _) => z1
      have zb := Nat.le_trans (ib_sq z0 z1) hNb
      have zb' := ib_2p1 zb
      have zp : ∀ z : Int, 0 < z → 0 < z * 2 ^ (1 : Int).toNat + 1 := fun z hz => by have := Int.mul_pos hz (p2_pos (1 : Int).toNat); omega
      have zp' := zp _ z0
      krn_off
      · exact q _ _ _ _ _ _ _ _ (Fm.kp (by assumption)) (by assumption) (sq_ceil0 hm' hp hb he.out g1 g2 g3 z0 (by omega) (by assumption))
      · exact q _ _ _ _ _ _ _ _ (Fm.kp (by assumption)) (by assumption) (sq_ceil1 hm' hp hb he.out g1 g2 g3 z0 z1 (by assumption) (by omega) (by assumption))
end

local macro_rules | `(tactic| kp_flats) => `(tactic| ((with_reducible first | refine' c_mpf_sqrt (r := .f) ?R ?G ?r ?T ?f ?p ?p' ?B ?_ | refine' c_mpf_sqrt (r := .c) ?R ?G ?r ?T ?f ?p ?p' ?B ?_); (case R => kst_all1); (case G => kd_adr); (case r => first | exact .inl rfl | exact .inr rfl); (case T => kbo_bools); (case f => fold_depth); (case p => fold_depth); (case p' => fold_depth); (case B => fold_depth); intro _ _ _ _ _ _ _ _ k' T' S'; (have F' := Fm.add (Fm.after (by assumption) k') T')))

theorem rnd_pos {r : Rd} {p : Int} {Y : Rat} {x : Mpf} (h : Rnd r p Y x) (hY : 0 < Y) (hp : 2 ≤ p) : x.sg = 0 ∧ 0 < x.mn := by
  have h1 := (h.near Y Rat.le_refl (by grind)).2
  have h2 := zp_mono (show 1 - p ≤ -1 by omega)
  have h3 : (2 : Rat) ^ (-1 : Int) = 1 / 2 := by decide +kernel
  rw [h3] at h2
  have h4 := Rat.mul_le_mul_of_nonneg_right h2 (Rat.le_of_lt hY)
  have h5 : 0 < x.val := by grind
  have h6 : ¬ x.mn = 0 := fun c => by rw [val_of0 c] at h5; exact absurd h5 (by decide)
  have h7 : 0 < x.mn := by have := h.ok.mn; omega
  refine ⟨Classical.byContradiction fun c => ?_, h7⟩
  have := neg_val h7 c
  grind
theorem val_pos {B : Int} {x : Mpf} (f : Pf B x) : 0 < x.val := pos_val f.mn f.sg
def Mpf.zero : Mpf := ⟨0, 0, 0, 0⟩
theorem nf_zero {B : Int} (h : 0 ≤ B) : Nf B Mpf.zero := ⟨⟨.inl rfl, Int.le_refl _, rfl, fun _ => ⟨rfl, rfl⟩, fun h => absurd rfl h⟩, ⟨by show -B ≤ 0; omega, h, h⟩⟩
theorem t_zero' {w : World} {h : Heap} (G : Gl w h) : IsTup h 56 #[.int Mpf.zero.sg 255, .int Mpf.zero.mn 187, .int Mpf.zero.ex 256, .int Mpf.zero.bc 257] := t_zero G
section
variable {w : World} {A : Around} {E : Value → Shared → Prop} {s₀ : Shared} {h : Heap} {t : Nat}
theorem c_sign_pos {a : Addr} {x : Mpf} {B : Int} {u1 u2 u3 u4 : Tok} {Q : Value → Shared → Prop} (R : Rm 1 A) (G : Gl w h) (T : IsTup h a #[.int x.sg u1, .int x.mn u2, .int x.ex u3, .int x.bc u4]) (f : Pf B x)
  (q : ∀ h' t' u, Kp h h' → Q (.int 1 u) (St s₀ h' t')) : wpAny (MM w) A (call (.ref 151) [.ref a]) Q E (St s₀ h t) := by
  refine c_mpf_sign R G T f.ok fun h' t' u k => ?_
  rw [if_neg (Int.ne_of_gt f.mn), if_pos f.sg]
  exact q h' t' u k
theorem c_sign_zero {a : Addr} {x : Mpf} {u1 u2 u3 u4 : Tok} {Q : Value → Shared → Prop} (R : Rm 1 A) (G : Gl w h) (T : IsTup h a #[.int x.sg u1, .int x.mn u2, .int x.ex u3, .int x.bc u4]) (ok : x.Ok) (h0 : x.mn = 0)
  (q : ∀ h' t' u, Kp h h' → Q (.int 0 u) (St s₀ h' t')) : wpAny (MM w) A (call (.ref 151) [.ref a]) Q E (St s₀ h t) := by
  refine c_mpf_sign R G T ok fun h' t' u k => ?_
  rw [if_pos h0]
  exact q h' t' u k
theorem c_sign_neg {a : Addr} {x : Mpf} {u1 u2 u3 u4 : Tok} {Q : Value → Shared → Prop} (R : Rm 1 A) (G : Gl w h) (T : IsTup h a #[.int x.sg u1, .int x.mn u2, .int x.ex u3, .int x.bc u4]) (ok : x.Ok) (h0 : 0 < x.mn) (h1 : ¬ x.sg = 0)
  (q : ∀ h' t' u, Kp h h' → Q (.int (-1) u) (St s₀ h' t')) : wpAny (MM w) A (call (.ref 151) [.ref a]) Q E (St s₀ h t) := by
  refine c_mpf_sign R G T ok fun h' t' u k => ?_
  rw [if_neg (Int.ne_of_gt h0), if_neg h1]
  exact q h' t' u k
theorem c_ge_zero {a : Addr} {xs : Mpf} {B : Int} {u1 u2 u3 u4 : Tok} {Q : Value → Shared → Prop} (R : Rm 7 A) (G : Gl w h)
  (Ts : IsTup h a #[.int xs.sg u1, .int xs.mn u2, .int xs.ex u3, .int xs.bc u4]) (fs : Pf B xs) (hB0 : 5 ≤ B) (hB : B ≤ 100000) (q : ∀ h' t', Kp h h' → Q (.bool true) (St s₀ h' t')) :
  wpAny (MM w) A (call (.ref 121) [.ref a, .ref 56]) Q E (St s₀ h t) := by
  refine c_mpf_ge (xt := Mpf.zero) R G Ts (t_zero' G) fs (nf_zero (by omega)) hB0 hB fun z h' t' k e => ?_
  have e' : z = true := e.mpr (by rw [show Mpf.zero.val = 0 from val_zero 0 0 0]; exact Rat.le_of_lt (val_pos fs))
  rw [e']
  exact q h' t' k
end

local macro_rules | `(tactic| kp_flats) => `(tactic| ((with_reducible refine' c_sign_zero ?R ?G ?T ?f ?z ?_); (case R => kst_all1); (case G => kd_adr); (case T => kbo_bools); (case f => with_reducible assumption); (case z => with_reducible assumption); intro _ _ _ k'; (have F' := Fm.after (by assumption) k')))

local macro_rules | `(tactic| kp_flats) => `(tactic| ((with_reducible refine' c_sign_neg ?R ?G ?T ?f ?z ?z' ?_); (case R => kst_all1); (case G => kd_adr); (case T => kbo_bools); (case f => with_reducible assumption); (case z => with_reducible assumption); (case z' => with_reducible assumption); intro _ _ _ k'; (have F' := Fm.after (by assumption) k')))

local macro_rules | `(tactic| kp_flats) => `(tactic| ((with_reducible refine' c_sign_pos ?R ?G ?T ?f ?_); (case R => kst_all1); (case G => kd_adr); (case T => kbo_bools); (case f => with_reducible assumption); intro _ _ _ k'; (have F' := Fm.after (by assumption) k')))

local macro_rules | `(tactic| kp_flats) => `(tactic| ((with_reducible refine' c_ge_zero ?R ?G ?T ?f ?b ?B ?_); (case R => kst_all1); (case G => kd_adr); (case T => kbo_bools); (case f => with_reducible assumption); (case b => fold_depth); (case B => fold_depth); intro _ _ k'; (have F' := Fm.after (by assumption) k')))

section
variable {w : World} {A : Around} {E : Value → Shared → Prop} {s₀ : Shared} {h : Heap} {t : Nat}
theorem c_mpi_mid {c a b : Addr} {xa xb : Mpf} {p B : Int} {u1 u2 u3 u4 v1 v2 v3 v4 w1 : Tok} {Q : Value → Shared → Prop} (R : Rm 5 A) (G : Gl w h)
  (Tc : IsTup h c [.ref a, .ref b].toArray) (Ta : IsTup h a #[.int xa.sg u1, .int xa.mn u2, .int xa.ex u3, .int xa.bc u4]) (Tb : IsTup h b #[.int xb.sg v1, .int xb.mn v2, .int xb.ex v3, .int xb.bc v4])
  (fa : Pf B xa) (fb : Pf B xb) (hp : 2 ≤ p) (hpB : p ≤ B) (hB : B ≤ 10000) (ha : xa.bc ≤ p) (hb : xb.bc ≤ p)
  (q : ∀ a h' t' x u1 u2 u3 u4, Kp h h' → IsTup h' a #[.int x.sg u1, .int x.mn u2, .int x.ex u3, .int x.bc u4] → (∃ y, Rnd .n p (xa.val + xb.val) y ∧ x = ⟨y.sg, y.mn, y.ex + -1, y.bc⟩) → Pf (4 * B + 10 + 1) x → Q (.ref a) (St s₀ h' t')) :
  wpAny (MM w) A (call (.ref 213) [.ref c, .int p w1]) Q E (St s₀ h t) := by
  have nb := fb.nf
  refine' enter [24, 10, 59, 60] [64, 46, 14] [(10, .int p w1), (24, .ref c)] R G rfl ?hcd ?hb ?hlo ?hgl ?hms ?hco ?hgen ?hk ?hcell ?_
  kxs_still
  intro A' env h₁ t' E' R' F
  replace F := ((F.add (IsTup.keeps Ta F.kp)).add (IsTup.keeps Tb F.kp)).add (IsTup.keeps Tc F.kp)
  leaf_len
  repeat' ((fail_if_success (with_reducible show wpAny _ _ (call (Value.ref 182) _) _ _ _)); kat_tups)
  rename Res _ _ _ _ => S
  rename Nf (4 * B + 10) _ => N
  have S' := S.rn (by omega)
  have vp : 0 < xa.val + xb.val := by have := val_pos fa; have := val_pos fb; grind
  obtain ⟨q1, q2⟩ := rnd_pos S' vp hp
  have P := Pf.mk N.ok q1 q2 N.sz
  krn_off
  exact q _ _ _ _ _ _ _ _ (Fm.kp (by assumption)) (by assumption) ⟨_, S', by assumption⟩ (by assumption)
theorem c_mpi_subv {vals : List Value} {c d a b e f : Addr} {xa xb ya yb : Mpf} {p B : Int} {u1 u2 u3 u4 v1 v2 v3 v4 u1' u2' u3' u4' v1' v2' v3' v4' w1 : Tok} {Q : Value → Shared → Prop} (R : Rm 6 A) (G : Gl w h)
  (hvals : Binds w 206 (St s₀ h t) vals [(10, .int p w1), (13, .ref d), (24, .ref c)])
  (Tc : IsTup h c [.ref a, .ref b].toArray) (Td : IsTup h d [.ref e, .ref f].toArray) (Ta : IsTup h a #[.int xa.sg u1, .int xa.mn u2, .int xa.ex u3, .int xa.bc u4]) (Tb : IsTup h b #[.int xb.sg v1, .int xb.mn v2, .int xb.ex v3, .int xb.bc v4])
  (Te : IsTup h e #[.int ya.sg u1', .int ya.mn u2', .int ya.ex u3', .int ya.bc u4']) (Tf : IsTup h f #[.int yb.sg v1', .int yb.mn v2', .int yb.ex v3', .int yb.bc v4'])
  (fa : Pf B xa) (fb : Pf B xb) (ga : Nf B ya) (gb : Nf B yb) (hp : 0 ≤ p) (hpB : p ≤ B) (hB : B ≤ 100000) (ha : Hd (p = 0 ∨ (xa.bc ≤ p ∧ yb.bc ≤ p))) (hb : Hd (p = 0 ∨ (xb.bc ≤ p ∧ ya.bc ≤ p)))
  (q : ∀ c a b h' t' za zb u1 u2 u3 u4 v1 v2 v3 v4, Kp h h' → IsTup h' c [.ref a, .ref b].toArray → IsTup h' a #[.int za.sg u1, .int za.mn u2, .int za.ex u3, .int za.bc u4] → IsTup h' b #[.int zb.sg v1, .int zb.mn v2, .int zb.ex v3, .int zb.bc v4] →
    Res .f p (xa.val - yb.val) za → Res .c p (xb.val - ya.val) zb → Nf (4 * B + 10) za → Nf (4 * B + 10) zb → Q (.ref c) (St s₀ h' t')) :
  wpAny (MM w) A (call (.ref 206) vals) Q E (St s₀ h t) := by
  have ha' : Hd (p = 0 ∨ (xa.bc ≤ p ∧ yb.bc ≤ p) ∨ xa.bc + xa.ex = yb.bc + yb.ex) := ha.out.elim .inl fun h => .inr (.inl h)
  have hb' : Hd (p = 0 ∨ (xb.bc ≤ p ∧ ya.bc ≤ p) ∨ xb.bc + xb.ex = ya.bc + ya.ex) := hb.out.elim .inl fun h => .inr (.inl h)
  refine' enter [24, 13, 10, 59, 60, 61, 62, 25, 26] [36, 37, 63, 38, 40, 39] [(10, .int p w1), (13, .ref d), (24, .ref c)] R G rfl ?hcd ?hb ?hlo ?hgl ?hms ?hco ?hgen ?hk ?hcell ?_
  case hb => exact hvals _ _ rfl rfl
  (case hcd => kernel_rfl); (case hlo => kernel_rfl); (case hgl => kernel_rfl); (case hms => exact rfl); (case hco => exact rfl); (case hgen => exact rfl); (case hk => exact rfl); (case hcell => exact rfl)
  intro A' env h₁ t' E' R' F
  replace F := (((((F.add (IsTup.keeps Ta F.kp)).add (IsTup.keeps Tb F.kp)).add (IsTup.keeps Tc F.kp)).add (IsTup.keeps Td F.kp)).add (IsTup.keeps Te F.kp)).add (IsTup.keeps Tf F.kp)
  leaf_len
  repeat' ((fail_if_success (with_reducible show wpAny _ _ (execs (Stmt.If _ _ _ _ :: _) _) _ _ _)); kat_tups)
  rename Res .f _ _ _ => S1
  rename Res .c _ _ _ => S2
  have o1 := S1.ok.bc
  have o2 := S2.ok.bc
  krn_off
  rename Fm _ _ _ _ _ _ _ _ => F9
  exact q _ _ _ _ _ _ _ _ _ _ _ _ _ _ _ F9.kp (F9.tup (.head _)) (F9.tup (by kcf_m)) (F9.tup (by kcf_m)) S1 S2 (by assumption) (by assumption)
theorem c_mpi_sqrt {c a b : Addr} {xa xb : Mpf} {p B : Int} {u1 u2 u3 u4 v1 v2 v3 v4 w1 : Tok} {Q : Value → Shared → Prop} (R : Rm 6 A) (G : Gl w h)
  (Tc : IsTup h c [.ref a, .ref b].toArray) (Ta : IsTup h a #[.int xa.sg u1, .int xa.mn u2, .int xa.ex u3, .int xa.bc u4]) (Tb : IsTup h b #[.int xb.sg v1, .int xb.mn v2, .int xb.ex v3, .int xb.bc v4])
  (fa : Pf B xa) (fb : Pf B xb) (hp : 1 ≤ p) (hp' : p ≤ 100) (hB : B ≤ 1000)
  (q : ∀ c a b h' t' za zb u1 u2 u3 u4 v1 v2 v3 v4, Kp h h' → IsTup h' c [.ref a, .ref b].toArray → IsTup h' a #[.int za.sg u1, .int za.mn u2, .int za.ex u3, .int za.bc u4] → IsTup h' b #[.int zb.sg v1, .int zb.mn v2, .int zb.ex v3, .int zb.bc v4] →
    SqIs .f p xa.val za → SqIs .c p xb.val zb → Q (.ref c) (St s₀ h' t')) :
  wpAny (MM w) A (call (.ref 258) [.ref c, .int p w1]) Q E (St s₀ h t) := by
  refine' enter [24, 10, 59, 60, 25, 26] [79, 37, 63] [(10, .int p w1), (24, .ref c)] R G rfl ?hcd ?hb ?hlo ?hgl ?hms ?hco ?hgen ?hk ?hcell ?_
  kxs_still
  intro A' env h₁ t' E' R' F
  replace F := ((F.add (IsTup.keeps Ta F.kp)).add (IsTup.keeps Tb F.kp)).add (IsTup.keeps Tc F.kp)
  leaf_len
  krn_off
  rename Fm _ _ _ _ _ _ _ _ => F9
  exact q _ _ _ _ _ _ _ _ _ _ _ _ _ _ _ F9.kp (F9.tup (.head _)) (F9.tup (by kcf_m)) (F9.tup (by kcf_m)) (by assumption) (by assumption)
end
section
variable {w : World} {A : Around} {E : Value → Shared → Prop} {s₀ : Shared} {h : Heap} {t : Nat}
theorem c_mpi_square {c a b : Addr} {xa xb : Mpf} {B : Int} {u1 u2 u3 u4 v1 v2 v3 v4 : Tok} {Q : Value → Shared → Prop} (R : Rm 8 A) (G : Gl w h)
  (Tc : IsTup h c [.ref a, .ref b].toArray) (Ta : IsTup h a #[.int xa.sg u1, .int xa.mn u2, .int xa.ex u3, .int xa.bc u4]) (Tb : IsTup h b #[.int xb.sg v1, .int xb.mn v2, .int xb.ex v3, .int xb.bc v4])
  (fa : Pf B xa) (fb : Pf B xb) (hB0 : 5 ≤ B) (hB : B ≤ 100000)
  (q : ∀ c a b h' t' za zb u1 u2 u3 u4 v1 v2 v3 v4, Kp h h' → IsTup h' c [.ref a, .ref b].toArray → IsTup h' a #[.int za.sg u1, .int za.mn u2, .int za.ex u3, .int za.bc u4] → IsTup h' b #[.int zb.sg v1, .int zb.mn v2, .int zb.ex v3, .int zb.bc v4] →
    za.val = xa.val * xa.val → zb.val = xb.val * xb.val → Pf (2 * B) za → Pf (2 * B) zb → Q (.ref c) (St s₀ h' t')) :
  wpAny (MM w) A (call (.ref 244) [.ref c]) Q E (St s₀ h t) := by
  refine' enter [24, 10, 59, 60, 25, 26] [74, 12, 71, 37, 63] [(10, .int 0 613), (24, .ref c)] R G rfl ?hcd ?hb ?hlo ?hgl ?hms ?hco ?hgen ?hk ?hcell ?_
  kxs_still
  intro A' env h₁ t' E' R' F
  replace F := ((F.add (IsTup.keeps Ta F.kp)).add (IsTup.keeps Tb F.kp)).add (IsTup.keeps Tc F.kp)
  leaf_len
  krn_off
  rename Fm _ _ _ _ _ _ _ _ => F9
  exact q _ _ _ _ _ _ _ _ _ _ _ _ _ _ _ F9.kp (F9.tup (.head _)) (F9.tup (by kcf_m)) (F9.tup (by kcf_m)) (by assumption) (by assumption) (by assumption) (by assumption)
theorem c_mpi_mul {c d a b e f : Addr} {xa xb ya yb : Mpf} {B : Int} {u1 u2 u3 u4 v1 v2 v3 v4 u1' u2' u3' u4' v1' v2' v3' v4' w1 : Tok} {Q : Value → Shared → Prop} (R : Rm 3 A) (G : Gl w h)
  (Tc : IsTup h c [.ref a, .ref b].toArray) (Td : IsTup h d [.ref e, .ref f].toArray) (Ta : IsTup h a #[.int xa.sg u1, .int xa.mn u2, .int xa.ex u3, .int xa.bc u4]) (Tb : IsTup h b #[.int xb.sg v1, .int xb.mn v2, .int xb.ex v3, .int xb.bc v4])
  (Te : IsTup h e #[.int ya.sg u1', .int ya.mn u2', .int ya.ex u3', .int ya.bc u4']) (Tf : IsTup h f #[.int yb.sg v1', .int yb.mn v2', .int yb.ex v3', .int yb.bc v4'])
  (fa : Pf B xa) (fb : Pf B xb) (ga : Pf B ya) (gb : Pf B yb) (hB : B ≤ 100000)
  (q : ∀ c a b h' t' za zb u1 u2 u3 u4 v1 v2 v3 v4, Kp h h' → IsTup h' c [.ref a, .ref b].toArray → IsTup h' a #[.int za.sg u1, .int za.mn u2, .int za.ex u3, .int za.bc u4] → IsTup h' b #[.int zb.sg v1, .int zb.mn v2, .int zb.ex v3, .int zb.bc v4] →
    za.val = xa.val * ya.val → zb.val = xb.val * yb.val → Pf (2 * B) za → Pf (2 * B) zb → Q (.ref c) (St s₀ h' t')) :
  wpAny (MM w) A (call (.ref 236) [.ref c, .ref d, .int 0 w1]) Q E (St s₀ h t) := by
  refine' enter [24, 13, 10, 59, 60, 61, 62, 66, 67, 68, 69, 25, 26] [41, 39, 40, 71, 37, 63, 38, 12] [(10, .int 0 w1), (13, .ref d), (24, .ref c)] R G rfl ?hcd ?hb ?hlo ?hgl ?hms ?hco ?hgen ?hk ?hcell ?_
  kxs_still
  intro A' env h₁ t' E' R' F
  replace F := (((((F.add (IsTup.keeps Ta F.kp)).add (IsTup.keeps Tb F.kp)).add (IsTup.keeps Tc F.kp)).add (IsTup.keeps Td F.kp)).add (IsTup.keeps Te F.kp)).add (IsTup.keeps Tf F.kp)
  leaf_len
  krn_off
  rename Fm _ _ _ _ _ _ _ _ => F9
  exact q _ _ _ _ _ _ _ _ _ _ _ _ _ _ _ F9.kp (F9.tup (.head _)) (F9.tup (by kcf_m)) (F9.tup (by kcf_m)) (by assumption) (by assumption) (by assumption) (by assumption)
end

local macro_rules | `(tactic| kp_flats) => `(tactic| ((with_reducible refine' c_mpi_mul ?R ?G ?T1 ?T2 ?T3 ?T4 ?T5 ?T6 ?f1 ?f2 ?f3 ?f4 ?B ?_); (case R => kst_all1); (case G => kd_adr); (case T1 => kbo_bools); (case T2 => kbo_bools); (case T3 => kbo_bools); (case T4 => kbo_bools); (case T5 => kbo_bools); (case T6 => kbo_bools); (case f1 => fold_depth); (case f2 => fold_depth); (case f3 => fold_depth); (case f4 => fold_depth); (case B => fold_depth); intro _ _ _ _ _ _ _ _ _ _ _ _ _ _ _ k' T1' T2' T3' _ _ _ _; (have F' := Fm.add (Fm.add (Fm.add (Fm.after (by assumption) k') T1') T2') T3')))

section
variable {w : World} {A : Around} {E : Value → Shared → Prop} {s₀ : Shared} {h : Heap} {t : Nat}
theorem c_mpi_mul_mpf {c a b e : Addr} {xa xb ya : Mpf} {B : Int} {u1 u2 u3 u4 v1 v2 v3 v4 u1' u2' u3' u4' w1 : Tok} {Q : Value → Shared → Prop} (R : Rm 4 A) (G : Gl w h)
  (Tc : IsTup h c [.ref a, .ref b].toArray) (Ta : IsTup h a #[.int xa.sg u1, .int xa.mn u2, .int xa.ex u3, .int xa.bc u4]) (Tb : IsTup h b #[.int xb.sg v1, .int xb.mn v2, .int xb.ex v3, .int xb.bc v4])
  (Te : IsTup h e #[.int ya.sg u1', .int ya.mn u2', .int ya.ex u3', .int ya.bc u4'])
  (fa : Pf B xa) (fb : Pf B xb) (ga : Pf B ya) (hB : B ≤ 100000)
  (q : ∀ c a b h' t' za zb u1 u2 u3 u4 v1 v2 v3 v4, Kp h h' → IsTup h' c [.ref a, .ref b].toArray → IsTup h' a #[.int za.sg u1, .int za.mn u2, .int za.ex u3, .int za.bc u4] → IsTup h' b #[.int zb.sg v1, .int zb.mn v2, .int zb.ex v3, .int zb.bc v4] →
    za.val = xa.val * ya.val → zb.val = xb.val * ya.val → Pf (2 * B) za → Pf (2 * B) zb → Q (.ref c) (St s₀ h' t')) :
  wpAny (MM w) A (call (.ref 228) [.ref c, .ref e, .int 0 w1]) Q E (St s₀ h t) := by
  refine' enter [24, 13, 10] [65] [(10, .int 0 w1), (13, .ref e), (24, .ref c)] R G rfl ?hcd ?hb ?hlo ?hgl ?hms ?hco ?hgen ?hk ?hcell ?_
  kxs_still
  intro A' env h₁ t' E' R' F
  replace F := (((F.add (IsTup.keeps Ta F.kp)).add (IsTup.keeps Tb F.kp)).add (IsTup.keeps Tc F.kp)).add (IsTup.keeps Te F.kp)
  leaf_len
  krn_off
  rename Fm _ _ _ _ _ _ _ _ => F9
  exact q _ _ _ _ _ _ _ _ _ _ _ _ _ _ _ F9.kp (F9.tup (by kcf_m)) (F9.tup (by kcf_m)) (F9.tup (by kcf_m)) (by assumption) (by assumption) (by assumption) (by assumption)
end

local macro_rules | `(tactic| kp_flats) => `(tactic| ((with_reducible first | refine' c_mpf_div (r := .f) ?R ?G ?T ?T' ?f ?z ?f' ?p ?p' ?B ?_ | refine' c_mpf_div (r := .c) ?R ?G ?T ?T' ?f ?z ?f' ?p ?p' ?B ?_); (case R => kst_all1); (case G => kd_adr); (case T => kbo_bools); (case T' => kbo_bools); (case f => fold_depth); (case z => fold_depth); (case f' => fold_depth); (case p => fold_depth); (case p' => fold_depth); (case B => fold_depth); intro _ _ _ _ _ _ _ _ k' T' S' N'; (have o' := Mpf.Ok.bc (Nf.ok N')); (have F' := Fm.add (Fm.after (by assumption) k') T')))

section
variable {w : World} {A : Around} {E : Value → Shared → Prop} {s₀ : Shared} {h : Heap} {t : Nat}
/-- the ends of a quotient: v by the greater and by the lesser divisor -/
def Quo (p : Int) (v ta tb : Rat) (za zb : Mpf) : Prop := ∃ dl dh : Rat, Rnd .f p dl za ∧ Rnd .c p dh zb ∧ ((0 ≤ v ∧ dl = v / tb ∧ dh = v / ta) ∨ (v ≤ 0 ∧ dl = v / ta ∧ dh = v / tb))
theorem val_neg {x : Mpf} (ok : x.Ok) (h : 0 < x.mn) (hs : ¬ x.sg = 0) : x.val < 0 := neg_val h hs
theorem val_pos' {x : Mpf} (ok : x.Ok) (h : 0 < x.mn) (hs : x.sg = 0) : 0 < x.val := pos_val h hs
theorem val_0 {x : Mpf} (h : x.mn = 0) : x.val = 0 := by
  unfold Mpf.val sv
  rw [h]; simp
theorem c_mpi_div {c d a b e f : Addr} {xa xb ya yb : Mpf} {p B : Int} {u1 u2 u3 u4 v1 v2 v3 v4 u1' u2' u3' u4' v1' v2' v3' v4' w1 : Tok} {Q : Value → Shared → Prop} (R : Rm 5 A) (G : Gl w h)
  (Tc : IsTup h c [.ref a, .ref b].toArray) (Td : IsTup h d [.ref e, .ref f].toArray) (Ta : IsTup h a #[.int xa.sg u1, .int xa.mn u2, .int xa.ex u3, .int xa.bc u4]) (Tb : IsTup h b #[.int xb.sg v1, .int xb.mn v2, .int xb.ex v3, .int xb.bc v4])
  (Te : IsTup h e #[.int ya.sg u1', .int ya.mn u2', .int ya.ex u3', .int ya.bc u4']) (Tf : IsTup h f #[.int yb.sg v1', .int yb.mn v2', .int yb.ex v3', .int yb.bc v4'])
  (fa : Nf B xa) (fb : Nf B xb) (ga : Pf B ya) (gb : Pf B yb) (hp : 1 ≤ p) (hpB : p ≤ B) (hB : B ≤ 5000) (hv : xa.val = xb.val)
  (q : ∀ c a b h' t' za zb u1 u2 u3 u4 v1 v2 v3 v4, Kp h h' → IsTup h' c [.ref a, .ref b].toArray → IsTup h' a #[.int za.sg u1, .int za.mn u2, .int za.ex u3, .int za.bc u4] → IsTup h' b #[.int zb.sg v1, .int zb.mn v2, .int zb.ex v3, .int zb.bc v4] →
    Quo p xa.val ya.val yb.val za zb → Nf (6 * B + 20) za → Nf (6 * B + 20) zb → Q (.ref c) (St s₀ h' t')) :
  wpAny (MM w) A (call (.ref 251) [.ref c, .ref d, .int p w1]) Q E (St s₀ h t) := by
  have oa := fa.ok
  have ob := fb.ok
  have nb : Hd (0 ≤ B) := by show 0 ≤ B; omega
  refine' enter [24, 13, 10, 59, 60, 61, 62, 66, 67, 68, 69, 25, 26] [41, 39, 40, 12, 76, 77, 78, 37, 63, 38] [(10, .int p w1), (13, .ref d), (24, .ref c)] R G rfl ?hcd ?hb ?hlo ?hgl ?hms ?hco ?hgen ?hk ?hcell ?_
  kxs_still
  intro A' env h₁ t' E' R' F
  replace F := (((((F.add (IsTup.keeps Ta F.kp)).add (IsTup.keeps Tb F.kp)).add (IsTup.keeps Tc F.kp)).add (IsTup.keeps Td F.kp)).add (IsTup.keeps Te F.kp)).add (IsTup.keeps Tf F.kp)
  leaf_len
  by_cases h0 : xa.mn = 0
  · have h0' : xb.mn = 0 := by
      refine Classical.byContradiction fun c => ?_
      have cp : 0 < xb.mn := by have := ob.mn; omega
      have e0 := val_0 h0
      rw [hv] at e0
      by_cases cs : xb.sg = 0
      · have := val_pos' ob cp cs; grind
      · have := val_neg ob cp cs; grind
    krn_off
    rename Fm _ _ _ _ _ _ _ _ => F9
    refine q _ _ _ _ _ Mpf.zero Mpf.zero _ _ _ _ _ _ _ _ F9.kp (F9.tup (.head _)) (t_zero' F9.gw) (t_zero' F9.gw) ⟨0, 0, rnd_zero (by omega), rnd_zero (by omega), .inl ?_⟩ (nf_zero (by omega)) (nf_zero (by omega))
    rw [val_0 h0]
    exact ⟨Rat.le_refl, by grind, by grind⟩
  · have ap : 0 < xa.mn := by have := oa.mn; omega
    have bp : 0 < xb.mn := by
      refine Classical.byContradiction fun c => ?_
      have h0' : xb.mn = 0 := by have := ob.mn; omega
      have e0 := val_0 h0'
      rw [← hv] at e0
      by_cases cs : xa.sg = 0
      · have := val_pos' oa ap cs; grind
      · have := val_neg oa ap cs; grind
    by_cases as : xa.sg = 0
    · have bs : xb.sg = 0 := by
        refine Classical.byContradiction fun c => ?_
        have := val_neg ob bp c
        have := val_pos' oa ap as
        grind
      have Pa : Pf B xa := ⟨oa, as, ap, fa.sz⟩
      have Pb : Pf B xb := ⟨ob, bs, bp, fb.sz⟩
      krn_off
      rename Fm _ _ _ _ _ _ _ _ => F9
      rename Rnd .f _ _ _ => S1
      rename Rnd .c _ _ _ => S2
      rw [← hv] at S2
      exact q _ _ _ _ _ _ _ _ _ _ _ _ _ _ _ F9.kp (F9.tup (.head _)) (F9.tup (by kcf_m)) (F9.tup (by kcf_m)) ⟨_, _, S1, S2, .inl ⟨Rat.le_of_lt (val_pos' oa ap as), rfl, rfl⟩⟩ (by assumption) (by assumption)
    · have bs : ¬ xb.sg = 0 := by
        intro c
        have := val_pos' ob bp c
        have := val_neg oa ap as
        grind
      krn_off
      rename Fm _ _ _ _ _ _ _ _ => F9
      rename Rnd .f _ _ _ => S1
      rename Rnd .c _ _ _ => S2
      rw [← hv] at S2
      exact q _ _ _ _ _ _ _ _ _ _ _ _ _ _ _ F9.kp (F9.tup (.head _)) (F9.tup (by kcf_m)) (F9.tup (by kcf_m)) ⟨_, _, S1, S2, .inr ⟨Rat.le_of_lt (val_neg oa ap as), rfl, rfl⟩⟩ (by assumption) (by assumption)
end
section
variable {w : World} {h₀ : Base} {h h' : Heap} {env : Env} {lo gl : List Nat} {ms : List (Nat × Value)} {l : Led}
theorem Fm.hold (F : Fm w h₀ env lo gl ms l h) {I : Addr} {o : Obj} (e : h.get? I = some o) (hL : I ≠ env.locals) : Fm w ⟨h₀.hp, (I, o) :: h₀.its⟩ env lo gl ms l h :=
  ⟨F.g, F.e, F.f, F.n, fun p hp => by
    rcases List.mem_cons.mp hp with rfl | hp
    · exact ⟨e, hL⟩
    · exact F.x p hp⟩
/-- a thing held is changed -/
theorem Fm.but {hp : Heap} {its : List (Addr × Obj)} {I : Addr} {o : Obj} {fs : Array Value} (F : Fm w ⟨hp, (I, o) :: its⟩ env lo gl ms l h) (ho : o.data = .fields fs) (hb : hp.get? I = none)
    (hi : ∀ p ∈ its, p.1 ≠ I) (k : Heap.ExtBut I h h') : Fm w ⟨hp, its⟩ env lo gl ms l h' := by
  obtain ⟨eI, nI⟩ := F.x (I, o) (.head _)
  refine ⟨F.g, F.e, ?_, fun p hp' => ?_, fun p hp' => ⟨k _ _ (hi p hp') (F.x p (.tail _ hp')).1, (F.x p (.tail _ hp')).2⟩⟩
  · obtain ⟨m, f, r⟩ := F.f
    refine ⟨m, ⟨f.ns.at' fun o e => k _ _ (Ne.symm nI) e, fun b o e => k b o (fun c => ?_) (f.keep b o e), f.above⟩, r⟩
    subst c
    have e' : hp.get? b = some o := e
    rw [hb] at e'
    cases e'
  · obtain ⟨o', ho', hc, n, hd⟩ := F.n p hp'
    refine ⟨o', k _ _ (fun c => ?_) ho', hc, n, hd⟩
    rw [c] at ho'
    rw [eI] at ho'
    cases ho'
    rw [ho] at hd
    cases hd
end
/-- behind a turn's body -/
def FoR (M : Model) (A : Around) (env : Env) (E : Value → Shared → Prop) (x : Nat) (px : Pos) (body : List Stmt) (Q : Flow → Shared → Prop) : Value → Shared → Prop := fun v s₁ =>
  wpAny M A (pyIter v) (fun it s₂ => codeAny M A (.forLoop (.Name (X x) px) it body [] env) (fun r s' => match r with | .ok f => Q f s' | .error e => cameBackBy M A env E e s') s₂) E s₁
section
variable {w : World} {A : Around} {E : Value → Shared → Prop} {s₀ : Shared} {h : Heap} {h₀ : Base} {t : Nat} {lo gl : List Nat} {ms : List (Nat × Value)} {l : Led}
  {prog : Program} {M : Model} {env : Env} {s : Shared} {rest : List Stmt}
theorem s_for {x : Nat} {px pos : Pos} {iter : Expr} {body : List Stmt} {Q : Flow → Shared → Prop} (hs : ∀ x, foldedSetIterable iter env x = pure x)
    (k : wpAny M A (eval iter env) (FoR M A env E x px body Q) E s) : wpAny M A (exec (.For (.Name (X x) px) iter body [] pos) env) Q E s := wpAny_For k hs
theorem r_range1 {n : Int} {u : Tok} {Q : Value → Shared → Prop} (F : Fm w h₀ env lo gl ms l h) (q : ∀ r h' t' t₁ u₁ v₁, IsRange h' r 0 n 1 t₁ u₁ v₁ → Fm w h₀ env lo gl ms l h' → Q (.ref r) (St s₀ h' t')) :
    wpAny (model prog w) A (call (.type "range") [.int n u]) Q E (St s₀ h t) :=
  call_range_1 (s := St s₀ h t) (q _ _ _ _ _ _ (Heap.get?_push_size _ rfl) (F.after fun _ _ e => Heap.get?_push_of_some _ e))
theorem r_range3 {a b c : Int} {t1 t2 t3 : Tok} {Q : Value → Shared → Prop} (F : Fm w h₀ env lo gl ms l h) (hc : c ≠ 0) (hp : Builtin.divisionGoesByPylong (b - a) c = false)
    (q : ∀ r h' t' t₁ u₁ v₁, IsRange h' r a b c t₁ u₁ v₁ → Fm w h₀ env lo gl ms l h' → Q (.ref r) (St s₀ h' t')) :
    wpAny (model prog w) A (call (.type "range") [.int a t1, .int b t2, .int c t3]) Q E (St s₀ h t) :=
  call_range_3 (s := St s₀ h t) hc (q _ _ _ _ _ _ (Heap.get?_push_size _ rfl) (F.after fun _ _ e => Heap.get?_push_of_some _ e)) (.inl hp)
theorem fresh_of {h : Heap} {a : Addr} (ha : h.objs.size ≤ a) : h.get? a = none := Heap.get?_none_of_le ha
/-- a for statement over a range -/
theorem for_range {x : Nat} {px : Pos} {body : List Stmt} {Q : Flow → Shared → Prop} {r : Addr} {a b c : Int} {t₁ u₁ v₁ : Tok} {n : Nat} (P : Nat → List (Nat × Value) → Led → Prop)
    (F : Fm w h₀ env lo gl ms l h) (R : IsRange h r a b c t₁ u₁ v₁) (hsm : Builtin.Range.small a b c = true) (hn : Builtin.Range.rangeSize a b c = (n : Int)) (hA : A.handled = none) (hx : lo.contains x = true) (p0 : P 0 ms l)
    (turn : ∀ i b ms l h t u E', i < n → P i ms l → Fm w b env lo gl ((x, .int (a + (i : Nat) * c) u) :: ms) l h →
      wpAny (model prog w) A (execs body env) (Jn s₀ (fun h => ∃ ms l, P (i + 1) ms l ∧ Fm w b env lo gl ms l h) (fun _ _ => False)) E' (St s₀ h t))
    (q : ∀ h t ms l, P n ms l → Fm w h₀ env lo gl ms l h → Q .next (St s₀ h t)) : FoR (model prog w) A env E x px body Q (.ref r) (St s₀ h t) := by
  unfold FoR
  refine wpAny_pyIter_range (s := St s₀ h t) R hsm ?_
  show codeAny (model prog w) A (.forLoop (.Name (X x) px) (.ref h.objs.size) body [] env) _ _
  generalize hI : h.objs.size = I
  have hlt : ∀ b o, h.get? b = some o → b ≠ I := fun b o e => by rw [← hI]; exact Nat.ne_of_lt (Heap.lt_size e)
  have hb : h₀.hp.get? I = none := by
    cases e : h₀.hp.get? I with
    | none => rfl
    | some o => exact absurd rfl (hlt I o (F.kp I o e))
  have hi : ∀ p ∈ h₀.its, p.1 ≠ I := fun p hp => hlt _ _ (F.x p hp).1
  have hL : I ≠ env.locals := by
    obtain ⟨m, f, _⟩ := F.f
    obtain ⟨o, _, _, e, _⟩ := f.ns
    exact Ne.symm (hlt _ _ e)
  let ob : Int → Int → Obj := fun y left => { cls := .type "range_iterator", dict := none, data := .fields #[rawInt y, rawInt left, rawInt c], slots := #[] }
  refine codeAny_forLoop (fun k s' => ∃ h' t' ms' l' i, s' = St s₀ h' t' ∧ Fm w ⟨h₀.hp, (I, ob (a + (i : Nat) * c) ((n : Int) - (i : Nat))) :: h₀.its⟩ env lo gl ms' l' h' ∧ P i ms' l' ∧ i ≤ n ∧ k = n + 1 - i) ?_ (n + 1)
    ⟨_, _, ms, l, 0, rfl, ?_, p0, Nat.zero_le _, rfl⟩
  · rintro k s' ⟨h', t', ms', l', i, rfl, F', hP, hin, rfl⟩
    have it : IsRangeIter h' I (a + (i : Nat) * c) ((n : Int) - (i : Nat)) c := (F'.x (I, _) (.head _)).1
    by_cases hlt : i < n
    · refine wpAny_pyNext_range_item (s := St s₀ h' t') it (by omega) fun h₁ hit₁ hs₁ => ?_
      have F1 := (F'.but rfl hb hi hs₁.extBut).hold hit₁ hL
      refine PyProof.Rows.assign_Name (r_store F1 hx fun h₂ t₂ F2 => ?_)
      refine wpAny_mono (turn i _ ms' l' h₂ t₂ _ _ hlt hP F2) (fun f s₃ h₃ => ?_) fun _ _ e => e
      cases f with
      | next =>
        obtain ⟨h₃, t₃, rfl, ms₃, l₃, hP₃, F₃⟩ := h₃
        refine ⟨n + 1 - (i + 1), by omega, h₃, t₃, ms₃, l₃, i + 1, rfl, ?_, hP₃, hlt, rfl⟩
        have e1 : a + ((i + 1 : Nat) : Int) * c = a + (i : Int) * c + c := by push_cast; rw [Int.add_mul, Int.one_mul, Int.add_assoc]
        have e2 : (n : Int) - ((i + 1 : Nat) : Int) = (n : Int) - (i : Int) - 1 := by push_cast; omega
        rw [e1, e2]
        exact F₃
      | cont => exact h₃.elim
      | brk => exact h₃.elim
      | ret v => exact h₃.elim
    · obtain rfl : i = n := by omega
      refine wpAny_pyNext_range_end (s := St s₀ h' t') hA it (by omega) fun h₁ he₁ => wpAny_execs_nil ?_
      exact q h₁ t' ms' l' hP (F'.but rfl hb hi he₁)
  · have F1 := F.after (h' := h.push { cls := .type "range_iterator", data := .fields #[rawInt a, rawInt (Builtin.Range.rangeSize a b c), rawInt c] }) fun _ _ e => Heap.get?_push_of_some _ e
    refine F1.hold ?_ hL
    have := Heap.get?_push_size h (o := { cls := .type "range_iterator", data := .fields #[rawInt a, rawInt (Builtin.Range.rangeSize a b c), rawInt c] }) rfl
    rw [hI] at this
    have e : ob (a + ((0 : Nat) : Int) * c) ((n : Int) - ((0 : Nat) : Int)) = { cls := .type "range_iterator", data := .fields #[rawInt a, rawInt (Builtin.Range.rangeSize a b c), rawInt c] } := by simp [ob, hn]
    show _ = some (ob _ _)
    rw [e]
    exact this
-- lists of ints
theorem r_len {b : Addr} {vs : List Value} {Q : Value → Shared → Prop} (hl : h.IsList b vs.toArray) (hn : vs.length ≤ 1000) (q : ∀ u t', Q (.int (vs.length : Nat) u) (St s₀ h t')) :
    wpAny (model prog w) A (call (.builtin "len") [.ref b]) Q E (St s₀ h t) := by
  refine len_list (s := St s₀ h t) hl (by rw [List.size_toArray]; omega) ?_
  rw [List.size_toArray]
  exact q _ _
theorem r_list_item {b : Addr} {vs : List Value} {ns : List Int} {k : Int} {u : Tok} {value slice : Expr} {Q : Value → Shared → Prop} (hl : h.IsList b vs.toArray) (hi : IntsAre vs ns) (h0 : 0 ≤ k) (h1 : k < ns.length) (hfit : k < 2 ^ 63)
    (hs : subscripted slice false (.ref b) (.int k u) = operate [.ref b, .int k u] (getItem (.ref b) (.int k u)))
    (q : ∀ u', Q (.int (ns.getD k.toNat 0) u') (St s₀ h t)) : wpAny (model prog w) A (subscriptTail value slice (.ref b) (.int k u)) Q E (St s₀ h t) :=
  item_list_intsR hl hi h0 h1 hfit (fun u' => q u') hs
theorem r_powb {i j : Int} {x y : Tok} {Q : Value → Shared → Prop} (h0 : 0 ≤ j) (h1 : (intBits i : Int) * j ≤ 2 ^ 27) (q : ∀ u t', Q (.int (i ^ j.toNat) u) (St s₀ h t')) :
    wpAny (model prog w) A (binaryOp .Pow (.int i x) (.int j y)) Q E (St s₀ h t) := by (with_reducible refine pow_int h0 h1 ?_); exact q _ _
theorem r_newtuple' {vs : List Value} {Q : Value → Shared → Prop} (F : Fm w h₀ env lo gl ms l h) (hsz : vs.length ≤ 1000)
    (q : ∀ D h', h₀.hp.get? D = none → Fm w h₀ env lo gl ms ((D, vs) :: l) h' → Q (.ref D) (St s₀ h' t)) : wpAny M A (newTuple vs) Q E (St s₀ h t) := by
  refine wpAny_newObj_type (s := St s₀ h t) (q _ _ ?_ ?_) (by show vs.toArray.size ≤ sizeLine; rw [List.size_toArray]; exact Nat.le_trans hsz (by decide))
  · show h₀.hp.get? h.objs.size = none
    cases e : h₀.hp.get? h.objs.size with
    | none => rfl
    | some o => exact absurd (Heap.lt_size (F.kp _ _ e)) (Nat.lt_irrefl _)
  · have k : Kp h (h.push { cls := .type "tuple", data := .seq vs.toArray }) := fun b o e => Heap.get?_push_of_some _ e
    exact (F.after k).add (IsTup.new h vs.toArray)
theorem e_callT {pos : Pos} {T : String} {e : Expr} {args : List Expr} {Q : Value → Shared → Prop}
    (k : wpAny M A (spliced (backTo pos (starEach (e :: args) env))) (fun vs s₁ => wpAny M A (call (.type T) vs) Q E s₁) E s)
    (he : starEach (e :: args) env = (false, eval e env) :: starEach args env) (hp : ((backTo pos (starEach args env)).any fun x => x.fst) = false) :
    wpAny M A (callWith pos (.type T) [] (backTo pos (starEach (e :: args) env)) []) Q E s := PyProof.Rows.callWith_type1 k he hp
theorem r_not {b : Bool} {Q : Value → Shared → Prop} (q : Q (.bool (!b)) (St s₀ h t)) : wpAny M A (unaryOp .Not (.bool b)) Q E (St s₀ h t) := not_of (wpAny_truthy_bool q)
theorem r_addtup22 {a b : Addr} {v1 v2 v3 v4 : Value} {Q : Value → Shared → Prop} (F : Fm w h₀ env lo gl ms l h) (ht : (a, [v1, v2]) ∈ l) (hb : (b, [v3, v4]) ∈ l)
    (q : ∀ D h', Fm w h₀ env lo gl ms ((D, [v1, v2, v3, v4]) :: l) h' → Q (.ref D) (St s₀ h' t)) : wpAny (model prog w) A (binaryOp .Add (.ref a) (.ref b)) Q E (St s₀ h t) := by
  obtain ⟨⟨cls, dd, data, sl⟩, ho, hc, n, hd⟩ := F.tup ht
  obtain ⟨⟨cls2, dd2, data2, sl2⟩, ho2, hc2, n2, hd2⟩ := F.tup hb
  simp only at hc hd hc2 hd2
  subst hc hd hc2 hd2
  refine concat_meets (s := St s₀ h t) ⟨_, ho, rfl⟩ ⟨_, ho2, rfl⟩ noFill_tuple_add seq_tuple_add PySem.F.slot_tuple_add PySem.F.entry_tuple_add (PySem.F.args_tuple_add_2 _ _)
    (tuple_addW2 a b _ _ n n2 dd dd2 sl sl2 (by simp) (by simp) (by simp; decide)) ⟨ho, ho2, ?_⟩
  exact q _ _ ((F.after fun _ _ e => Heap.get?_push_of_some _ e).add (IsTup.new h _))
theorem r_unpackL {elts : List Expr} {k : Nat} {pos : Pos} {b : Addr} {vs : List Value} {Q : Unit → Shared → Prop} (F : Fm w h₀ env lo gl ms l h) (hm : h.IsList b vs.toArray) (hA : A.handled = none)
    (h1 : (assignEach elts env).length = vs.length) (h2 : List.findIdx? (fun x => x.fst) (assignEach elts env) = none)
    (q : ∀ h', Fm w h₀ env lo gl ms l h' → wpAny (model prog w) A (assignInOrder (List.map (fun x => x.snd) (assignEach elts env)) vs) Q E (St s₀ h' t)) :
    wpAny (model prog w) A (assign (.Tuple elts k pos) env (.ref b)) Q E (St s₀ h t) := by
  rw [assign_Tuple]
  refine wpAny_bind (wpAny_standAt ?_)
  unfold unpack
  rw [h1, h2]
  have e : vs.length = vs.toArray.size := by simp
  rw [e]
  exact wpAny_bind (wpAny_holding (kun_itemsOf (s := St s₀ h t) hA hm fun h' he => q h' (F.after fun b o e => he b o (Nat.ne_of_lt (Heap.lt_size e)) e)))
theorem r_unpackL4 {x1 x2 x3 x4 : Nat} {p1 p2 p3 p4 : Pos} {v1 v2 v3 v4 : Value} {k : Nat} {pos : Pos} {b : Addr} {Q : Unit → Shared → Prop} (F : Fm w h₀ env lo gl ms l h) (hm : h.IsList b [v1, v2, v3, v4].toArray) (hA : A.handled = none)
    (l1 : lo.contains x1 = true) (l2 : lo.contains x2 = true) (l3 : lo.contains x3 = true) (l4 : lo.contains x4 = true)
    (q : ∀ h' t', Fm w h₀ env lo gl ((x4, v4) :: (x3, v3) :: (x2, v2) :: (x1, v1) :: ms) l h' → Q () (St s₀ h' t')) :
    wpAny (model prog w) A (assign (.Tuple [.Name (X x1) p1, .Name (X x2) p2, .Name (X x3) p3, .Name (X x4) p4] k pos) env (.ref b)) Q E (St s₀ h t) := by
  refine r_unpackL F hm hA rfl rfl (fun h' F' => ?_)
  refine assignInOrder_cons (PyProof.Rows.assign_Name (r_store F' l1 fun h' t' F' => ?_))
  refine assignInOrder_cons (PyProof.Rows.assign_Name (r_store F' l2 fun h' t' F' => ?_))
  refine assignInOrder_cons (PyProof.Rows.assign_Name (r_store F' l3 fun h' t' F' => ?_))
  refine assignInOrder_cons (PyProof.Rows.assign_Name (r_store F' l4 fun h' t' F' => ?_))
  exact assignInOrder_nil (q _ _ F')
end
theorem x_ne {i j : Nat} (hi : i < NX) (hj : j < NX) (h : i ≠ j) : (X i == X j) = false := by
  simp only [beq_eq_false_iff_ne, ne_eq]
  exact fun e => h (X_inj (Nat.le_of_lt hi) (Nat.le_of_lt hj) e)
def isStar : Expr → Bool
  | .Starred .. => true
  | _ => false
theorem got2 {w : World} {h : Heap} {h₀ : Base} {env : Env} {lo gl : List Nat} {ms : List (Nat × Value)} {l : Led} {x1 x2 : Nat} {p1 p2 pos' pos'' : Pos} {k k' : Nat} {e1 e2 : Expr} (F : Fm w h₀ env lo gl ms l h)
    (l1 : lo.contains x1 = true) (l2 : lo.contains x2 = true) (hne : x1 ≠ x2) (hp : (p2.line == p1.line) = true)
    (h1 : isStar e1 = false) (h1' : isStar e2 = false) (h2 : [e1, e2].all (foldedForSure 8) = false) (h3 : [e1, e2].all (constantsAlone 8) = false) :
    swappedStores [.Tuple [.Name (X x1) p1, .Name (X x2) p2] k pos''] (.Tuple [e1, e2] k' pos') env = pure (some [X x1, X x2]) := by
  obtain ⟨nm, sc, L, a, cd, rfl, hk, hlo, _⟩ := F.e.shape
  have k1 : (envOf nm sc L a cd).kindOf (X x1) = some .local := (hlo x1 l1).2
  have k2 : (envOf nm sc L a cd).kindOf (X x2) = some .local := (hlo x2 l2).2
  have kb : (envOf nm sc L a cd).blockKind = .function := by simp [Env.blockKind, envOf, hk]
  have ne := x_ne (hlo x2 l2).1 (hlo x1 l1).1 (Ne.symm hne)
  unfold swappedStores
  simp only [kb, h2, h3, k1, k2, hp, List.length_cons, List.length_nil, List.head?_cons, Option.map_some, Option.getD_some, Expr.pos, List.filterMap_cons, List.filterMap_nil, BEq.rfl, Bool.and_self, if_true]
  simp [List.eraseDups_cons, ne]
  intro c
  exfalso
  rcases c with c | c
  · cases e1 <;> first | exact (Bool.noConfusion (show true = false from h1)) | exact (Bool.noConfusion (show false = true from c))
  · cases e2 <;> first | exact (Bool.noConfusion (show true = false from h1')) | exact (Bool.noConfusion (show false = true from c))
theorem got3 {w : World} {h : Heap} {h₀ : Base} {env : Env} {lo gl : List Nat} {ms : List (Nat × Value)} {l : Led} {x1 x2 x3 : Nat} {p1 p2 p3 pos' pos'' : Pos} {k k' : Nat} {e1 e2 e3 : Expr} (F : Fm w h₀ env lo gl ms l h)
    (l1 : lo.contains x1 = true) (l2 : lo.contains x2 = true) (l3 : lo.contains x3 = true) (hne : x1 ≠ x2) (hne' : x1 ≠ x3) (hne'' : x2 ≠ x3) (hp : (p2.line == p1.line) = true) (hp' : (p3.line == p1.line) = true)
    (h1 : isStar e1 = false) (h1' : isStar e2 = false) (h1'' : isStar e3 = false) (h2 : [e1, e2, e3].all (foldedForSure 8) = false) (h3 : [e1, e2, e3].all (constantsAlone 8) = false) :
    swappedStores [.Tuple [.Name (X x1) p1, .Name (X x2) p2, .Name (X x3) p3] k pos''] (.Tuple [e1, e2, e3] k' pos') env = pure (some [X x1, X x2, X x3]) := by
  obtain ⟨nm, sc, L, a, cd, rfl, hk, hlo, _⟩ := F.e.shape
  have k1 : (envOf nm sc L a cd).kindOf (X x1) = some .local := (hlo x1 l1).2
  have k2 : (envOf nm sc L a cd).kindOf (X x2) = some .local := (hlo x2 l2).2
  have k3 : (envOf nm sc L a cd).kindOf (X x3) = some .local := (hlo x3 l3).2
  have kb : (envOf nm sc L a cd).blockKind = .function := by simp [Env.blockKind, envOf, hk]
  have ne := x_ne (hlo x2 l2).1 (hlo x1 l1).1 (Ne.symm hne)
  have ne' := x_ne (hlo x3 l3).1 (hlo x1 l1).1 (Ne.symm hne')
  have ne'' := x_ne (hlo x3 l3).1 (hlo x2 l2).1 (Ne.symm hne'')
  unfold swappedStores
  simp only [kb, h2, h3, k1, k2, k3, hp, hp', List.length_cons, List.length_nil, List.head?_cons, Option.map_some, Option.getD_some, Expr.pos, List.filterMap_cons, List.filterMap_nil, BEq.rfl, Bool.and_self, if_true]
  simp [List.eraseDups_cons, ne, ne', ne'']
  intro c
  exfalso
  rcases c with c | c | c
  · cases e1 <;> first | exact (Bool.noConfusion (show true = false from h1)) | exact (Bool.noConfusion (show false = true from c))
  · cases e2 <;> first | exact (Bool.noConfusion (show true = false from h1')) | exact (Bool.noConfusion (show false = true from c))
  · cases e3 <;> first | exact (Bool.noConfusion (show true = false from h1'')) | exact (Bool.noConfusion (show false = true from c))

local macro_rules | `(tactic| got_up) => `(tactic| first
  | ((with_reducible refine' got2 ?F ?l1 ?l2 ?n ?p ?h1 ?h1' ?h2 ?h3); (case F => with_reducible assumption); (case l1 => exact rfl); (case l2 => exact rfl); (case n => decide); (case p => exact rfl); (case h1 => exact rfl); (case h1' => exact rfl); (case h2 => with_unfolding_all rfl); (case h3 => with_unfolding_all rfl))
  | ((with_reducible refine' got3 ?F ?l1 ?l2 ?l3 ?n ?n' ?n'' ?p ?p' ?h1 ?h1' ?h1'' ?h2 ?h3); (case F => with_reducible assumption); (case l1 => exact rfl); (case l2 => exact rfl); (case l3 => exact rfl); (case n => decide); (case n' => decide); (case n'' => decide); (case p => exact rfl); (case p' => exact rfl); (case h1 => exact rfl); (case h1' => exact rfl); (case h1'' => exact rfl); (case h2 => with_unfolding_all rfl); (case h3 => with_unfolding_all rfl)))

local macro_rules | `(tactic| kp_flats) => `(tactic| (with_reducible refine r_not ?_))

local macro_rules | `(tactic| kp_flats) => `(tactic| ((with_reducible refine e_callT ?_ ?s ?s'); (case s => exact rfl); (case s' => exact rfl)))

local macro_rules | `(tactic| kp_flats) => `(tactic| ((with_reducible refine' s_for ?s ?_); (case s => intro _; exact rfl)))

local macro_rules | `(tactic| kp_flats) => `(tactic| ((with_reducible refine' r_range1 ?F ?_); (case F => with_reducible assumption); intro _ _ _ _ _ _ _ _))

local macro_rules | `(tactic| kp_flats) => `(tactic| ((with_reducible refine' r_range3 ?F ?c ?p ?_); (case F => with_reducible assumption); (case c => decide); (case p => decide +kernel); intro _ _ _ _ _ _ _ _))

def pv (m e : Int) : Rat := (m : Rat) * (2 : Rat) ^ e
/-- a pair of known size -/
structure Ps (C m e : Int) : Prop where
  lo : -C ≤ e
  hi : e ≤ C
  bt : (intBits m : Int) ≤ C
theorem Ps.le {C D m e : Int} (h : Ps C m e) (hc : C ≤ D) : Ps D m e := ⟨by have := h.lo; omega, by have := h.hi; omega, by have := h.bt; omega⟩
theorem sv_one (m : Int) : sv 1 m = -m := rfl
theorem sum_pv {m1 m2 e1 e2 lo : Int} (h1 : lo ≤ e1) (h2 : lo ≤ e2) : pv (m1 * 2 ^ (e1 - lo).toNat + m2 * 2 ^ (e2 - lo).toNat) lo = pv m1 e1 + pv m2 e2 := by
  unfold pv
  have a1 : (2 : Rat) ^ e1 = (2 : Rat) ^ lo * ((2 ^ (e1 - lo).toNat : Int) : Rat) := by rw [← zp_add]; congr 1; omega
  have a2 : (2 : Rat) ^ e2 = (2 : Rat) ^ lo * ((2 ^ (e2 - lo).toNat : Int) : Rat) := by rw [← zp_add]; congr 1; omega
  rw [a1, a2, Rat.intCast_add, Rat.intCast_mul, Rat.intCast_mul]
  grind
theorem times_pv {m1 m2 e1 e2 : Int} : pv (m1 * m2) (e1 + e2) = pv m1 e1 * pv m2 e2 := by
  unfold pv
  rw [Rat.intCast_mul, Rat.zpow_add two_ne]
  grind
theorem less_pv {m1 m2 e1 e2 lo : Int} (h1 : lo ≤ e1) (h2 : lo ≤ e2) : m1 * 2 ^ (e1 - lo).toNat < m2 * 2 ^ (e2 - lo).toNat ↔ pv m1 e1 < pv m2 e2 := by
  unfold pv
  have a1 : (2 : Rat) ^ e1 = (2 : Rat) ^ lo * ((2 ^ (e1 - lo).toNat : Int) : Rat) := by rw [← zp_add]; congr 1; omega
  have a2 : (2 : Rat) ^ e2 = (2 : Rat) ^ lo * ((2 ^ (e2 - lo).toNat : Int) : Rat) := by rw [← zp_add]; congr 1; omega
  have hp : (0 : Rat) < (2 : Rat) ^ lo := Rat.zpow_pos (by decide)
  rw [a1, a2, ← Rat.intCast_lt_intCast, Rat.intCast_mul, Rat.intCast_mul]
  generalize ((2 ^ (e1 - lo).toNat : Int) : Rat) = A
  generalize ((2 ^ (e2 - lo).toNat : Int) : Rat) = B
  generalize (2 : Rat) ^ lo = c at hp ⊢
  have z1 : (m1 : Rat) * (c * A) = c * (m1 * A) := by grind
  have z2 : (m2 : Rat) * (c * B) = c * (m2 * B) := by grind
  rw [z1, z2]
  exact (Rat.mul_lt_mul_left hp).symm
theorem p2_bits {e lo C : Int} (h : e - lo ≤ C) (h0 : 0 ≤ C) : (intBits ((2 : Int) ^ (e - lo).toNat) : Int) ≤ C + 1 := by rw [ib_p2]; omega
theorem sum_bits {m1 m2 e1 e2 lo C D : Int} (h1 : e1 - lo ≤ C + D) (h2 : e2 - lo ≤ C + D) (b1 : (intBits m1 : Int) ≤ C) (b2 : (intBits m2 : Int) ≤ D) : (intBits (m1 * 2 ^ (e1 - lo).toNat + m2 * 2 ^ (e2 - lo).toNat) : Int) ≤ 2 * C + 2 * D + 3 := by
  have hC : 0 ≤ C := by omega
  have x1 : intBits (m1 * 2 ^ (e1 - lo).toNat) ≤ (2 * C + 2 * D + 2).toNat := Nat.le_trans (bits_mul (Nat.le_refl _) (Nat.le_of_eq (ib_p2 _))) (by omega)
  have x2 : intBits (m2 * 2 ^ (e2 - lo).toNat) ≤ (2 * C + 2 * D + 2).toNat := Nat.le_trans (bits_mul (Nat.le_refl _) (Nat.le_of_eq (ib_p2 _))) (by omega)
  have := bits_add x1 x2
  omega
theorem mulOk_p2 {m e lo : Int} (b : intBits m ≤ 2000000) (h : e - lo ≤ 2000000) : IntMulOk m (2 ^ (e - lo).toNat) := mulOk_of_bits b (show intBits ((2 : Int) ^ (e - lo).toNat) ≤ 2000001 by rw [ib_p2]; omega) (by decide)
section
variable {w : World} {A : Around} {E : Value → Shared → Prop} {s₀ : Shared} {h : Heap} {t : Nat}
theorem c_law_value {a : Addr} {sg mn ex bc : Int} {u1 u2 u3 u4 : Tok} {Q : Value → Shared → Prop} (R : Rm 1 A) (G : Gl w h) (T : IsTup h a #[.int sg u1, .int mn u2, .int ex u3, .int bc u4]) (hs : Hd (sg = 0 ∨ sg = 1))
  (q : ∀ b h' t' v1 v2, Kp h h' → h.get? b = none → IsTup h' b [.int (sv sg mn) v1, .int ex v2].toArray → Q (.ref b) (St s₀ h' t')) : wpAny (MM w) A (call (.ref 293) [.ref a]) Q E (St s₀ h t) := by
  refine' enter [24] [] [(24, .ref a)] R G rfl ?hcd ?hb ?hlo ?hgl ?hms ?hco ?hgen ?hk ?hcell ?_
  kxs_still
  intro A' env h₁ t' E' R' F
  replace F := F.add (IsTup.keeps T F.kp)
  leaf_len
  rcases hs.out with rfl | rfl <;> (repeat' ((fail_if_success (with_reducible show wpAny _ _ (newTuple _) _ _ _)); kat_tups)) <;> refine r_newtuple' F (Nat.le_of_ble_eq_true rfl) (fun D h' hnew F9 => ?_) <;> krn_off <;> exact q _ _ _ _ _ F9.kp hnew (F9.tup (.head _))
end

local macro_rules | `(tactic| kp_flats) => `(tactic| ((with_reducible refine' c_law_value ?R ?G ?T ?f ?_); (case R => kst_all1); (case G => kd_adr); (case T => kbo_bools); (case f => with_reducible assumption); intro _ _ _ _ _ k' _ T'; (have F' := Fm.add (Fm.after (by assumption) k') T')))

section
variable {w : World} {A : Around} {E : Value → Shared → Prop} {s₀ : Shared} {h : Heap} {t : Nat}
theorem c_law_sum {a b : Addr} {m1 e1 m2 e2 C D : Int} {u1 u2 u3 u4 : Tok} {Q : Value → Shared → Prop} (R : Rm 1 A) (G : Gl w h) (Ta : IsTup h a [.int m1 u1, .int e1 u2].toArray) (Tb : IsTup h b [.int m2 u3, .int e2 u4].toArray)
  (P1 : Ps C m1 e1) (P2 : Ps D m2 e2) (hC : C ≤ 400000) (hD : D ≤ 400000)
  (q : ∀ c h' t' m e v1 v2, Kp h h' → IsTup h' c [.int m v1, .int e v2].toArray → pv m e = pv m1 e1 + pv m2 e2 → Ps (2 * C + 2 * D + 3) m e → Q (.ref c) (St s₀ h' t')) : wpAny (MM w) A (call (.ref 300) [.ref a, .ref b]) Q E (St s₀ h t) := by
  have ⟨a1, a2, a3⟩ := P1
  have ⟨b1, b2, b3⟩ := P2
  have l1 : min e1 e2 ≤ e1 := Int.min_le_left ..
  have l2 : min e1 e2 ≤ e2 := Int.min_le_right ..
  have k1 : IntMulOk m1 (2 ^ (e1 - min e1 e2).toNat) := mulOk_p2 (by omega) (by omega)
  have k2 : IntMulOk m2 (2 ^ (e2 - min e1 e2).toNat) := mulOk_p2 (by omega) (by omega)
  refine' enter [1, 3, 84] [86] [(3, .ref b), (1, .ref a)] R G rfl ?hcd ?hb ?hlo ?hgl ?hms ?hco ?hgen ?hk ?hcell ?_
  kxs_still
  intro A' env h₁ t' E' R' F
  replace F := (F.add (IsTup.keeps Ta F.kp)).add (IsTup.keeps Tb F.kp)
  leaf_len
  krn_off
  rename Fm _ _ _ _ _ _ _ _ => F9
  exact q _ _ _ _ _ _ _ F9.kp (F9.tup (.head _)) (sum_pv l1 l2) ⟨by omega, by omega, sum_bits (by omega) (by omega) a3 b3⟩
theorem c_law_times {a b : Addr} {m1 e1 m2 e2 C D : Int} {u1 u2 u3 u4 : Tok} {Q : Value → Shared → Prop} (R : Rm 1 A) (G : Gl w h) (Ta : IsTup h a [.int m1 u1, .int e1 u2].toArray) (Tb : IsTup h b [.int m2 u3, .int e2 u4].toArray)
  (P1 : Ps C m1 e1) (P2 : Ps D m2 e2) (hC : C ≤ 400000) (hD : D ≤ 400000)
  (q : ∀ c h' t' m e v1 v2, Kp h h' → IsTup h' c [.int m v1, .int e v2].toArray → pv m e = pv m1 e1 * pv m2 e2 → Ps (C + D) m e → Q (.ref c) (St s₀ h' t')) : wpAny (MM w) A (call (.ref 307) [.ref a, .ref b]) Q E (St s₀ h t) := by
  have ⟨a1, a2, a3⟩ := P1
  have ⟨b1, b2, b3⟩ := P2
  have k1 : IntMulOk m1 m2 := mulOk_of_bits (m := 400000) (n := 400000) (by omega) (by omega) (by decide)
  refine' enter [1, 3] [] [(3, .ref b), (1, .ref a)] R G rfl ?hcd ?hb ?hlo ?hgl ?hms ?hco ?hgen ?hk ?hcell ?_
  kxs_still
  intro A' env h₁ t' E' R' F
  replace F := (F.add (IsTup.keeps Ta F.kp)).add (IsTup.keeps Tb F.kp)
  leaf_len
  krn_off
  rename Fm _ _ _ _ _ _ _ _ => F9
  refine q _ _ _ _ _ _ _ F9.kp (F9.tup (.head _)) times_pv ⟨by omega, by omega, ?_⟩
  have := bits_mul (Nat.le_refl (intBits m1)) (Nat.le_refl (intBits m2))
  omega
theorem c_law_less {a b : Addr} {m1 e1 m2 e2 C D : Int} {u1 u2 u3 u4 : Tok} {Q : Value → Shared → Prop} (R : Rm 1 A) (G : Gl w h) (Ta : IsTup h a [.int m1 u1, .int e1 u2].toArray) (Tb : IsTup h b [.int m2 u3, .int e2 u4].toArray)
  (P1 : Ps C m1 e1) (P2 : Ps D m2 e2) (hC : C ≤ 400000) (hD : D ≤ 400000) (hl : ¬ pv m1 e1 < pv m2 e2)
  (q : ∀ h' t', Kp h h' → Q (.bool false) (St s₀ h' t')) : wpAny (MM w) A (call (.ref 314) [.ref a, .ref b]) Q E (St s₀ h t) := by
  have ⟨a1, a2, a3⟩ := P1
  have ⟨b1, b2, b3⟩ := P2
  have l1 : min e1 e2 ≤ e1 := Int.min_le_left ..
  have l2 : min e1 e2 ≤ e2 := Int.min_le_right ..
  have k1 : IntMulOk m1 (2 ^ (e1 - min e1 e2).toNat) := mulOk_p2 (by omega) (by omega)
  have k2 : IntMulOk m2 (2 ^ (e2 - min e1 e2).toNat) := mulOk_p2 (by omega) (by omega)
  refine' enter [1, 3, 84] [86] [(3, .ref b), (1, .ref a)] R G rfl ?hcd ?hb ?hlo ?hgl ?hms ?hco ?hgen ?hk ?hcell ?_
  kxs_still
  intro A' env h₁ t' E' R' F
  replace F := (F.add (IsTup.keeps Ta F.kp)).add (IsTup.keeps Tb F.kp)
  leaf_len
  krn_off
  rename Fm _ _ _ _ _ _ _ _ => F9
  rw [decide_eq_false fun c => hl ((less_pv l1 l2).mp c)]
  exact q _ _ F9.kp
end

local macro_rules | `(tactic| kp_flats) => `(tactic| ((with_reducible refine' c_law_sum ?R ?G ?T ?T' ?f ?f' ?C ?D ?_); (case R => kst_all1); (case G => kd_adr); (case T => kbo_bools); (case T' => kbo_bools); (case f => with_reducible assumption); (case f' => with_reducible assumption); (case C => fold_depth); (case D => fold_depth); intro _ _ _ _ _ _ _ k' T' _ _; (have F' := Fm.add (Fm.after (by assumption) k') T')))

local macro_rules | `(tactic| kp_flats) => `(tactic| ((with_reducible refine' c_law_times ?R ?G ?T ?T' ?f ?f' ?C ?D ?_); (case R => kst_all1); (case G => kd_adr); (case T => kbo_bools); (case T' => kbo_bools); (case f => with_reducible assumption); (case f' => with_reducible assumption); (case C => fold_depth); (case D => fold_depth); intro _ _ _ _ _ _ _ k' T' _ _; (have F' := Fm.add (Fm.after (by assumption) k') T')))

local macro_rules | `(tactic| kp_flats) => `(tactic| ((with_reducible refine' c_law_less ?R ?G ?T ?T' ?f ?f' ?C ?D ?l ?_); (case R => kst_all1); (case G => kd_adr); (case T => kbo_bools); (case T' => kbo_bools); (case f => with_reducible assumption); (case f' => with_reducible assumption); (case C => fold_depth); (case D => fold_depth); (case l => with_reducible assumption); intro _ _ k'; (have F' := Fm.after (by assumption) k')))

theorem Nf.ps {B : Int} {x : Mpf} (h : Nf B x) : Ps B (sv x.sg x.mn) x.ex := ⟨h.sz.lo, h.sz.hi, by rw [ib_sv, ← h.ok.bc]; exact h.sz.bc⟩
theorem Ps.neg {C m e : Int} (h : Ps C m e) : Ps C (-m) e := ⟨h.lo, h.hi, by have := bits_neg (Nat.le_refl (intBits m)); have := h.bt; omega⟩
theorem pv_neg {m e : Int} : pv (-m) e = -pv m e := by
  unfold pv
  rw [Rat.intCast_neg]
  grind
theorem pv_shift {m e d : Int} : pv m (e + d) = pv m e * (2 : Rat) ^ d := by
  unfold pv
  rw [Rat.zpow_add two_ne]
  grind
theorem pv_val (x : Mpf) : pv (sv x.sg x.mn) x.ex = x.val := rfl
theorem pv_pos {m e : Int} : 0 < pv m e ↔ 0 < m := by
  have hp : (0 : Rat) < (2 : Rat) ^ e := Rat.zpow_pos (by decide)
  unfold pv
  rw [← Rat.intCast_pos]
  constructor
  · intro c
    refine Classical.byContradiction fun q => ?_
    have : (m : Rat) ≤ 0 := by grind
    have := Rat.mul_le_mul_of_nonneg_right this (Rat.le_of_lt hp)
    grind
  · intro c
    exact Rat.mul_pos c hp
theorem pv_nought (m : Int) : pv m 0 = m := by
  unfold pv
  simp
theorem nlt_l {p r a : Rat} (e : p = r) (h : ¬ a < r) : ¬ a < p := by rw [e]; exact h
theorem nlt_r {p r a : Rat} (e : p = r) (h : ¬ r < a) : ¬ p < a := by rw [e]; exact h
section
variable {w : World} {A : Around} {E : Value → Shared → Prop} {s₀ : Shared} {h : Heap} {t : Nat}
theorem c_law_width {c a b : Addr} {xa xb : Mpf} {B : Int} {u1 u2 u3 u4 v1 v2 v3 v4 : Tok} {Q : Value → Shared → Prop} (R : Rm 2 A) (G : Gl w h)
  (Tc : IsTup h c [.ref a, .ref b].toArray) (Ta : IsTup h a #[.int xa.sg u1, .int xa.mn u2, .int xa.ex u3, .int xa.bc u4]) (Tb : IsTup h b #[.int xb.sg v1, .int xb.mn v2, .int xb.ex v3, .int xb.bc v4])
  (fa : Nf B xa) (fb : Nf B xb) (hB : B ≤ 200000)
  (q : ∀ c h' t' m e v1 v2, Kp h h' → IsTup h' c [.int m v1, .int e v2].toArray → pv m e = xb.val - xa.val → Ps (2 * B + 2 * B + 3) m e → Q (.ref c) (St s₀ h' t')) : wpAny (MM w) A (call (.ref 340) [.ref c]) Q E (St s₀ h t) := by
  have sa := Hd.mk fa.ok.sg
  have sb := Hd.mk fb.ok.sg
  have pa := fa.ps.neg
  have pb := fb.ps
  refine' enter [24, 84, 96] [91, 97] [(24, .ref c)] R G rfl ?hcd ?hb ?hlo ?hgl ?hms ?hco ?hgen ?hk ?hcell ?_
  kxs_still
  intro A' env h₁ t' E' R' F
  replace F := ((F.add (IsTup.keeps Ta F.kp)).add (IsTup.keeps Tb F.kp)).add (IsTup.keeps Tc F.kp)
  leaf_len
  krn_off
  rename Fm _ _ _ _ _ _ _ _ => F9
  rename pv _ _ = _ => e9
  refine q _ _ _ _ _ _ _ F9.kp (F9.tup (.head _)) ?_ (by assumption)
  rw [e9, pv_neg, pv_val, pv_val]
  grind
theorem c_law_holds {c a b d : Addr} {xa xb : Mpf} {m e B C : Int} {u1 u2 u3 u4 v1 v2 v3 v4 w1 w2 : Tok} {Q : Value → Shared → Prop} (R : Rm 2 A) (G : Gl w h)
  (Tc : IsTup h c [.ref a, .ref b].toArray) (Ta : IsTup h a #[.int xa.sg u1, .int xa.mn u2, .int xa.ex u3, .int xa.bc u4]) (Tb : IsTup h b #[.int xb.sg v1, .int xb.mn v2, .int xb.ex v3, .int xb.bc v4])
  (Td : IsTup h d [.int m w1, .int e w2].toArray)
  (fa : Nf B xa) (fb : Nf B xb) (hB : B ≤ 200000) (pd : Ps C m e) (hC : C ≤ 200000) (h1 : xa.val ≤ pv m e) (h2 : pv m e ≤ xb.val)
  (q : ∀ h' t', Kp h h' → Q (.bool true) (St s₀ h' t')) : wpAny (MM w) A (call (.ref 326) [.ref c, .ref d]) Q E (St s₀ h t) := by
  have sa := Hd.mk fa.ok.sg
  have sb := Hd.mk fb.ok.sg
  have pa := fa.ps
  have pb := fb.ps
  have n1 : ¬ pv m e < pv (sv xa.sg xa.mn) xa.ex := by rw [pv_val]; grind
  have n2 : ¬ pv (sv xb.sg xb.mn) xb.ex < pv m e := by rw [pv_val]; grind
  refine' enter [88, 1] [93, 91] [(1, .ref d), (88, .ref c)] R G rfl ?hcd ?hb ?hlo ?hgl ?hms ?hco ?hgen ?hk ?hcell ?_
  kxs_still
  intro A' env h₁ t' E' R' F
  replace F := (((F.add (IsTup.keeps Ta F.kp)).add (IsTup.keeps Tb F.kp)).add (IsTup.keeps Tc F.kp)).add (IsTup.keeps Td F.kp)
  leaf_len
  krn_off
  rename Fm _ _ _ _ _ _ _ _ => F9
  exact q _ _ F9.kp
theorem c_law_rooted {c a b : Addr} {xa xb : Mpf} {n B : Int} {u1 u2 u3 u4 v1 v2 v3 v4 w1 : Tok} {Q : Value → Shared → Prop} (R : Rm 2 A) (G : Gl w h)
  (Tc : IsTup h c [.ref a, .ref b].toArray) (Ta : IsTup h a #[.int xa.sg u1, .int xa.mn u2, .int xa.ex u3, .int xa.bc u4]) (Tb : IsTup h b #[.int xb.sg v1, .int xb.mn v2, .int xb.ex v3, .int xb.bc v4])
  (fa : Nf B xa) (fb : Nf B xb) (hB : B ≤ 200000) (pn : Ps 100 n 0) (h1 : xa.val ≤ 0 ∨ xa.val * xa.val ≤ n) (h2 : 0 < xb.val) (h3 : (n : Rat) ≤ xb.val * xb.val)
  (q : ∀ h' t', Kp h h' → Q (.bool true) (St s₀ h' t')) : wpAny (MM w) A (call (.ref 347) [.ref c, .int n w1]) Q E (St s₀ h t) := by
  have sa := Hd.mk fa.ok.sg
  have sb := Hd.mk fb.ok.sg
  have pa := fa.ps
  have pb := fb.ps
  have h2' : 0 < sv xb.sg xb.mn := pv_pos.mp h2
  have n2 : ¬ pv (sv xb.sg xb.mn) xb.ex * pv (sv xb.sg xb.mn) xb.ex < pv n 0 := by rw [pv_val, pv_nought]; grind
  refine' enter [24, 0, 84, 96] [91, 93, 98] [(0, .int n w1), (24, .ref c)] R G rfl ?hcd ?hb ?hlo ?hgl ?hms ?hco ?hgen ?hk ?hcell ?_
  kxs_still
  intro A' env h₁ t' E' R' F
  replace F := ((F.add (IsTup.keeps Ta F.kp)).add (IsTup.keeps Tb F.kp)).add (IsTup.keeps Tc F.kp)
  leaf_len
  by_cases h0 : 0 < sv xa.sg xa.mn
  · have n1 : ¬ pv n 0 < pv (sv xa.sg xa.mn) xa.ex * pv (sv xa.sg xa.mn) xa.ex := by
      rw [pv_val, pv_nought]
      have : 0 < xa.val := pv_pos.mpr h0
      rcases h1 with h1 | h1 <;> grind
    repeat' ((fail_if_success (with_reducible show wpAny _ _ (call (Value.ref 314) _) _ _ _)); kat_tups)
    rename pv _ _ = _ => e9
    have n1' := nlt_l e9 n1
    clear e9
    kat_tups
    repeat' ((fail_if_success (with_reducible show wpAny _ _ (call (Value.ref 314) _) _ _ _)); kat_tups)
    rename pv _ _ = pv (sv xb.sg xb.mn) xb.ex * _ => e8
    have n2' := nlt_r e8 n2
    krn_off
    rename Fm _ _ _ _ _ _ _ _ => F9
    exact q _ _ F9.kp
  · repeat' ((fail_if_success (with_reducible show wpAny _ _ (call (Value.ref 314) _) _ _ _)); kat_tups)
    rename pv _ _ = pv (sv xb.sg xb.mn) xb.ex * _ => e8
    have n2' := nlt_r e8 n2
    krn_off
    rename Fm _ _ _ _ _ _ _ _ => F9
    exact q _ _ F9.kp
end

local macro_rules | `(tactic| kp_flats) => `(tactic| ((with_reducible refine' c_law_width ?R ?G ?Tc ?T ?T' ?f ?f' ?C ?_); (case R => kst_all1); (case G => kd_adr); (case Tc => kbo_bools); (case T => kbo_bools); (case T' => kbo_bools); (case f => with_reducible assumption); (case f' => with_reducible assumption); (case C => fold_depth); intro _ _ _ _ _ _ _ k' T' _ _; (have F' := Fm.add (Fm.after (by assumption) k') T')))

theorem Ps.shift {m e p : Int} (h : Ps 1409 m e) (h1 : 0 ≤ p) (h2 : p ≤ 80) : Ps 1500 m (e + 4 - p) := ⟨by have := h.lo; omega, by have := h.hi; omega, by have := h.bt; omega⟩
theorem pv_shift' {m e p : Int} : pv m (e + 4 - p) = pv m e * (2 : Rat) ^ (4 - p) := by
  rw [← pv_shift]; congr 1; omega
section
variable {w : World} {A : Around} {E : Value → Shared → Prop} {s₀ : Shared} {h : Heap} {t : Nat}
theorem c_law_narrow {c d a b e f : Addr} {xa xb ya yb : Mpf} {p : Int} {u1 u2 u3 u4 v1 v2 v3 v4 u1' u2' u3' u4' v1' v2' v3' v4' w1 : Tok} {Q : Value → Shared → Prop} (R : Rm 3 A) (G : Gl w h)
  (Tc : IsTup h c [.ref a, .ref b].toArray) (Td : IsTup h d [.ref e, .ref f].toArray) (Ta : IsTup h a #[.int xa.sg u1, .int xa.mn u2, .int xa.ex u3, .int xa.bc u4]) (Tb : IsTup h b #[.int xb.sg v1, .int xb.mn v2, .int xb.ex v3, .int xb.bc v4])
  (Te : IsTup h e #[.int ya.sg u1', .int ya.mn u2', .int ya.ex u3', .int ya.bc u4']) (Tf : IsTup h f #[.int yb.sg v1', .int yb.mn v2', .int yb.ex v3', .int yb.bc v4'])
  (fa : Nf 100 xa) (fb : Nf 100 xb) (ga : Nf 80000 ya) (gb : Nf 80000 yb) (hp : 0 ≤ p) (hp' : p ≤ 80)
  (hn : (yb.val - ya.val) * xa.val ≤ (xb.val - xa.val) * (xb.val - xa.val) + (xa.val * xb.val + (xb.val - xa.val) * xb.val) * (2 : Rat) ^ (4 - p))
  (q : ∀ h' t', Kp h h' → Q (.bool true) (St s₀ h' t')) : wpAny (MM w) A (call (.ref 354) [.ref c, .ref d, .int p w1]) Q E (St s₀ h t) := by
  have sa := Hd.mk fa.ok.sg
  have sb := Hd.mk fb.ok.sg
  have pa := fa.ps
  have pb := fb.ps
  refine' enter [24, 99, 10, 84, 96, 102, 100, 101] [91, 93, 98, 97, 103] [(10, .int p w1), (99, .ref d), (24, .ref c)] R G rfl ?hcd ?hb ?hlo ?hgl ?hms ?hco ?hgen ?hk ?hcell ?_
  kxs_still
  intro A' env h₁ t' E' R' F
  replace F := (((((F.add (IsTup.keeps Ta F.kp)).add (IsTup.keeps Tb F.kp)).add (IsTup.keeps Tc F.kp)).add (IsTup.keeps Td F.kp)).add (IsTup.keeps Te F.kp)).add (IsTup.keeps Tf F.kp)
  leaf_len
  repeat' ((fail_if_success (with_reducible show wpAny _ _ (exec (Stmt.Assign [Expr.Name (X 101) _] _ _) _) _ _ _)); kat_tups)
  rename pv _ _ = xb.val - xa.val => e1
  rename pv _ _ = pv (sv xa.sg xa.mn) xa.ex * _ => e2
  rename pv _ _ = pv _ _ * pv (sv xb.sg xb.mn) xb.ex => e3
  rename pv _ _ = pv _ _ + pv _ _ => e4
  rename Ps (2 * (100 + 100) + _ + _) _ _ => P4
  have P5 := (P4.le (by decide : (2 * (100 + 100) + 2 * (2 * 100 + 2 * 100 + 3 + 100) + 3 : Int) ≤ 1409)).shift hp hp'
  repeat' ((fail_if_success (with_reducible show wpAny _ _ (call (Value.ref 300) _) _ _ _)); kat_tups)
  rename pv _ _ = pv _ _ * pv _ _ => e6
  repeat' ((fail_if_success (with_reducible show wpAny _ _ (call (Value.ref 314) _) _ _ _)); kat_tups)
  rename pv _ _ = pv _ _ * pv (sv xa.sg xa.mn) xa.ex => e9
  rename pv _ _ = yb.val - ya.val => e8
  rename pv _ _ = pv _ _ + pv _ (_ + 4 - p) => e7
  have hl := nlt_l e9 (nlt_r e7 (by
    rw [e8, e6, pv_shift', e4, e3, e2, e1, pv_val, pv_val]
    exact Rat.not_lt.mpr hn))
  krn_off
  rename Fm _ _ _ _ _ _ _ _ => F9
  exact q _ _ F9.kp
end
theorem ib_lt {a : Int} {N : Nat} (h0 : 0 ≤ a) (h : a < 2 ^ N) : intBits a ≤ N := by
  by_cases c : a = 0
  · subst c; exact Nat.zero_le _
  · obtain ⟨k, e, h1, _⟩ := ib_bounds (show 0 < a by omega)
    have : k < N := p2_lt_iff.mp (Int.lt_of_le_of_lt h1 h)
    omega
section
variable {w : World} {A : Around} {E : Value → Shared → Prop} {s₀ : Shared} {h : Heap} {t : Nat}
theorem c_law_made {n : Int} {u1 u2 : Tok} {Q : Value → Shared → Prop} (R : Rm 1 A) (G : Gl w h) (h1 : 1 ≤ n) (h2 : n < 2 ^ 22)
  (q : ∀ a h' t' x v1 v2 v3 v4, Kp h h' → IsTup h' a #[.int x.sg v1, .int x.mn v2, .int x.ex v3, .int x.bc v4] → Pf 100 x → x.val = n → x.bc ≤ 22 → Q (.ref a) (St s₀ h' t')) :
  wpAny (MM w) A (call (.ref 286) [.int n u1, .int 0 u2]) Q E (St s₀ h t) := by
  obtain ⟨k, m, e, hm, hk⟩ := trail_spec (show n ≠ 0 by omega)
  refine' enter [0, 83, 6, 85, 84] [] [(83, .int 0 u2), (0, .int n u1)] R G rfl ?hcd ?hb ?hlo ?hgl ?hms ?hco ?hgen ?hk ?hcell ?_
  kxs_still
  intro A' env h₁ t' E' R' F
  leaf_len
  repeat' ((fail_if_success (with_reducible show wpAny _ _ (exec (Stmt.Assign [Expr.Name (X 85) _] _ _) _) _ _ _)); kat_tups)
  rename Fm _ _ _ _ _ _ _ _ => F9
  rw [hk] at F9
  have pk : 0 < (2 : Int) ^ k := Int.pow_pos (by decide)
  have hm0 : 0 < m := by
    refine Classical.byContradiction fun c => ?_
    have := Int.mul_le_mul_of_nonneg_right (show m ≤ 0 by omega) (Int.le_of_lt pk)
    omega
  have hb : intBits n ≤ 22 := ib_lt (by omega) h2
  have hb' : intBits n = intBits m + k := by rw [e]; exact ib_mul_p2 hm0 k
  have hz : (2 : Int) ^ ((k : Int)).toNat ≠ 0 := by rw [Int.toNat_natCast]; omega
  have hl : ((2 : Int) ^ ((k : Int)).toNat).natAbs.log2 < 9000 := by
    rw [Int.toNat_natCast, Int.natAbs_pow]
    show ((2 : Nat) ^ k).log2 < 9000
    rw [Nat.log2_two_pow]; omega
  have ef : n.fdiv (2 ^ ((k : Int)).toNat) = m := by
    rw [Int.toNat_natCast, e, Int.fdiv_eq_ediv_of_nonneg _ (Int.le_of_lt pk)]
    exact Int.mul_ediv_cancel _ (by omega)
  krn_off
  rename Fm _ _ _ _ _ _ _ _ => F9
  have T9 := F9.tup (.head _)
  rw [ef] at T9
  have vx : Mpf.val ⟨0, m, 0 + (k : Int), intBits m⟩ = n := by
    rw [val_eq, sv_zero, zp_add, e]
    simp
  exact q _ _ _ ⟨0, m, 0 + (k : Int), intBits m⟩ _ _ _ _ F9.kp T9 ⟨⟨.inl rfl, Int.le_of_lt hm0, rfl, fun c => absurd c (by show m ≠ 0; omega), fun _ => hm⟩, rfl, hm0, ⟨by show -100 ≤ 0 + (k : Int); omega, by show 0 + (k : Int) ≤ 100; omega, by show (intBits m : Int) ≤ 100; omega⟩⟩ vx (by show (intBits m : Int) ≤ 22; omega)
theorem lk_nil' {ms : List (Nat × Value)} : ∀ i v, ([] : List (Nat × Value)).lookup i = some v → ms.lookup i = some v := fun _ _ e => by cases e
theorem lk_cons' {ms ms' : List (Nat × Value)} {j : Nat} {u : Value} (e : ms.lookup j = some u) (h : ∀ i v, ms'.lookup i = some v → ms.lookup i = some v) : ∀ i v, ((j, u) :: ms').lookup i = some v → ms.lookup i = some v := fun _ _ => lk_cons e (h _ _)
/-- the greatest whole root, bit by bit -/
def RtI (n : Int) (u : Tok) (i : Nat) (ms : List (Nat × Value)) (l : Led) : Prop := ∃ r v, ms.lookup 94 = some (.int r v) ∧ ms.lookup 0 = some (.int n u) ∧ 0 ≤ r ∧ r * r ≤ n ∧ n < (r + 2 ^ (11 - i)) * (r + 2 ^ (11 - i)) ∧ r + 2 ^ (11 - i) ≤ 2048
theorem c_law_root {n : Int} {u1 : Tok} {Q : Value → Shared → Prop} (R : Rm 1 A) (G : Gl w h) (h1 : 1 ≤ n) (h2 : n < 2 ^ 22)
  (q : ∀ h' t' r v1, Kp h h' → 0 ≤ r → r * r ≤ n → n < (r + 1) * (r + 1) → r ≤ 2047 → Q (.int r v1) (St s₀ h' t')) :
  wpAny (MM w) A (call (.ref 333) [.int n u1]) Q E (St s₀ h t) := by
  refine' enter [0, 94, 81] [95] [(0, .int n u1)] R G rfl ?hcd ?hb ?hlo ?hgl ?hms ?hco ?hgen ?hk ?hcell ?_
  kxs_still
  intro A' env h₁ t' E' R' F
  leaf_len
  repeat' ((fail_if_success (with_reducible show FoR _ _ _ _ _ _ _ _ _ _)); kat_tups)
  rename Fm _ _ _ _ _ _ _ _ => F9
  rename IsRange _ _ _ _ _ _ _ _ => R9
  refine for_range (n := 11) (RtI n u1) F9 R9 (by decide +kernel) (by decide +kernel) R'.hn rfl ⟨0, _, rfl, rfl, by omega, by omega, by simpa using h2, by decide⟩ ?turn ?done
  case done =>
    rintro h5 t5 ms l ⟨r, v, g1, g2, g3, g4, g5, g6⟩ F5
    have F6 := F5.weak (ms' := [(94, .int r v), (0, .int n u1)]) (l' := []) (lk_cons' g1 (lk_cons' g2 lk_nil')) (fun _ h => nomatch h)
    krn_off
    rename Fm _ _ _ _ _ _ _ _ => F9
    exact q _ _ _ _ F9.kp g3 g4 (by simpa using g5) (by omega)
  case turn =>
    rintro i b ms l h5 t5 u E5 hi ⟨r, v, g1, g2, g3, g4, g5, g6⟩ F5
    have e1 : (10 : Int) + (i : Nat) * (-1) = ((10 - i : Nat) : Int) := by omega
    rw [e1] at F5
    have e2 : 11 - i = (10 - i) + 1 := by omega
    have e3 : 11 - (i + 1) = 10 - i := by omega
    rw [e2, Int.pow_succ] at g5 g6
    generalize hk : 10 - i = k at *
    have kl : k ≤ 10 := by omega
    have F6 := F5.weak (ms' := [(81, .int (k : Int) u), (94, .int r v), (0, .int n u1)]) (l' := []) (lk_cons' rfl (lk_cons' g1 (lk_cons' g2 lk_nil'))) (fun _ h => nomatch h)
    clear F5 F
    have hp : 0 < (2 : Int) ^ k := Int.pow_pos (by decide)
    have b1 : intBits (r + 2 ^ ((k : Int)).toNat) ≤ 12 := by rw [Int.toNat_natCast]; exact ib_lt (by omega) (by omega)
    have k1 : IntMulOk (r + 2 ^ ((k : Int)).toNat) (r + 2 ^ ((k : Int)).toNat) := mulOk_of_bits b1 b1 (by decide)
    krn_off
    · rename Fm _ _ _ _ _ _ _ _ => F9
      rename _ ≤ n => c9
      rw [Int.toNat_natCast] at c9
      refine jn ⟨_, _, ⟨_, _, rfl, rfl, ?_⟩, F9⟩
      rw [Int.toNat_natCast, e3]
      have e4 : r + 2 ^ k + 2 ^ k = r + 2 ^ k * 2 := by omega
      exact ⟨by omega, c9, by rw [e4]; exact g5, by omega⟩
    · rename Fm _ _ _ _ _ _ _ _ => F9
      rename ¬ _ ≤ n => c9
      rw [Int.toNat_natCast] at c9
      refine jn ⟨_, _, ⟨r, v, rfl, rfl, ?_⟩, F9⟩
      rw [e3]
      exact ⟨g3, g4, by omega, by omega⟩
end

local macro_rules | `(tactic| kp_flats) => `(tactic| ((with_reducible refine' r_powb ?s ?s' ?_); (case s => fold_depth); (case s' => with_reducible assumption); intro _ _))

section
variable {w : World} {A : Around} {E : Value → Shared → Prop} {s₀ : Shared} {h : Heap} {t : Nat}
theorem isList_keeps {h h' : Heap} {b : Addr} {items : Array Value} (x : h.IsList b items) (k : Kp h h') : h'.IsList b items := let ⟨o, e, r⟩ := x; ⟨o, k _ _ e, r⟩
theorem mixed_ok {n : Int} (hb : intBits n ≤ 1048576) : IntMulOk n 6364136223846793005 ∧ IntMulOk (0 + 1) 1442695040888963407 ∧ (intBits (n * 6364136223846793005 + (0 + 1) * 1442695040888963407) : Int) * 3 ≤ 2 ^ 27 := by
  have c1 : intBits 6364136223846793005 ≤ 64 := by decide +kernel
  have c2 : intBits ((0 + 1) * 1442695040888963407) ≤ 64 := by decide +kernel
  refine ⟨mulOk_of_bits hb c1 (by decide), mulOk_of_bits (m := 1) (n := 64) (by decide +kernel) (by decide +kernel) (by decide), ?_⟩
  have x1 : intBits (n * 6364136223846793005) ≤ 1048640 := Nat.le_trans (bits_mul hb c1) (by decide)
  have := bits_add x1 (Nat.le_trans c2 (show 64 ≤ 1048640 by decide))
  omega
theorem c_law_mixed {b : Addr} {vs : List Value} {ns : List Int} {u1 : Tok} {Q : Value → Shared → Prop} (R : Rm 1 A) (G : Gl w h) (hl : h.IsList b vs.toArray) (hi : IntsAre vs ns) (hlay : PyData.layable0 (.list (ns.map .int)) = true) (hn : vs.length ≤ 1000)
  (q : ∀ h' t' f v1, Kp h h' → Q (.int f v1) (St s₀ h' t')) :
  wpAny (MM w) A (call (.ref 279) [.ref b, .int 0 u1]) Q E (St s₀ h t) := by
  have he := hi.length
  have b1 : intBits (ns.getD 0 0) ≤ 1048576 := bits_getD hlay
  have hs0 : Kp h h := fun _ _ e => e
  refine' enter [80, 81, 0] [82] [(81, .int 0 u1), (80, .ref b)] R G rfl ?hcd ?hb ?hlo ?hgl ?hms ?hco ?hgen ?hk ?hcell ?_
  kxs_still
  intro A' env h₁ t' E' R' F
  leaf_len
  repeat' ((fail_if_success (with_reducible show wpAny _ _ (call (Value.builtin "len") _) _ _ _)); kat_tups)
  refine r_len (isList_keeps hl (Fm.kp (by assumption))) hn fun _ _ => ?_
  repeat' ((fail_if_success (with_reducible show wpAny _ _ (subscriptTail _ _ _ _) _ _ _)); (fail_if_success (with_reducible show wpAny _ _ (execs (Stmt.If _ _ _ _ :: _) _) _ _ _)); kat_tups)
  · rename (0 : Int) < _ => c9
    refine r_list_item (isList_keeps hl (Fm.kp F)) hi (Int.le_refl 0) (by omega) (by decide) rfl fun u9 => ?_
    show wpAny _ _ (storeName env (X 0) (Value.int (ns.getD 0 0) u9)) _ _ _
    generalize ns.getD 0 0 = n at b1 ⊢
    obtain ⟨k1, k2, k3⟩ := mixed_ok b1
    krn_off <;> (rename Fm _ _ _ _ _ _ _ _ => F9; exact q _ _ _ _ F9.kp)
  · obtain ⟨k1, k2, k3⟩ := mixed_ok (show intBits 0 ≤ 1048576 by decide)
    krn_off <;> (rename Fm _ _ _ _ _ _ _ _ => F9; exact q _ _ _ _ F9.kp)
end
theorem lookup_relabel {env : Env} {k : NameKind} (hk : (k == .free) = false) : ∀ {names : List (Str × NameKind)} {x : Str}, names.lookup x = some k →
    (names.map fun (n, k) => if (k == NameKind.free && env.scope.kind == .function && env.kindOf n == some .cell) then (n, NameKind.cell) else (n, k)).lookup x = some k
  | [], _, h => by simp at h
  | (n, k') :: r, x, h => by
    have ih := @lookup_relabel env k hk r x
    show List.lookup x ((if (k' == NameKind.free && env.scope.kind == .function && env.kindOf n == some .cell) = true then (n, NameKind.cell) else (n, k')) :: _) = _
    rw [List.lookup_cons] at h
    by_cases c : (x == n) = true
    · rw [c] at h
      simp only at h
      cases h
      rw [hk]
      simp [List.lookup_cons, c]
    · have c' : (x == n) = false := by simpa using c
      rw [c'] at h
      simp only at h
      split <;> (rw [List.lookup_cons, c']; exact ih h)
/-- a pair that the news or the base hold -/
def PrAt (h₀ : Heap) (news : List (Addr × Obj)) (y : Addr) (p : Addr × Mpf) : Prop :=
  ∃ o v1 v2, ((y, o) ∈ news ∨ h₀.get? y = some o) ∧ o.cls = .type "tuple" ∧ ∃ n, o.data = .seq #[.int (sv p.2.sg p.2.mn) v1, .int p.2.ex v2] n
inductive Prs (h₀ : Heap) (news : List (Addr × Obj)) : List Addr → List (Addr × Mpf) → Prop where
  | nil : Prs h₀ news [] []
  | snoc {ys xs y p} : Prs h₀ news ys xs → PrAt h₀ news y p → Prs h₀ news (ys ++ [y]) (xs ++ [p])
theorem Prs.grow {h₀ : Heap} {news news' : List (Addr × Obj)} {ys : List Addr} {xs : List (Addr × Mpf)} (h : Prs h₀ news ys xs) (hs : ∀ p ∈ news, p ∈ news') : Prs h₀ news' ys xs := by
  induction h with
  | nil => exact .nil
  | snoc _ x ih =>
    obtain ⟨o, v1, v2, hm, r⟩ := x
    exact .snoc ih ⟨o, v1, v2, hm.imp (hs _) id, r⟩
/-- a number's tuple that the news or the base hold -/
def NrAt (h₀ : Heap) (news : List (Addr × Obj)) (p : Addr × Mpf) : Prop :=
  ∃ o u1 u2 u3 u4, ((p.1, o) ∈ news ∨ h₀.get? p.1 = some o) ∧ o.cls = .type "tuple" ∧ ∃ n, o.data = .seq #[.int p.2.sg u1, .int p.2.mn u2, .int p.2.ex u3, .int p.2.bc u4] n
section
variable {w : World} {A : Around} {E : Value → Shared → Prop} {s₀ : Shared} {hh : Heap} {h₀ : Base} {t : Nat} {lo gl : List Nat} {ms : List (Nat × Value)} {l : Led} {env : Env}
theorem comp_rest {h₀ : Heap} {L : Addr} {m : Str → Option Value} {scope : Scope} {p1 p2 p3 : Pos} {news0 : List (Addr × Obj)} {items : Array Value} {Fin : List Value → List (Addr × Obj) → Prop} (R : Rm 1 A) (G : Gl w h₀) (hg : env.globals = mainGlobals)
    (hkind : scope.kind = .function) (hx : scope.names.lookup (X 92) = some .local) (hx' : scope.names.lookup (X 91) = some .globalImplicit) :
    ∀ (xs : List (Addr × Mpf)) (done : List (Addr × Mpf)) (i : Nat) (ys : List Addr) (news : List (Addr × Obj)), (∀ j p, xs[j]? = some p → items[i + j]? = some (Value.ref p.1)) → (∀ p ∈ xs, NrAt h₀ news0 p ∧ (p.2.sg = 0 ∨ p.2.sg = 1)) → Prs h₀ news ys done →
      (∀ p ∈ news0, p ∈ news) → (∀ ys' news', (∀ p ∈ news0, p ∈ news') → Prs h₀ news' ys' (done ++ xs) → Fin (ys'.map .ref) news') →
      LCg.CompRest (PySem.Challenge.rw_aj5015_01.row.prog) w A h₀ L m env (.Call (.Name (X 91) p1) [.Name (X 92) p2] [] p3) (X 92) scope [] (St s₀ hh t) (fun news => ∀ p ∈ news0, p ∈ news) (fun i v => items[i]? = some v) Fin xs.length i (ys.map .ref) news
  | [], done, i, ys, news, _, _, hp, hs, fin => by
    refine LCg.CompRest.zero (fin ys news hs ?_)
    rw [List.append_nil]; exact hp
  | (a, x) :: xs, done, i, ys, news, hit, hnr, hp, hs, fin => by
    refine LCg.CompRest.succ fun v I oI C oC D m₂ h tk E' hv hC hm₂ F N off ne => ?_
    have hv' : v = .ref a := by
      have := hit 0 (a, x) rfl
      rw [Nat.add_zero] at this
      have hv : items[i]? = some v := hv
      rw [this] at hv
      cases hv; rfl
    subst hv'
    show wpAny (MM w) A _ _ E' (St s₀ h tk)
    have G1 : Gl w h := G.keeps F.keep
    have kind' : (compEnvC scope [] C env).scope.kind = .function := hkind
    have eC := (N (C, oC) (by simp)).1
    obtain ⟨⟨o, u1, u2, u3, u4, ho, hc, n, hd⟩, hsg⟩ := hnr (a, x) (.head _)
    have T : IsTup h a #[.int x.sg u1, .int x.mn u2, .int x.ex u3, .int x.bc u4] := by
      refine ⟨o, ?_, hc, n, hd⟩
      rcases ho with ho | ho
      · exact (N (a, o) (.tail _ (.tail _ (.tail _ (hs _ ho))))).1
      · exact F.keep _ _ ho
    refine e_call ?_ rfl
    obtain ⟨_, _, mg, mb, TR⟩ := G1.t
    refine Name_function_global kind' (lookup_relabel rfl hx') (loadGlobal_global (env := compEnvC scope [] C env) (mg := mg) (show h.Ns env.globals mg from hg ▸ TR.g) (mg_of G1.k TR.g (gv_ok w (i := 91) (v := .ref 293) rfl)) ?_) (x_debug (by decide))
    refine callWith_K (first := []) (s := St s₀ h tk) G1.k (fn_ok w (a := 293) (by decide)) ?_ rfl rfl
    refine spliced_more ?_ rfl
    refine ldVarK (s := St s₀ h tk) (m := m₂) (hC.ns eC) hm₂ ?_ kind' (lookup_relabel rfl hx) (x_debug (by decide))
    refine spliced_none ⟨G1.k, ?_⟩
    show wpAny (MM w) A (call (.ref 293) [.ref a]) _ E' (St s₀ h tk)
    refine c_law_value R G1 T (Hd.mk hsg) fun b h' t' v1 v2 k' nb T' => ?_
    obtain ⟨o', ho', hc', n', hd'⟩ := T'
    have off' : ∀ c oc, h.get? c = some oc → b ≠ c := fun c oc e q => by rw [← q, nb] at e; cases e
    have eL : ∃ oL, h.get? L = some oL := let ⟨oL, _, _, e, _⟩ := F.ns; ⟨oL, e⟩
    have b0 : h₀.get? b = none := by
      cases e : h₀.get? b with
      | none => rfl
      | some ob => exact absurd rfl (off' _ _ (F.keep _ _ e))
    refine ⟨h', t', (b, o') :: news, rfl, frAfter F k', fun p hp' => ?_, ⟨⟨off' _ _ (N (I, oI) (.head _)).1, off' _ _ eC, off' _ _ (N (D, _) (.tail _ (.tail _ (.head _)))).1⟩, off⟩, fun p hp' => .tail _ (hs p hp'), ?_⟩
    · have old : ∀ p ∈ (I, oI) :: (C, oC) :: (D, LCg.lst (ys.map Value.ref)) :: news, h'.get? p.1 = some p.2 ∧ p.1 ≠ L ∧ h₀.get? p.1 = none := fun p hp' => ⟨k' _ _ (N p hp').1, (N p hp').2⟩
      rcases List.mem_cons.mp hp' with rfl | hp'
      · exact old _ (.head _)
      · rcases List.mem_cons.mp hp' with rfl | hp'
        · exact old _ (.tail _ (.head _))
        · rcases List.mem_cons.mp hp' with rfl | hp'
          · exact old _ (.tail _ (.tail _ (.head _)))
          · rcases List.mem_cons.mp hp' with rfl | hp'
            · obtain ⟨oL, e⟩ := eL
              exact ⟨ho', off' _ _ e, b0⟩
            · exact old _ (.tail _ (.tail _ (.tail _ hp')))
    · have := comp_rest R G hg hkind hx hx' xs (done ++ [(a, x)]) (i + 1) (ys ++ [b]) ((b, o') :: news) (p1 := p1) (p2 := p2) (p3 := p3) (m := m) (L := L) (items := items) (Fin := Fin) (news0 := news0)
        (fun j p hj => by have := hit (j + 1) p hj; rw [show i + 1 + j = i + (j + 1) by omega]; exact this) (fun p hp' => hnr p (.tail _ hp')) (.snoc (hp.grow fun p hp' => .tail _ hp') ⟨o', v1, v2, .inl (.head _), hc', n', hd'⟩)
        (fun p hp' => .tail _ (hs p hp')) (fun ys' news' k1 k2 => fin ys' news' k1 (by rw [List.append_assoc] at k2; exact k2))
      rw [List.map_append] at this
      exact this
end
theorem Prs.len {h₀ : Heap} {news : List (Addr × Obj)} {ys : List Addr} {xs : List (Addr × Mpf)} (h : Prs h₀ news ys xs) : ys.length = xs.length := by
  induction h with
  | nil => rfl
  | snoc _ _ ih => simp [ih]
theorem Prs.get {h₀ : Heap} {news : List (Addr × Obj)} {ys : List Addr} {xs : List (Addr × Mpf)} (h : Prs h₀ news ys xs) : ∀ (i : Nat) (y : Addr) (p : Addr × Mpf), ys[i]? = some y → xs[i]? = some p → PrAt h₀ news y p := by
  induction h with
  | nil => intro i y p hy; simp at hy
  | @snoc ys xs y0 p0 h1 x ih =>
    intro i y p hy hp
    have hl := h1.len
    by_cases c : i < ys.length
    · rw [List.getElem?_append_left c] at hy
      rw [List.getElem?_append_left (by omega)] at hp
      exact ih i y p hy hp
    · have hi : i = ys.length := by
        have := (List.getElem?_eq_some_iff.mp hy).1
        rw [List.length_append, List.length_singleton] at this
        omega
      subst hi
      rw [List.getElem?_append_right (Nat.le_refl _), Nat.sub_self] at hy
      rw [hl, List.getElem?_append_right (Nat.le_refl _), Nat.sub_self] at hp
      cases hy
      cases hp
      exact x
theorem Prs.heap {h₀ h : Heap} {news : List (Addr × Obj)} {ys : List Addr} {xs : List (Addr × Mpf)} (x : Prs h₀ news ys xs) (k : ∀ y o, ((y, o) ∈ news ∨ h₀.get? y = some o) → h.get? y = some o) : Prs h [] ys xs := by
  induction x with
  | nil => exact .nil
  | snoc _ x ih =>
    obtain ⟨o, v1, v2, hm, r⟩ := x
    exact .snoc ih ⟨o, v1, v2, .inr (k _ _ hm), r⟩
/-- all that a heap holds beyond its base, but the frame -/
def nws (h h₀ : Heap) (L : Addr) : List (Addr × Obj) := (List.range h.objs.size).filterMap fun b => if b = L then none else match h₀.get? b with | some _ => none | none => (h.get? b).map fun o => (b, o)
theorem mem_nws {h h₀ : Heap} {L b : Addr} {o : Obj} : (b, o) ∈ nws h h₀ L ↔ h.get? b = some o ∧ b ≠ L ∧ h₀.get? b = none := by
  unfold nws
  rw [List.mem_filterMap]
  constructor
  · rintro ⟨b', hb', e⟩
    split at e
    · cases e
    · rename_i hne
      split at e
      · cases e
      · rename_i h0
        cases ho : h.get? b' with
        | none => rw [ho] at e; cases e
        | some o' =>
          rw [ho] at e
          cases e
          exact ⟨ho, hne, h0⟩
  · rintro ⟨e, hne, h0⟩
    exact ⟨b, List.mem_range.mpr (Heap.lt_size e), by rw [if_neg hne, h0]; simp only [e]; rfl⟩
/-- behind the iterated tuple -/
def CpV (w : World) (h₀ : Base) (env : Env) (lo gl : List Nat) (s₀ : Shared) (xs : List (Addr × Mpf)) (Q : Value → Shared → Prop) (v : Value) (s' : Shared) : Prop :=
  ∃ D h t ms l, v = .ref D ∧ s' = St s₀ h t ∧ Fm w h₀ env lo gl ms l h ∧ (D, xs.map fun p => Value.ref p.1) ∈ l ∧ (∀ p ∈ xs, (∃ u1 u2 u3 u4, (p.1, [Value.int p.2.sg u1, .int p.2.mn u2, .int p.2.ex u3, .int p.2.bc u4]) ∈ l) ∧ (p.2.sg = 0 ∨ p.2.sg = 1)) ∧
    ∀ C ys h' t', Fm w h₀ env lo gl ms l h' → h'.IsList C (ys.map Value.ref).toArray → Prs h' [] ys xs → Q (.ref C) (St s₀ h' t')
section
variable {w : World} {A : Around} {E : Value → Shared → Prop} {s₀ : Shared} {h : Heap} {h₀ : Base} {t : Nat} {lo gl : List Nat} {ms : List (Nat × Value)} {l : Led} {env : Env}
theorem r_valcomp {xs : List (Addr × Mpf)} {iter : Expr} {p1 p2 p3 px pos : Pos} {scope : Scope} {Q : Value → Shared → Prop} (R : Rm 1 A) (hxs : xs.length ≤ 1000)
    (hfree : (scope.names.all fun x => x.2 != .free) = true) (hcell : (scope.names.all fun x => x.2 != .cell) = true) (hkind : scope.kind = .function)
    (hnames : (scope.names.all fun x => x.2 != .local || scope.names.lookup x.1 == some .local) = true) (hx : scope.names.lookup (X 92) = some .local) (hx' : scope.names.lookup (X 91) = some .globalImplicit)
    (hs : ∀ x, foldedSetIterable iter env x = pure x)
    (k : wpAny (MM w) A (eval iter env) (CpV w h₀ env lo gl s₀ xs Q) E (St s₀ h t)) :
    wpAny (MM w) A (eval (.ListComp (.Call (.Name (X 91) p1) [.Name (X 92) p2] [] p3) [⟨.Name (X 92) px, iter, [], 0⟩] scope pos) env) Q E (St s₀ h t) := by
  have hcell' : ∀ y ∈ scope.names, y.2 ≠ .cell := fun y hy => by simpa using List.all_eq_true.mp hcell y hy
  have hfree' : ∀ y ∈ scope.names, y.2 ≠ .free := fun y hy => by simpa using List.all_eq_true.mp hfree y hy
  have hnames' : ∀ y ∈ scope.names, y.2 = .local → scope.names.lookup y.1 = some .local := fun y hy e => by
    have := List.all_eq_true.mp hnames y hy
    rw [e] at this
    simpa using this
  rw [eval_ListComp]
  refine wpAny_comprehension_free (use := none) rfl hs (closureFor_none hfree') hkind hnames' (wpAny_mono k (fun xv s₁ h₁ => ?_) fun _ _ e => e)
  obtain ⟨D, h1, t1, ms, l, rfl, rfl, F, hm, hx1, q⟩ := h₁
  obtain ⟨m, f, r⟩ := id F.f
  obtain ⟨nm, sc, L, a, cd, henv, _⟩ := id F.e.shape
  have hg : env.globals = mainGlobals := by rw [henv]; rfl
  have N0 : News h₀.hp env.locals h1 (nws h1 h₀.hp env.locals) := fun p hp => mem_nws.mp hp
  have held : ∀ b o, h1.get? b = some o → b ≠ env.locals → (b, o) ∈ nws h1 h₀.hp env.locals ∨ h₀.hp.get? b = some o := fun b o e ne => by
    cases e0 : h₀.hp.get? b with
    | none => exact .inl (mem_nws.mpr ⟨e, ne, e0⟩)
    | some o' => have := F.kp b o' e0; rw [e] at this; cases this; exact .inr rfl
  have TD := F.tup hm
  obtain ⟨oD, hoD, hcD, nD, hdD⟩ := id TD
  have hlt : D < h1.objs.size := Heap.lt_size hoD
  have tupne : ∀ b vs, (b, vs) ∈ l → b ≠ env.locals := fun b vs hb => isTup_ne f.ns (F.tup hb)
  refine wpAny_pyIter_tuple (s := St s₀ h1 t1) TD ?_
  have up : ∀ b o, h1.get? b = some o → (h1.push { cls := .type "tuple_iterator", data := .fields #[.ref D, .int 0 0] }).get? b = some o := fun b o e => Heap.get?_push_of_some _ e
  let Fin : List Value → List (Addr × Obj) → Prop := fun ys news => ∀ D h tk, Fr h₀.hp env.locals h m → News h₀.hp env.locals h ((D, LCg.lst ys) :: news) → LCg.Off1 D news → Q (.ref D) (St s₀ h tk)
  have key : LCg.CompRest (PySem.Challenge.rw_aj5015_01.row.prog) w A h₀.hp env.locals m env (.Call (.Name (X 91) p1) [.Name (X 92) p2] [] p3) (X 92) scope [] (St s₀ (h1.push { cls := .type "tuple_iterator", data := .fields #[.ref D, .int 0 0] }) t1)
      (fun news => ∀ p ∈ nws h1 h₀.hp env.locals, p ∈ news) (fun i v => ((xs.map fun p => Value.ref p.1).toArray)[i]? = some v) Fin xs.length 0 [] (nws h1 h₀.hp env.locals) := by
    refine comp_rest (ys := []) R F.g hg hkind hx hx' xs [] 0 _ (fun j p hj => ?_) (fun p hp => ?_) .nil (fun p hp => hp) (fun ys' news' k1 k2 => ?_)
    · rw [Nat.zero_add]; simp [hj]
    · obtain ⟨⟨u1, u2, u3, u4, hl⟩, hsg⟩ := hx1 p hp
      obtain ⟨o, ho, hc, n, hd⟩ := F.tup hl
      exact ⟨⟨o, u1, u2, u3, u4, held _ _ ho (tupne _ _ hl), hc, n, hd⟩, hsg⟩
    · intro D' h' tk F' N' o1
      have keep : ∀ b o, b ≠ env.locals → h1.get? b = some o → h'.get? b = some o := fun b o ne e => by
        rcases held b o e ne with c | c
        · exact (N' (b, o) (.tail _ (k1 _ c))).1
        · exact F'.keep _ _ c
      have F2 : Fm w h₀ env lo gl ms l h' := ⟨F.g, F.e, ⟨m, F', r⟩, fun p hp => by
        obtain ⟨o, ho, rr⟩ := F.n p hp
        exact ⟨o, keep _ _ (tupne _ _ hp) ho, rr⟩, fun p hp => ⟨keep _ _ (F.x p hp).2 (F.x p hp).1, (F.x p hp).2⟩⟩
      refine q D' ys' h' tk F2 ⟨_, (N' (D', _) (.head _)).1, rfl, _, rfl⟩ (k2.heap fun y o c => ?_)
      rcases c with c | c
      · exact (N' (y, o) (.tail _ c)).1
      · exact F'.keep _ _ c
  have hsz : (xs.map fun p => Value.ref p.1).toArray.size = xs.length := by simp
  have W := Walks.tuple (prog := PySem.Challenge.rw_aj5015_01.row.prog) (w := w) (A := A) R.hn h1.objs.size D (Nat.ne_of_lt hlt) (xs.map fun p => Value.ref p.1).toArray
  rw [hsz] at W
  refine LCg.block_U W (Nat.le_trans hxs (by decide)) (fun i h st => by obtain ⟨o, e, _⟩ := st.1; exact ⟨o, e⟩) (fun i h h' o nw st e e' kk N S => ?_) hcell' hkind hx ⟨⟨_, Heap.get?_push_size _ rfl, rfl, rfl⟩, ⟨oD, up _ _ hoD, hcD, nD, hdD⟩⟩ (fun b hb => ?_)
      (f.keeps up) (N0.grown up) (Nat.ne_of_lt f.ns.lt) (next_is_new f) (fun p hp => Nat.ne_of_lt (Heap.lt_size (N0 p hp).1)) (fun p hp => hp) key ?_
  · refine ⟨by obtain ⟨o', q', r'⟩ := st.1; have e1 : h.get? h1.objs.size = some o := e; rw [e1] at q'; cases q'; exact ⟨o, e', r'⟩, ?_⟩
    refine ⟨oD, ?_, hcD, nD, hdD⟩
    rcases held _ _ hoD (tupne _ _ hm) with c | c
    · exact (N (D, oD) (S _ c)).1
    · exact kk _ _ c
  · show b < (h1.push _).objs.size
    rw [Heap.size_push]
    rcases List.mem_cons.mp hb with rfl | hb
    · exact Nat.lt_succ_self _
    · rw [List.mem_singleton.mp hb]; exact Nat.lt_succ_of_lt hlt
  · intro D' C h' tk m' ys news' F' N' o1 hn hC₀ hD₀ hCL hDL hCD offC fin
    refine ⟨m', hn, fun h'' hs'' => fin D' h'' tk (F'.change hs'' hCL hC₀) (fun p hp => ?_) o1⟩
    refine ⟨hs''.extBut _ _ ?_ (N' p hp).1, (N' p hp).2⟩
    rcases List.mem_cons.mp hp with rfl | hp
    · exact Ne.symm hCD
    · exact offC p hp
end

local macro_rules | `(tactic| kp_flats) => `(tactic| ((with_reducible refine' r_addtup22 ?F ?a ?b ?_); (case F => with_reducible assumption); (case a => kcf_m); (case b => kcf_m); intro _ _ _))

local macro_rules | `(tactic| kp_flats) => `(tactic| ((with_reducible refine' r_unpackL4 ?F ?m ?n ?a ?b ?c ?d ?_); (case F => with_reducible assumption); (case m => with_reducible assumption); (case n => exact Rm.hn (by assumption)); (case a => exact rfl); (case b => exact rfl); (case c => exact rfl); (case d => exact rfl); intro _ _ _))

section
variable {w : World} {A : Around} {E : Value → Shared → Prop} {s₀ : Shared} {h : Heap} {t : Nat}
theorem prs4 {h : Heap} {ys : List Addr} {p1 p2 p3 p4 : Addr × Mpf} (x : Prs h [] ys [p1, p2, p3, p4]) : ∃ y1 y2 y3 y4 v1 v2 v3 v4 v5 v6 v7 v8, ys = [y1, y2, y3, y4] ∧ IsTup h y1 [.int (sv p1.2.sg p1.2.mn) v1, .int p1.2.ex v2].toArray ∧
    IsTup h y2 [.int (sv p2.2.sg p2.2.mn) v3, .int p2.2.ex v4].toArray ∧ IsTup h y3 [.int (sv p3.2.sg p3.2.mn) v5, .int p3.2.ex v6].toArray ∧ IsTup h y4 [.int (sv p4.2.sg p4.2.mn) v7, .int p4.2.ex v8].toArray := by
  have hl := x.len
  match ys, hl with
  | [y1, y2, y3, y4], _ =>
    have g : ∀ y (p : Addr × Mpf), PrAt h [] y p → ∃ v1 v2, IsTup h y [.int (sv p.2.sg p.2.mn) v1, .int p.2.ex v2].toArray := by
      rintro y p ⟨o, v1, v2, hm, hc, n, hd⟩
      rcases hm with hm | hm
      · cases hm
      · exact ⟨v1, v2, o, hm, hc, n, hd⟩
    obtain ⟨v1, v2, t1⟩ := g _ _ (x.get 0 y1 p1 rfl rfl)
    obtain ⟨v3, v4, t2⟩ := g _ _ (x.get 1 y2 p2 rfl rfl)
    obtain ⟨v5, v6, t3⟩ := g _ _ (x.get 2 y3 p3 rfl rfl)
    obtain ⟨v7, v8, t4⟩ := g _ _ (x.get 3 y4 p4 rfl rfl)
    exact ⟨y1, y2, y3, y4, v1, v2, v3, v4, v5, v6, v7, v8, rfl, t1, t2, t3, t4⟩
theorem c_law_within {c d a b e f : Addr} {xa xb ya yb : Mpf} {B : Int} {u1 u2 u3 u4 v1 v2 v3 v4 u1' u2' u3' u4' v1' v2' v3' v4' : Tok} {Q : Value → Shared → Prop} (R : Rm 2 A) (G : Gl w h)
  (Tc : IsTup h c [.ref a, .ref b].toArray) (Td : IsTup h d [.ref e, .ref f].toArray) (Ta : IsTup h a #[.int xa.sg u1, .int xa.mn u2, .int xa.ex u3, .int xa.bc u4]) (Tb : IsTup h b #[.int xb.sg v1, .int xb.mn v2, .int xb.ex v3, .int xb.bc v4])
  (Te : IsTup h e #[.int ya.sg u1', .int ya.mn u2', .int ya.ex u3', .int ya.bc u4']) (Tf : IsTup h f #[.int yb.sg v1', .int yb.mn v2', .int yb.ex v3', .int yb.bc v4'])
  (fa : Nf B xa) (fb : Nf B xb) (ga : Nf B ya) (gb : Nf B yb) (hB : B ≤ 200000) (h1 : ya.val ≤ xa.val) (h2 : xb.val ≤ yb.val) (h3 : xa.val ≤ xb.val)
  (q : ∀ h' t', Kp h h' → Q (.bool true) (St s₀ h' t')) : wpAny (MM w) A (call (.ref 319) [.ref c, .ref d]) Q E (St s₀ h t) := by
  have pa := fa.ps
  have pb := fb.ps
  have qa := ga.ps
  have qb := gb.ps
  have n1 : ¬ pv (sv xa.sg xa.mn) xa.ex < pv (sv ya.sg ya.mn) ya.ex := by rw [pv_val, pv_val]; grind
  have n2 : ¬ pv (sv yb.sg yb.mn) yb.ex < pv (sv xb.sg xb.mn) xb.ex := by rw [pv_val, pv_val]; grind
  have n3 : ¬ pv (sv xb.sg xb.mn) xb.ex < pv (sv xa.sg xa.mn) xa.ex := by rw [pv_val, pv_val]; grind
  refine' enter [87, 88, 25, 26, 89, 90] [93] [(88, .ref d), (87, .ref c)] R G rfl ?hcd ?hb ?hlo ?hgl ?hms ?hco ?hgen ?hk ?hcell ?_
  kxs_still
  intro A' env h₁ t' E' R' F
  replace F := (((((F.add (IsTup.keeps Ta F.kp)).add (IsTup.keeps Tb F.kp)).add (IsTup.keeps Te F.kp)).add (IsTup.keeps Tf F.kp)).add (IsTup.keeps Tc F.kp)).add (IsTup.keeps Td F.kp)
  leaf_len
  kat_tups
  kat_tups
  refine r_valcomp (h₀ := ⟨h, []⟩) (lo := [87, 88, 25, 26, 89, 90]) (gl := [93]) (xs := [(a, xa), (b, xb), (e, ya), (f, yb)]) R' (Nat.le_of_ble_eq_true rfl) (by decide +kernel) (by decide +kernel) rfl (by decide +kernel) (by decide +kernel) (by decide +kernel) (by intro _; exact rfl) ?_
  kat_tups
  kat_tups
  kat_tups
  kat_tups
  rename Fm _ _ _ _ _ _ _ _ => F9
  refine ⟨_, _, _, _, _, rfl, rfl, F9, .head _, fun p hp => ?_, ?_⟩
  · have hp' : p = (a, xa) ∨ p = (b, xb) ∨ p = (e, ya) ∨ p = (f, yb) := by simpa using hp
    rcases hp' with rfl | rfl | rfl | rfl
    · exact ⟨⟨_, _, _, _, by kcf_m⟩, fa.ok.sg⟩
    · exact ⟨⟨_, _, _, _, by kcf_m⟩, fb.ok.sg⟩
    · exact ⟨⟨_, _, _, _, by kcf_m⟩, ga.ok.sg⟩
    · exact ⟨⟨_, _, _, _, by kcf_m⟩, gb.ok.sg⟩
  · intro C ys h5 t5 F5 L5 P5
    obtain ⟨y1, y2, y3, y4, _, _, _, _, _, _, _, _, rfl, t1, t2, t3, t4⟩ := prs4 P5
    replace F5 := (((F5.add t1).add t2).add t3).add t4
    have L5 : h5.IsList C [Value.ref y1, .ref y2, .ref y3, .ref y4].toArray := L5
    clear F9 F
    krn_off
    rename Fm _ _ _ _ _ _ _ _ => F9
    exact q _ _ F9.kp
end
theorem bindsub2 {w : World} {a b : Addr} {s : Shared} (G : Gl w s.heap) : Binds w 206 s [.ref a, .ref b] [(10, .int 0 544), (13, .ref b), (24, .ref a)] := by
  intro o fd ho hd
  have ho' : (KK w).lookup 206 = some o := ho
  simp only [show (KK w).lookup 206 = some _ from rfl, Option.some.injEq] at ho'
  subst ho'
  cases hd
  exact binds_K G.k rfl rfl rfl rfl rfl
theorem bindsub3 {w : World} {a b : Addr} {p : Int} {w1 : Tok} {s : Shared} (G : Gl w s.heap) : Binds w 206 s [.ref a, .ref b, .int p w1] [(10, .int p w1), (13, .ref b), (24, .ref a)] := by
  intro o fd ho hd
  have ho' : (KK w).lookup 206 = some o := ho
  simp only [show (KK w).lookup 206 = some _ from rfl, Option.some.injEq] at ho'
  subst ho'
  cases hd
  exact binds_K G.k rfl rfl rfl rfl rfl
theorem law_go {w : World} {h₀ h₁ : Heap} {nm : Str} {sc : Scope} {a b : Addr} {cd : Value} {m : Str → Option Value} {s₀ : Shared} {t : Nat} {body : List Stmt} {Q : Flow → Shared → Prop} {E : Value → Shared → Prop} {prog : Program} (lo gl : List Nat) (G : Gl w h₀) (F : Fr h₀ h₀.objs.size h₁ m) (hm : m (X 80) = some (.ref b)) (hk : sc.kind = .function)
    (hlo : (lo.all fun i => decide (i < NX) && decide (sc.names.lookup (X i) = some .local)) = true) (hgl : (gl.all fun i => decide (i < NX) && decide (sc.names.lookup (X i) = some .globalImplicit)) = true)
    (k : ∀ A' env E', Rm 12 A' → Fm w ⟨h₀, []⟩ env lo gl [(80, .ref b)] [] h₁ → wpAny (model prog w) A' (execs body env) Q E' (St s₀ h₁ t)) :
    wpAny (model prog w) (callerA.deeper (envOf nm sc h₀.objs.size a cd)) (execs body (envOf nm sc h₀.objs.size a cd)) Q E (St s₀ h₁ t) := by
  have lo' : ∀ i, lo.contains i = true → i < NX ∧ sc.names.lookup (X i) = some .local := fun i hi => by
    have := List.all_eq_true.mp hlo i (by simpa using hi)
    simpa using this
  have gl' : ∀ i, gl.contains i = true → i < NX ∧ sc.names.lookup (X i) = some .globalImplicit := fun i hi => by
    have := List.all_eq_true.mp hgl i (by simpa using hi)
    simpa using this
  refine k _ _ _ (Rm.deeper (d := 12) ⟨rfl, by decide, by decide⟩) ⟨G, ⟨_, _, _, _, _, rfl, hk, lo', gl'⟩, ⟨_, F, fun i v e => ?_⟩, fun p hp => (nomatch hp), fun p hp => (nomatch hp)⟩
  rw [List.lookup_cons] at e
  by_cases c : i = 80
  · subst c
    simp only [BEq.rfl] at e
    cases e
    exact ⟨by decide, hm⟩
  · have : (i == 80) = false := by simpa using c
    rw [this] at e
    cases e
theorem shift_half {x y : Mpf} (h : x = ⟨y.sg, y.mn, y.ex + -1, y.bc⟩) : x.val * 2 = y.val := by
  have e : x.val = y.val * (2 : Rat) ^ (-1 : Int) := by rw [h]; exact shift_val
  have h3 : (2 : Rat) ^ (-1 : Int) = 1 / 2 := by decide +kernel
  rw [e, h3]
  grind
theorem sv_le {x : Mpf} {p : Int} (ok : x.Ok) (hb : x.bc ≤ p) : -2 ^ p.toNat ≤ sv x.sg x.mn ∧ sv x.sg x.mn ≤ 2 ^ p.toNat := by
  have h0 := ok.mn
  have h1 : x.mn ≤ 2 ^ p.toNat := by
    by_cases c : x.mn = 0
    · rw [c]; exact Int.le_of_lt (p2_pos _)
    · obtain ⟨k, e, a, b⟩ := ib_bounds (show 0 < x.mn by omega)
      have := ok.bc
      have := p2_le (show k + 1 ≤ p.toNat by omega)
      omega
  unfold sv
  split <;> omega
theorem inF_val {x : Mpf} {p : Int} (ok : x.Ok) (hb : x.bc ≤ p) : InF p x.val := ⟨_, _, rfl, sv_le ok hb⟩
theorem inF_two {x : Mpf} {p : Int} (ok : x.Ok) (hb : x.bc ≤ p) : InF p (x.val * 2) := by
  refine ⟨sv x.sg x.mn, x.ex + ((1 : Nat) : Int), ?_, sv_le ok hb⟩
  rw [zp_add]
  show (sv x.sg x.mn : Rat) * (2 : Rat) ^ x.ex * 2 = _
  have : ((2 ^ 1 : Int) : Rat) = 2 := rfl
  rw [this]; grind
theorem pl_mid {p : Int} {xa xb y xm : Mpf} (oa : xa.Ok) (ob : xb.Ok) (ha : xa.bc ≤ p) (hb : xb.bc ≤ p) (ab : xa.val ≤ xb.val) (h : Rnd .n p (xa.val + xb.val) y) (e : xm = ⟨y.sg, y.mn, y.ex + -1, y.bc⟩) : xa.val ≤ xm.val ∧ xm.val ≤ xb.val := by
  have h2 := shift_half e
  have h3 := h.fl _ (inF_two oa ha) (by grind)
  have h4 := h.cl _ (inF_two ob hb) (by grind)
  grind
theorem pl_ab {a b n : Rat} (hb : 0 ≤ b) (h1 : a * a ≤ n) (h2 : n ≤ b * b) : a ≤ b := sq_cancel hb (Rat.le_trans h1 h2)
theorem div_mul' {a b d : Rat} (hb : 0 < b) (h : d = a / b) : d * b = a := by rw [h]; exact Rat.div_mul_cancel (Rat.ne_of_gt hb)
theorem pl_low {a m b n v dh t : Rat} (a0 : 0 < a) (am : a ≤ m) (mb : m ≤ b) (an : a * a ≤ n) (nb : n ≤ b * b) (hv : v = m * m - n) (hd : (0 ≤ v ∧ dh * (a * 2) = v) ∨ (v ≤ 0 ∧ dh * (b * 2) = v)) (ht : t ≤ m - dh) : t ≤ 0 ∨ t * t ≤ n := by
  refine Classical.byContradiction fun c => ?_
  have t0 : 0 < t := by grind
  have t1 : n < t * t := by grind
  have t2 := sq_mono (Rat.le_of_lt t0) ht
  obtain ⟨y, hy⟩ : ∃ y, y = m - dh := ⟨_, rfl⟩
  rw [← hy] at t2 ht
  have t3 : n < y * y := by grind
  have y0 : 0 < y := by grind
  have eq1 : dh * (m + y) = m * m - y * y := by rw [show dh = m - y by grind]; grind
  have eq2 : -dh * (y + m) = y * y - m * m := by rw [show dh = m - y by grind]; grind
  clear t0 t1 t2 ht c
  rcases hd with ⟨v0, hd⟩ | ⟨v0, hd⟩
  · have d0 : 0 ≤ dh := by
      refine Classical.byContradiction fun q => ?_
      have := Rat.mul_lt_mul_of_pos_right (show dh < 0 by grind) (show 0 < a * 2 by grind)
      grind
    have k1 : ¬ a * 2 ≤ m + y := fun q => by
      have := Rat.mul_le_mul_of_nonneg_left q d0
      rw [eq1, hd] at this
      grind
    have := sq_mono (Rat.le_of_lt y0) (show y ≤ a by grind)
    grind
  · have b0 : 0 < b * 2 := by grind
    have d0 : 0 ≤ -dh := by
      refine Classical.byContradiction fun q => ?_
      have := Rat.mul_lt_mul_of_pos_right (show 0 < dh by grind) b0
      grind
    have yb : y ≤ b := by
      refine Classical.byContradiction fun q => ?_
      have k1 := Rat.mul_lt_mul_of_pos_right (show b - m < -dh by grind) b0
      have k2 := Rat.mul_le_mul_of_nonneg_left (show b + m ≤ b * 2 by grind) (show 0 ≤ b - m by grind)
      grind
    have := Rat.mul_le_mul_of_nonneg_left (show y + m ≤ b * 2 by grind) d0
    rw [eq2, Rat.neg_mul, hd] at this
    grind
theorem pl_high {a m b n v dl t : Rat} (a0 : 0 < a) (am : a ≤ m) (mb : m ≤ b) (an : a * a ≤ n) (nb : n ≤ b * b) (hv : v = m * m - n) (hd : (0 ≤ v ∧ dl * (b * 2) = v) ∨ (v ≤ 0 ∧ dl * (a * 2) = v)) (ht : m - dl ≤ t) : 0 < t ∧ n ≤ t * t := by
  obtain ⟨y, hy⟩ : ∃ y, y = m - dl := ⟨_, rfl⟩
  rw [← hy] at ht
  have n0 : 0 < n := by
    have := Rat.mul_pos a0 a0
    grind
  have eq1 : dl * (m + y) = m * m - y * y := by rw [show dl = m - y by grind]; grind
  have eq2 : -dl * (y + m) = y * y - m * m := by rw [show dl = m - y by grind]; grind
  have key : 0 < y ∧ n ≤ y * y := by
    rcases hd with ⟨v0, hd⟩ | ⟨v0, hd⟩
    · have b0 : 0 < b * 2 := by grind
      have d0 : 0 ≤ dl := by
        refine Classical.byContradiction fun q => ?_
        have := Rat.mul_lt_mul_of_pos_right (show dl < 0 by grind) b0
        grind
      have y0 : 0 < y := by
        refine Classical.byContradiction fun q => ?_
        have k1 := Rat.mul_le_mul_of_nonneg_right (show m ≤ dl by grind) (Rat.le_of_lt b0)
        have k2 := Rat.mul_le_mul_of_nonneg_left (show m ≤ b * 2 by grind) (show 0 ≤ m by grind)
        grind
      refine ⟨y0, Classical.byContradiction fun q => ?_⟩
      have := Rat.mul_le_mul_of_nonneg_left (show m + y ≤ b * 2 by grind) d0
      rw [eq1, hd] at this
      grind
    · have a2 : 0 < a * 2 := by grind
      have d0 : 0 ≤ -dl := by
        refine Classical.byContradiction fun q => ?_
        have := Rat.mul_lt_mul_of_pos_right (show 0 < dl by grind) a2
        grind
      refine ⟨by grind, Classical.byContradiction fun q => ?_⟩
      have := Rat.mul_le_mul_of_nonneg_left (show a * 2 ≤ y + m by grind) d0
      rw [eq2, Rat.neg_mul, hd] at this
      grind
  have := sq_mono (Rat.le_of_lt key.1) ht
  grind
/-- the quotient's ends and how far apart they are -/
theorem pl_quo {a m b n v Da Db V : Rat} (a0 : 0 < a) (am : a ≤ m) (mb : m ≤ b) (an : a * a ≤ n) (nb : n ≤ b * b) (hv : v = m * m - n) (hV : V = v ∨ V = -v) (V0 : 0 ≤ V) (ha : Da * (a * 2) = V) (hb : Db * (b * 2) = V) :
    0 ≤ Da ∧ 0 ≤ Db ∧ (Da - Db) * a ≤ (b - a) * (b - a) ∧ (Da + Db) * a ≤ (b - a) * b * 2 := by
  have b0 : 0 < b := by grind
  have m0 : 0 < m := by grind
  have q1 := sq_mono (Rat.le_of_lt m0) mb
  have q2 := sq_mono (Rat.le_of_lt a0) am
  have Vw : V ≤ (b - a) * (a + b) := by rcases hV with e | e <;> grind
  have w0 : 0 ≤ b - a := by grind
  have Da0 : 0 ≤ Da := by
    refine Classical.byContradiction fun q => ?_
    have := Rat.mul_lt_mul_of_pos_right (show Da < 0 by grind) (show 0 < a * 2 by grind)
    grind
  have Db0 : 0 ≤ Db := by
    refine Classical.byContradiction fun q => ?_
    have := Rat.mul_lt_mul_of_pos_right (show Db < 0 by grind) (show 0 < b * 2 by grind)
    grind
  have r1 := Rat.mul_le_mul_of_nonneg_left (show a ≤ b by grind) Db0
  have r2 := Rat.mul_le_mul_of_nonneg_left (show a + b ≤ b * 2 by grind) w0
  refine ⟨Da0, Db0, ?_, by grind⟩
  refine Classical.byContradiction fun q => ?_
  have r3 := Rat.mul_lt_mul_of_pos_right (show (b - a) * (b - a) < (Da - Db) * a by grind) (show 0 < b * 2 by grind)
  have r4 := Rat.mul_le_mul_of_nonneg_right Vw w0
  have r5 := Rat.mul_le_mul_of_nonneg_right r2 w0
  have e1 : (Da - Db) * a * (b * 2) = V * (b - a) := by grind
  grind
theorem pl_narrow {a m b dl dh dl' dh' t0 t1 Da Db E : Rat} (a0 : 0 < a) (am : a ≤ m) (mb : m ≤ b) (E0 : 0 < E) (E1 : E ≤ 1) (A0 : 0 ≤ Da) (B0 : 0 ≤ Db) (h1 : (Da - Db) * a ≤ (b - a) * (b - a)) (h2 : (Da + Db) * a ≤ (b - a) * b * 2)
    (hd : (dl = Db ∧ dh = Da) ∨ (dl = -Da ∧ dh = -Db))
    (nl : ∀ M, dl ≤ M → -dl ≤ M → dl' - dl ≤ E * M ∧ dl - dl' ≤ E * M) (nh : ∀ M, dh ≤ M → -dh ≤ M → dh' - dh ≤ E * M ∧ dh - dh' ≤ E * M)
    (n0 : ∀ M, m - dh' ≤ M → -(m - dh') ≤ M → t0 - (m - dh') ≤ E * M ∧ (m - dh') - t0 ≤ E * M) (n1 : ∀ M, m - dl' ≤ M → -(m - dl') ≤ M → t1 - (m - dl') ≤ E * M ∧ (m - dl') - t1 ≤ E * M) :
    (t1 - t0) * a ≤ (b - a) * (b - a) + (a * b + (b - a) * b) * (E * 8) := by
  have key : ∀ Dl Dh, 0 ≤ Dl → 0 ≤ Dh → Dl + Dh = Da + Db → dh - dl = Da - Db → dl ≤ Dl → -dl ≤ Dl → dh ≤ Dh → -dh ≤ Dh → (t1 - t0) * a ≤ (b - a) * (b - a) + (a * b + (b - a) * b) * (E * 8) := by
    intro Dl Dh l0 h0 es ed l1 l2 k1 k2
    have x1 := nl Dl l1 l2
    have x2 := nh Dh k1 k2
    have y1 := Rat.mul_le_mul_of_nonneg_right E1 l0
    have y2 := Rat.mul_le_mul_of_nonneg_right E1 h0
    have z1 := (n1 (m + Dl * 2) (by grind) (by grind)).1
    have z0 := (n0 (m + Dh * 2) (by grind) (by grind)).2
    have s1 : t1 - t0 ≤ (Da - Db) + E * (m * 2 + (Da + Db) * 3) := by
      rw [← es, ← ed]
      have e5 : E * (m * 2 + (Dl + Dh) * 3) = E * m * 2 + E * Dl * 3 + E * Dh * 3 := by clear nl nh n0 n1 hd; grind
      have e6 : E * (m + Dl * 2) = E * m + E * Dl * 2 := by clear nl nh n0 n1 hd; grind
      have e7 : E * (m + Dh * 2) = E * m + E * Dh * 2 := by clear nl nh n0 n1 hd; grind
      rw [e6] at z1
      rw [e7] at z0
      rw [e5]
      have x1 := x1.2
      have x2 := x2.1
      generalize E * Dl = P at *
      generalize E * Dh = Q at *
      generalize E * m = R at *
      clear nl nh n0 n1 hd e5 e6 e7 y1 y2 h1 h2 es ed l1 l2 k1 k2 l0 h0 A0 B0 E0 E1 a0 am mb
      grind
    have s2 := Rat.mul_le_mul_of_nonneg_right s1 (Rat.le_of_lt a0)
    have s3 := Rat.mul_le_mul_of_nonneg_left h2 (Rat.le_of_lt E0)
    have s4 := Rat.mul_le_mul_of_nonneg_left (Rat.mul_le_mul_of_nonneg_right mb (Rat.le_of_lt a0)) (Rat.le_of_lt E0)
    have s5 : 0 ≤ E * (a * b) := Rat.mul_nonneg (Rat.le_of_lt E0) (Rat.mul_nonneg (Rat.le_of_lt a0) (by grind))
    have s6 : 0 ≤ E * ((b - a) * b) := Rat.mul_nonneg (Rat.le_of_lt E0) (Rat.mul_nonneg (by grind) (by grind))
    have e1 : ((Da - Db) + E * (m * 2 + (Da + Db) * 3)) * a = (Da - Db) * a + E * (m * a) * 2 + E * ((Da + Db) * a) * 3 := by grind
    have e2 : (a * b + (b - a) * b) * (E * 8) = E * (a * b) * 8 + E * ((b - a) * b) * 8 := by grind
    have e3 : E * ((b - a) * b * 2) = E * ((b - a) * b) * 2 := by grind
    have e4 : E * (b * a) = E * (a * b) := by grind
    rw [e1] at s2
    rw [e2]
    rw [e3] at s3
    rw [e4] at s4
    generalize E * ((b - a) * b) = G1 at *
    generalize E * (a * b) = G2 at *
    generalize E * (m * a) = G3 at *
    generalize E * ((Da + Db) * a) = G4 at *
    generalize (b - a) * (b - a) = G5 at *
    generalize (Da - Db) * a = G6 at *
    generalize (t1 - t0) * a = G7 at *
    clear e1 e2 e3 e4 nl nh n0 n1 x1 x2 y1 y2 z1 z0 s1 hd
    grind
  rcases hd with ⟨rfl, rfl⟩ | ⟨rfl, rfl⟩
  · exact key _ _ B0 A0 (by grind) rfl Rat.le_refl (by grind) Rat.le_refl (by grind)
  · exact key Da Db A0 B0 rfl (by grind) (by grind) (by grind) (by grind) (by grind)
theorem pl_size {p : Int} {x : Mpf} (ok : x.Ok) (hb : x.bc ≤ p) (hp : p ≤ 80) (h1 : 1 ≤ x.val) (h2 : x.val ≤ 2048) : Pf 100 x := by
  have hm : 0 < x.mn := by
    have := ok.mn
    rcases Int.lt_or_eq_of_le this with c | c
    · exact c
    · rw [val_of0 c.symm] at h1; exact absurd h1 (by decide)
  have hs : x.sg = 0 := Classical.byContradiction fun c => by have := neg_val hm c; grind
  have u := val_up ok hm hs
  have d := val_dn ok hm hs
  have b1 := ib_pos hm
  have b2 := ok.bc
  have e1 : ¬ x.bc + x.ex ≤ 0 := fun c => by
    have h3 := zp_mono c
    rw [Rat.zpow_zero] at h3
    grind
  have e2 : ¬ 12 ≤ x.bc + x.ex - 1 := fun c => by
    have h3 := zp_mono c
    have h4 : (2 : Rat) ^ (12 : Int) = 4096 := by decide +kernel
    rw [h4] at h3
    grind
  exact ⟨ok, hs, hm, by omega, by omega, by omega⟩
structure Inv (n p : Int) (xa xb : Mpf) : Prop where
  a : Pf 100 xa
  b : Pf 100 xb
  ab : xa.bc ≤ p
  bb : xb.bc ≤ p
  lo : 1 ≤ xa.val
  hi : xb.val ≤ 2048
  la : xa.val * xa.val ≤ n
  lb : (n : Rat) ≤ xb.val * xb.val
theorem fmod_bd (a : Int) {b : Int} (h : 0 < b) : 0 ≤ a.fmod b ∧ a.fmod b < b := ⟨Int.fmod_nonneg_of_pos a h, Int.fmod_lt_of_pos a h⟩
theorem inv_start {n p r z y : Int} {xa xb : Mpf} (Pa : Pf 100 xa) (Pb : Pf 100 xb) (h1 : xa.bc ≤ p) (h2 : xb.bc ≤ p) (Va : xa.val = z) (Vb : xb.val = y) (hz : 1 ≤ z) (hz' : z ≤ r) (hy : r + 1 ≤ y) (hy' : y ≤ 2000)
    (r0 : 0 ≤ r) (r1 : r * r ≤ n) (r2 : n < (r + 1) * (r + 1)) (_ : 1 ≤ r) : Inv n p xa xb := by
  have a1 : z * z ≤ n := Int.le_trans (Int.mul_le_mul hz' hz' (by omega) r0) r1
  have a2 : n ≤ y * y := Int.le_trans (Int.le_of_lt r2) (Int.mul_le_mul hy hy (by omega) (by omega))
  refine ⟨Pa, Pb, h1, h2, ?_, ?_, ?_, ?_⟩
  · rw [Va]; exact Rat.intCast_le_intCast.mpr hz
  · rw [Vb]; have : ((y : Int) : Rat) ≤ ((2048 : Int) : Rat) := Rat.intCast_le_intCast.mpr (by omega)
    exact this
  · rw [Va, ← Rat.intCast_mul]; exact Rat.intCast_le_intCast.mpr a1
  · rw [Vb, ← Rat.intCast_mul]; exact Rat.intCast_le_intCast.mpr a2
theorem pl_turn {n p : Int} {xa xb xm ym y2 x2 zs1 zd1 zg1 zg2 ze1 ze2 zf1 zf2 : Mpf} (hp : 30 ≤ p) (I : Inv n p xa xb) (hym : Rnd .n p (xa.val + xb.val) ym) (exm : xm = ⟨ym.sg, ym.mn, ym.ex + -1, ym.bc⟩)
    (V4 : y2.val = n) (V2 : x2.val = ((2 : Int) : Rat)) (es1 : zs1.val = xm.val * xm.val) (ed1 : zd1.val = zs1.val - y2.val) (eg1 : zg1.val = xa.val * x2.val) (eg2 : zg2.val = xb.val * x2.val)
    (Qe : Quo p zd1.val zg1.val zg2.val ze1 ze2) (r1 : Rnd .f p (xm.val - ze2.val) zf1) (r2 : Rnd .c p (xm.val - ze1.val) zf2) :
    (zf1.val ≤ 0 ∨ zf1.val * zf1.val ≤ n) ∧ 0 < zf2.val ∧ (n : Rat) ≤ zf2.val * zf2.val ∧
    (zf2.val - zf1.val) * xa.val ≤ (xb.val - xa.val) * (xb.val - xa.val) + (xa.val * xb.val + (xb.val - xa.val) * xb.val) * (2 : Rat) ^ (4 - p) := by
  have ab := pl_ab (Rat.le_of_lt (val_pos I.b)) I.la I.lb
  obtain ⟨mlo, mhi⟩ := pl_mid I.a.ok I.b.ok I.ab I.bb ab hym exm
  have a0 := val_pos I.a
  have b0 := val_pos I.b
  have an := I.la
  have nb := I.lb
  have h2 : ((2 : Int) : Rat) = 2 := rfl
  obtain ⟨dl, dh, ql, qh, qc⟩ := Qe
  rw [V2, h2] at eg1 eg2
  rw [eg1, eg2] at qc
  have hv : zd1.val = xm.val * xm.val - n := by rw [ed1, es1, V4]
  have l1 := ql.lo rfl
  have h1 := qh.hi rfl
  have t1 := r1.lo rfl
  have t2 := r2.hi rfl
  have n1 := ql.near
  have n2 := qh.near
  have n3 := r1.near
  have n4 := r2.near
  have E0 := zp_pos (1 - p)
  have E1 : (2 : Rat) ^ (1 - p) ≤ 1 := by
    have := zp_mono (show 1 - p ≤ 0 by omega)
    rw [Rat.zpow_zero] at this; exact this
  have E8 : (2 : Rat) ^ (4 - p) = (2 : Rat) ^ (1 - p) * 8 := by
    have : (2 : Rat) ^ (4 - p) = (2 : Rat) ^ (1 - p) * ((2 ^ 3 : Int) : Rat) := by rw [← zp_add]; congr 1; omega
    exact this
  rw [E8]
  clear hym exm V4 V2 es1 ed1 eg1 eg2 ql qh r1 r2 E8 I
  generalize (2 : Rat) ^ (1 - p) = E at *
  generalize xa.val = a at *
  generalize xb.val = b at *
  generalize xm.val = m at *
  generalize zd1.val = v at *
  generalize ze1.val = dl' at *
  generalize ze2.val = dh' at *
  generalize zf1.val = u at *
  generalize zf2.val = w at *
  generalize (n : Rat) = N at *
  have a2 : 0 < a * 2 := by grind
  have b2 : 0 < b * 2 := by grind
  have hlo : (0 ≤ v ∧ dh * (a * 2) = v) ∨ (v ≤ 0 ∧ dh * (b * 2) = v) := by
    rcases qc with ⟨x, _, y⟩ | ⟨x, _, y⟩
    · exact .inl ⟨x, div_mul' a2 y⟩
    · exact .inr ⟨x, div_mul' b2 y⟩
  have hhi : (0 ≤ v ∧ dl * (b * 2) = v) ∨ (v ≤ 0 ∧ dl * (a * 2) = v) := by
    rcases qc with ⟨x, y, _⟩ | ⟨x, y, _⟩
    · exact .inl ⟨x, div_mul' b2 y⟩
    · exact .inr ⟨x, div_mul' a2 y⟩
  have g1 := pl_low a0 mlo mhi an nb hv hlo (t := u) (by grind)
  have g2 := pl_high a0 mlo mhi an nb hv hhi (t := w) (by grind)
  refine ⟨g1, g2.1, g2.2, ?_⟩
  clear g1 g2 l1 h1 t1 t2
  rcases qc with ⟨x, y, z⟩ | ⟨x, y, z⟩
  · obtain ⟨A0, B0, k1, k2⟩ := pl_quo (V := v) (Da := dh) (Db := dl) a0 mlo mhi an nb hv (.inl rfl) x (div_mul' a2 z) (div_mul' b2 y)
    exact pl_narrow a0 mlo mhi E0 E1 A0 B0 k1 k2 (.inl ⟨rfl, rfl⟩) n1 n2 n3 n4
  · obtain ⟨A0, B0, k1, k2⟩ := pl_quo (V := -v) (Da := -dl) (Db := -dh) a0 mlo mhi an nb hv (.inr rfl) (by grind) (by rw [Rat.neg_mul, div_mul' a2 y]) (by rw [Rat.neg_mul, div_mul' b2 z])
    exact pl_narrow a0 mlo mhi E0 E1 A0 B0 k1 k2 (.inr ⟨by grind, by grind⟩) n1 n2 n3 n4
theorem pl_next {n p : Int} {xa xb zf1 zf2 x y : Mpf} (hp : p ≤ 80) (I : Inv n p xa xb) (o1 : zf1.Ok) (o2 : zf2.Ok) (b1 : zf1.bc ≤ p) (b2 : zf2.bc ≤ p) (h1 : zf1.val ≤ 0 ∨ zf1.val * zf1.val ≤ n) (h2 : 0 < zf2.val) (h3 : (n : Rat) ≤ zf2.val * zf2.val)
    (hx : (x = xa ∧ zf1.val ≤ xa.val) ∨ (x = zf1 ∧ xa.val ≤ zf1.val)) (hy : (y = xb ∧ xb.val ≤ zf2.val) ∨ (y = zf2 ∧ zf2.val ≤ xb.val)) : Inv n p x y := by
  have lo := I.lo
  have hi := I.hi
  have lx : xa.val ≤ x.val ∧ x.bc ≤ p ∧ x.Ok ∧ x.val * x.val ≤ n := by
    rcases hx with ⟨rfl, h⟩ | ⟨rfl, h⟩
    · exact ⟨Rat.le_refl, I.ab, I.a.ok, I.la⟩
    · refine ⟨h, b1, o1, ?_⟩
      rcases h1 with c | c
      · grind
      · exact c
  have ly : y.val ≤ xb.val ∧ y.bc ≤ p ∧ y.Ok ∧ (n : Rat) ≤ y.val * y.val ∧ 0 < y.val := by
    rcases hy with ⟨rfl, h⟩ | ⟨rfl, h⟩
    · exact ⟨Rat.le_refl, I.bb, I.b.ok, I.lb, val_pos I.b⟩
    · exact ⟨h, b2, o2, h3, h2⟩
  have xy := pl_ab (Rat.le_of_lt ly.2.2.2.2) lx.2.2.2 ly.2.2.2.1
  have c1 : 1 ≤ x.val := Rat.le_trans lo lx.1
  have c2 : y.val ≤ 2048 := Rat.le_trans ly.1 hi
  exact ⟨pl_size lx.2.2.1 lx.2.1 hp c1 (Rat.le_trans xy c2), pl_size ly.2.2.1 ly.2.1 hp (Rat.le_trans c1 xy) c2, lx.2.1, ly.2.1, c1, c2, lx.2.2.2, ly.2.2.2.1⟩
/-- the roots as mpi_sqrt tells them lie in s -/
theorem pl_done {n p : Int} {xa xb y1 y2 za zb : Mpf} (hp : p ≤ 80) (I : Inv n p xa xb) (V3 : y1.val = n) (V4 : y2.val = n) (s1 : SqIs .f p y1.val za) (s2 : SqIs .c p y2.val zb) : Nf 100 za ∧ Nf 100 zb ∧ xa.val ≤ za.val ∧ zb.val ≤ xb.val ∧ za.val ≤ zb.val := by
  rw [V3] at s1
  rw [V4] at s2
  have c1 := s1.fl rfl _ (inF_val I.a.ok I.ab) (Rat.le_of_lt (val_pos I.a)) I.la
  have c2 := s2.cl rfl _ (inF_val I.b.ok I.bb) (Rat.le_of_lt (val_pos I.b)) I.lb
  have c3 := pl_ab s2.nn (s1.lo rfl) (s2.hi rfl)
  have d1 := Rat.le_trans I.lo c1
  have d2 := Rat.le_trans c2 I.hi
  exact ⟨(pl_size s1.ok s1.bc hp d1 (Rat.le_trans c3 d2)).nf, (pl_size s2.ok s2.bc hp (Rat.le_trans d1 c3) d2).nf, c1, c2, c3⟩
theorem range_ok {j : Int} (h0 : 0 ≤ j) (h1 : j < 3) : Builtin.Range.small 0 (1 + j) 1 = true ∧ Builtin.Range.rangeSize 0 (1 + j) 1 = ((1 + j).toNat : Int) := by
  have : j = 0 ∨ j = 1 ∨ j = 2 := by omega
  rcases this with rfl | rfl | rfl <;> exact ⟨by decide +kernel, by decide +kernel⟩
theorem lk_tail {ms ms' : List (Nat × Value)} {x : Nat} {y : Value} (hs : ∀ i v, ms'.lookup i = some v → ms.lookup i = some v) (hx : ms'.lookup x = none) : ∀ i v, ms'.lookup i = some v → ((x, y) :: ms).lookup i = some v := by
  intro i v e
  rw [List.lookup_cons]
  by_cases c : i = x
  · subst c
    rw [hx] at e
    cases e
  · have : (i == x) = false := by simpa using c
    rw [this]
    exact hs i v e
theorem main : PySem.Challenge.rw_aj5015_01.Holds := hd (by
  k_go0
  rename Top _ _ _ _ _ _ => TT
  rename Frag.In _ _ => KX
  rename Fr _ _ _ _ => FF
  rename Heap.IsList _ _ _ => LL
  rename IntsAre _ _ => II
  rename PyData.layable0 _ = true => LAY
  rename ¬ _ < _ => SIZE
  refine law_go [80, 104, 10, 0, 94, 24, 108, 109, 105, 110, 111, 99] [106, 107, 112, 54, 95, 113, 117, 91, 76, 114, 122, 118, 115, 123, 119, 120, 116, 121] ⟨KX, ⟨_, _, _, _, topRead_of TT⟩⟩ FF rfl rfl (by kernel_rfl) (by kernel_rfl) fun A env E R F => ?_
  leaf_len
  repeat' ((fail_if_success (with_reducible show wpAny _ _ (call (Value.ref 279) _) _ _ _)); kat_tups)
  rename Fm _ _ _ _ _ _ _ _ => F1
  refine c_law_mixed (Rm.le R (by decide)) F1.gw (isList_keeps LL F1.kp) II LAY (by have := II.length; omega) fun h2 t2 f v1 k2 => ?_
  replace F1 := F1.after k2
  repeat' ((fail_if_success (with_reducible show wpAny _ _ (call (Value.ref 333) _) _ _ _)); kat_tups)
  rename Fm _ _ _ _ _ _ _ _ => F2
  have e20 : (2 : Int) ^ Int.toNat 20 = 1048576 := by decide +kernel
  rw [e20] at F2 ⊢
  have hp := fmod_bd f (show (0 : Int) < 50 by decide)
  have hn := fmod_bd (f.fdiv 50) (show (0 : Int) < 1048576 by decide)
  clear F1
  generalize f.fmod 50 = p' at hp F2
  obtain ⟨p, hpe⟩ : ∃ p, p = 30 + p' := ⟨_, rfl⟩
  rw [← hpe] at F2
  generalize (f.fdiv 50).fmod 1048576 = n' at hn F2 ⊢
  obtain ⟨n, hne⟩ : ∃ n, n = 1 + n' := ⟨_, rfl⟩
  rw [← hne] at F2 ⊢
  refine c_law_root (Rm.le R (by decide)) F2.gw (by omega) (by omega) fun h3 t3 r v3 k3 r0 r1 r2 r3 => ?_
  replace F2 := F2.after k3
  have r4 : 1 ≤ r := by
    refine Classical.byContradiction fun c => ?_
    have : r = 0 := by omega
    subst this
    omega
  have r5 : r ≤ 1024 := by
    refine Classical.byContradiction fun c => ?_
    have := Int.mul_le_mul (show 1025 ≤ r by omega) (show 1025 ≤ r by omega) (by decide) (by omega)
    omega
  repeat' ((fail_if_success (with_reducible show wpAny _ _ (call (Value.ref 286) _) _ _ _)); kat_tups)
  rename Fm _ _ _ _ _ _ _ _ => F3
  have ha := fmod_bd (f.fdiv (2 ^ Int.toNat 30)) (show (0 : Int) < 8 by decide)
  generalize (f.fdiv (2 ^ Int.toNat 30)).fmod 8 = a at ha ⊢
  obtain ⟨z, hz⟩ : ∃ z, z = max 1 (r - a) := ⟨_, rfl⟩
  rw [← hz]
  have hz1 : 1 ≤ z := by omega
  have hz2 : z ≤ r := by omega
  clear hz
  refine c_law_made (Rm.le R (by decide)) F3.gw hz1 (by omega) fun sa h4 t4 xa ua1 ua2 ua3 ua4 k4 Ta Pa Va Ba => ?_
  replace F3 := (F3.after k4).add Ta
  repeat' ((fail_if_success (with_reducible show wpAny _ _ (call (Value.ref 286) _) _ _ _)); kat_tups)
  rename Fm _ _ _ _ _ _ _ _ => F4
  have hb := fmod_bd (f.fdiv (2 ^ Int.toNat 40)) (show (0 : Int) < 8 by decide)
  generalize (f.fdiv (2 ^ Int.toNat 40)).fmod 8 = b at hb ⊢
  obtain ⟨y, hy⟩ : ∃ y, y = r + 1 + b := ⟨_, rfl⟩
  rw [← hy]
  have hy1 : r + 1 ≤ y := by omega
  have hy2 : y ≤ 2000 := by omega
  clear hy
  refine c_law_made (Rm.le R (by decide)) F4.gw (by omega) (by omega) fun sb h5 t5 xb ub1 ub2 ub3 ub4 k5 Tb Pb Vb Bb => ?_
  replace F4 := (F4.after k5).add Tb
  repeat' ((fail_if_success (with_reducible show wpAny _ _ (call (Value.ref 286) _) _ _ _)); kat_tups)
  rename Fm _ _ _ _ _ _ _ _ => F5
  refine c_law_made (Rm.le R (by decide)) F5.gw (by decide) (by decide) fun two h6 t6 x2 u21 u22 u23 u24 k6 T2 P2 V2 B2 => ?_
  replace F5 := (F5.after k6).add T2
  repeat' ((fail_if_success (with_reducible show wpAny _ _ (call (Value.ref 286) _) _ _ _)); kat_tups)
  rename Fm _ _ _ _ _ _ _ _ => F6
  refine c_law_made (Rm.le R (by decide)) F6.gw (by omega) (by omega) fun n1 h7 t7 y1 u31 u32 u33 u34 k7 T3 P3 V3 B3 => ?_
  replace F6 := (F6.after k7).add T3
  repeat' ((fail_if_success (with_reducible show wpAny _ _ (call (Value.ref 286) _) _ _ _)); kat_tups)
  rename Fm _ _ _ _ _ _ _ _ => F7
  refine c_law_made (Rm.le R (by decide)) F7.gw (by omega) (by omega) fun n2 h8 t8 y2 u41 u42 u43 u44 k8 T4 P4 V4 B4 => ?_
  replace F7 := (F7.after k8).add T4
  repeat' ((fail_if_success (with_reducible show FoR _ _ _ _ _ _ _ _ _ _)); kat_tups)
  rename Fm _ _ _ _ _ _ _ _ => F8
  rename IsRange _ _ _ _ _ _ _ _ => R8
  have hj := fmod_bd (f.fdiv (2 ^ Int.toNat 50)) (show (0 : Int) < 3 by decide)
  generalize (f.fdiv (2 ^ Int.toNat 50)).fmod 3 = j at hj R8
  obtain ⟨q1, q2⟩ := range_ok hj.1 hj.2
  obtain ⟨up, un, cs, num, F9⟩ : ∃ up un cs num, Fm _ _ env [80, 104, 10, 0, 94, 24, 108, 109, 105, 110, 111, 99] [106, 107, 112, 54, 95, 113, 117, 91, 76, 114, 122, 118, 115, 123, 119, 120, 116, 121]
    [(24, .ref cs), (10, .int p up), (0, .int n un), (108, .ref two), (109, .ref num)]
    [(cs, [.ref sa, .ref sb]), (sa, [.int xa.sg ua1, .int xa.mn ua2, .int xa.ex ua3, .int xa.bc ua4]), (sb, [.int xb.sg ub1, .int xb.mn ub2, .int xb.ex ub3, .int xb.bc ub4]), (num, [.ref n1, .ref n2]),
      (n1, [.int y1.sg u31, .int y1.mn u32, .int y1.ex u33, .int y1.bc u34]), (n2, [.int y2.sg u41, .int y2.mn u42, .int y2.ex u43, .int y2.bc u44]), (two, [.int x2.sg u21, .int x2.mn u22, .int x2.ex u23, .int x2.bc u24])] _ :=
    ⟨_, _, _, _, F8.weak (lk_cons' rfl (lk_cons' rfl (lk_cons' rfl (lk_cons' rfl (lk_cons' rfl lk_nil'))))) (by
      intro q hq
      simp only [List.mem_cons, List.not_mem_nil, or_false] at hq ⊢
      rcases hq with rfl | rfl | rfl | rfl | rfl | rfl | rfl <;> simp)⟩
  clear F8
  refine for_range (n := (1 + j).toNat) (fun _ ms l => ∃ c a b xa xb u1 u2 u3 u4 v1 v2 v3 v4, Inv n p xa xb ∧ (∀ i v, [(24, .ref c), (10, .int p up), (0, .int n un), (108, .ref two), (109, .ref num)].lookup i = some v → ms.lookup i = some v) ∧
    ∀ q ∈ [(c, [.ref a, .ref b]), (a, [.int xa.sg u1, .int xa.mn u2, .int xa.ex u3, .int xa.bc u4]), (b, [.int xb.sg v1, .int xb.mn v2, .int xb.ex v3, .int xb.bc v4]), (num, [.ref n1, .ref n2]),
      (n1, [.int y1.sg u31, .int y1.mn u32, .int y1.ex u33, .int y1.bc u34]), (n2, [.int y2.sg u41, .int y2.mn u42, .int y2.ex u43, .int y2.bc u44]), (two, [.int x2.sg u21, .int x2.mn u22, .int x2.ex u23, .int x2.bc u24])], q ∈ l)
    F9 R8 q1 q2 R.hn rfl ⟨cs, sa, sb, xa, xb, _, _, _, _, _, _, _, _, ?inv, fun _ _ e => e, fun _ e => e⟩ ?turn ?done
  case inv => exact inv_start Pa Pb (by omega) (by omega) Va Vb hz1 (by omega) hy1 hy2 r0 r1 r2 (by omega)
  case turn =>
    rintro i bs ms l h9 t9 u9 E9 hi ⟨c, a, b, xa, xb, u1, u2, u3, u4, v1, v2, v3, v4, I, k1, k2⟩ F
    have ab := pl_ab (Rat.le_of_lt (val_pos I.b)) I.la I.lb
    have hpn : Ps 100 n 0 := ⟨by decide, by decide, by have := ib_lt (a := n) (N := 22) (by omega) (by omega); omega⟩
    replace F := F.weak (lk_tail k1 rfl) k2
    clear k1 k2
    repeat' ((fail_if_success (with_reducible show wpAny _ _ (call (Value.ref 213) _) _ _ _)); kat_tups)
    rename Fm _ _ _ _ _ _ _ _ => F
    refine c_mpi_mid (B := 100) (Rm.le R (by decide)) F.gw (F.tup (by kcf_m)) (F.tup (by kcf_m)) (F.tup (by kcf_m)) I.a I.b (by omega) (by omega) (by decide) I.ab I.bb fun am h10 t10 xm um1 um2 um3 um4 km Tm qm Pm => ?_
    replace F := (F.after km).add Tm
    obtain ⟨ym, hym, exm⟩ := qm
    obtain ⟨mlo, mhi⟩ := pl_mid I.a.ok I.b.ok I.ab I.bb ab hym exm
    have bm : xm.bc ≤ p := by rw [exm]; exact hym.bc
    replace Pm := Pm.le (show (4 * 100 + 10 + 1 : Int) ≤ 411 by decide)
    repeat' ((fail_if_success (with_reducible show wpAny _ _ (call (Value.ref 293) _) _ _ _)); kat_tups)
    rename Fm _ _ _ _ _ _ _ _ => F
    refine c_law_value (Rm.le R (by decide)) F.gw (F.tup (by kcf_m)) (Hd.mk Pm.ok.sg) fun vb h11 t11 z1 z2 kv _ Tv => ?_
    replace F := (F.after kv).add Tv
    repeat' ((fail_if_success (with_reducible show wpAny _ _ (call (Value.ref 326) _) _ _ _)); kat_tups)
    rename Fm _ _ _ _ _ _ _ _ => F
    refine c_law_holds (Rm.le R (by decide)) F.gw (F.tup (by kcf_m)) (F.tup (by kcf_m)) (F.tup (by kcf_m)) (F.tup (by kcf_m)) I.a.nf I.b.nf (by decide) Pm.nf.ps (by decide) mlo mhi fun h12 t12 kh => ?_
    replace F := F.after kh
    repeat' ((fail_if_success (with_reducible show wpAny _ _ (call (Value.ref 244) _) _ _ _)); kat_tups)
    rename Fm _ _ _ _ _ _ _ _ => F
    refine c_mpi_square (Rm.le R (by decide)) F.gw (F.tup (by kcf_m)) (F.tup (by kcf_m)) (F.tup (by kcf_m)) Pm Pm (by decide) (by decide) fun sq sq1 sq2 h13 t13 zs1 zs2 us1 us2 us3 us4 us5 us6 us7 us8 ks Ts Ts1 Ts2 es1 es2 Ps1 Ps2 => ?_
    replace F := (((F.after ks).add Ts1).add Ts2).add Ts
    replace Ps1 := Ps1.le (show (2 * 411 : Int) ≤ 822 by decide)
    replace Ps2 := Ps2.le (show (2 * 411 : Int) ≤ 822 by decide)
    repeat' ((fail_if_success (with_reducible show wpAny _ _ (call (Value.ref 206) _) _ _ _)); kat_tups)
    rename Fm _ _ _ _ _ _ _ _ => F
    refine c_mpi_subv (Rm.le R (by decide)) F.gw (bindsub2 F.gw) (F.tup (by kcf_m)) (F.tup (by kcf_m)) (F.tup (by kcf_m)) (F.tup (by kcf_m)) (F.tup (by kcf_m)) (F.tup (by kcf_m)) Ps1 Ps2 (P3.nf.le (by decide)) (P4.nf.le (by decide)) (by decide) (by decide) (by decide) (Hd.mk (.inl rfl)) (Hd.mk (.inl rfl)) fun d d1 d2 h14 t14 zd1 zd2 ud1 ud2 ud3 ud4 ud5 ud6 ud7 ud8 kd Td Td1 Td2 rd1 rd2 Nd1 Nd2 => ?_
    replace F := (((F.after kd).add Td1).add Td2).add Td
    have ed1 := rd1.ex rfl
    have ed2 := rd2.ex rfl
    have ed : zd1.val = zd2.val := by rw [ed1, ed2, es1, es2, V3, V4]
    replace Nd1 := Nd1.le (show (4 * 822 + 10 : Int) ≤ 3298 by decide)
    replace Nd2 := Nd2.le (show (4 * 822 + 10 : Int) ≤ 3298 by decide)
    repeat' ((fail_if_success (with_reducible show wpAny _ _ (call (Value.ref 228) _) _ _ _)); kat_tups)
    rename Fm _ _ _ _ _ _ _ _ => F
    refine c_mpi_mul_mpf (Rm.le R (by decide)) F.gw (F.tup (by kcf_m)) (F.tup (by kcf_m)) (F.tup (by kcf_m)) (F.tup (by kcf_m)) I.a I.b P2 (by decide) fun g g1 g2 h15 t15 zg1 zg2 ug1 ug2 ug3 ug4 ug5 ug6 ug7 ug8 kg Tg Tg1 Tg2 eg1 eg2 Pg1 Pg2 => ?_
    replace F := (((F.after kg).add Tg1).add Tg2).add Tg
    replace Pg1 := Pg1.le (show (2 * 100 : Int) ≤ 3298 by decide)
    replace Pg2 := Pg2.le (show (2 * 100 : Int) ≤ 3298 by decide)
    repeat' ((fail_if_success (with_reducible show wpAny _ _ (call (Value.ref 251) _) _ _ _)); kat_tups)
    rename Fm _ _ _ _ _ _ _ _ => F
    refine c_mpi_div (Rm.le R (by decide)) F.gw (F.tup (by kcf_m)) (F.tup (by kcf_m)) (F.tup (by kcf_m)) (F.tup (by kcf_m)) (F.tup (by kcf_m)) (F.tup (by kcf_m)) Nd1 Nd2 Pg1 Pg2 (by omega) (by omega) (by decide) ed fun e e1 e2 h16 t16 ze1 ze2 ue1 ue2 ue3 ue4 ue5 ue6 ue7 ue8 ke Te Te1 Te2 Qe Ne1 Ne2 => ?_
    replace F := (((F.after ke).add Te1).add Te2).add Te
    have be : ze1.bc ≤ p ∧ ze2.bc ≤ p := by obtain ⟨_, _, ql, qh, _⟩ := Qe; exact ⟨ql.bc, qh.bc⟩
    replace Ne1 := Ne1.le (show (6 * 3298 + 20 : Int) ≤ 19808 by decide)
    replace Ne2 := Ne2.le (show (6 * 3298 + 20 : Int) ≤ 19808 by decide)
    repeat' ((fail_if_success (with_reducible show wpAny _ _ (call (Value.ref 206) _) _ _ _)); kat_tups)
    rename Fm _ _ _ _ _ _ _ _ => F
    refine c_mpi_subv (B := 19808) (Rm.le R (by decide)) F.gw (bindsub3 F.gw) (F.tup (by kcf_m)) (F.tup (by kcf_m)) (F.tup (by kcf_m)) (F.tup (by kcf_m)) (F.tup (by kcf_m)) (F.tup (by kcf_m)) (Pm.le (by decide)) (Pm.le (by decide)) Ne1 Ne2 (by omega) (by omega) (by decide) (Hd.mk (.inr ⟨bm, be.2⟩)) (Hd.mk (.inr ⟨bm, be.1⟩)) fun f9 f1 f2 h17 t17 zf1 zf2 uf1 uf2 uf3 uf4 uf5 uf6 uf7 uf8 kf Tf Tf1 Tf2 rf1 rf2 Nf1 Nf2 => ?_
    replace F := (((F.after kf).add Tf1).add Tf2).add Tf
    replace rf1 := rf1.rn (by omega)
    replace rf2 := rf2.rn (by omega)
    replace Nf1 := Nf1.le (show (4 * 19808 + 10 : Int) ≤ 80000 by decide)
    replace Nf2 := Nf2.le (show (4 * 19808 + 10 : Int) ≤ 80000 by decide)
    obtain ⟨w1, w2, w3, w4⟩ := pl_turn (by omega) I hym exm V4 V2 es1 ed1 eg1 eg2 Qe rf1 rf2
    repeat' ((fail_if_success (with_reducible show wpAny _ _ (call (Value.ref 347) _) _ _ _)); kat_tups)
    rename Fm _ _ _ _ _ _ _ _ => F
    refine c_law_rooted (Rm.le R (by decide)) F.gw (F.tup (by kcf_m)) (F.tup (by kcf_m)) (F.tup (by kcf_m)) Nf1 Nf2 (by decide) hpn w1 w2 w3 fun h18 t18 kr => ?_
    replace F := F.after kr
    repeat' ((fail_if_success (with_reducible show wpAny _ _ (call (Value.ref 354) _) _ _ _)); kat_tups)
    rename Fm _ _ _ _ _ _ _ _ => F
    refine c_law_narrow (Rm.le R (by decide)) F.gw (F.tup (by kcf_m)) (F.tup (by kcf_m)) (F.tup (by kcf_m)) (F.tup (by kcf_m)) (F.tup (by kcf_m)) (F.tup (by kcf_m)) I.a.nf I.b.nf Nf1 Nf2 (by omega) (by omega) w4 fun h19 t19 kn => ?_
    replace F := F.after kn
    repeat' ((fail_if_success (with_reducible show wpAny _ _ (call (Value.ref 272) _) _ _ _)); kat_tups)
    rename Fm _ _ _ _ _ _ _ _ => F
    refine c_MAX (B := 80000) (Rm.le R (by decide)) F.gw (F.tup (by kcf_m)) (F.tup (by kcf_m)) (I.a.le (by decide)) Nf1 (by decide) (by decide) fun na h20 t20 xna una1 una2 una3 una4 kx Tx hx => ?_
    replace F := (F.after kx).add Tx
    repeat' ((fail_if_success (with_reducible show wpAny _ _ (call (Value.ref 265) _) _ _ _)); kat_tups)
    rename Fm _ _ _ _ _ _ _ _ => F
    refine c_MIN (B := 80000) (Rm.le R (by decide)) F.gw (F.tup (by kcf_m)) (F.tup (by kcf_m)) (I.b.le (by decide)) Nf2 (by decide) (by decide) fun nb h21 t21 xnb unb1 unb2 unb3 unb4 ky Ty hy => ?_
    replace F := (F.after ky).add Ty
    have I' := pl_next (by omega) I rf1.ok rf2.ok rf1.bc rf2.bc w1 w2 w3 hx hy
    repeat' ((fail_if_success (with_reducible show Jn _ _ _ _ _)); kat_tups)
    rename Fm _ _ _ _ _ _ _ _ => F
    refine jn ⟨_, _, ⟨_, na, nb, xna, xnb, una1, una2, una3, una4, unb1, unb2, unb3, unb4, I', lk_cons' rfl (lk_cons' rfl (lk_cons' rfl (lk_cons' rfl (lk_cons' rfl lk_nil')))), ?_⟩, F⟩
    iterate 7 refine List.forall_mem_cons.mpr ⟨by kcf_m, ?_⟩
    exact fun _ h => nomatch h
  case done =>
    rintro h9 t9 ms l ⟨c, a, b, xa, xb, u1, u2, u3, u4, v1, v2, v3, v4, I, k1, k2⟩ F
    have hpn : Ps 100 n 0 := ⟨by decide, by decide, by have := ib_lt (a := n) (N := 22) (by omega) (by omega); omega⟩
    replace F := F.weak k1 k2
    clear k1 k2
    repeat' ((fail_if_success (with_reducible show wpAny _ _ (call (Value.ref 347) _) _ _ _)); kat_tups)
    rename Fm _ _ _ _ _ _ _ _ => F
    refine c_law_rooted (Rm.le R (by decide)) F.gw (F.tup (by kcf_m)) (F.tup (by kcf_m)) (F.tup (by kcf_m)) I.a.nf I.b.nf (by decide) hpn (.inr I.la) (val_pos I.b) I.lb fun h18 t18 kr => ?_
    replace F := F.after kr
    repeat' ((fail_if_success (with_reducible show wpAny _ _ (call (Value.ref 258) _) _ _ _)); kat_tups)
    rename Fm _ _ _ _ _ _ _ _ => F
    refine c_mpi_sqrt (Rm.le R (by decide)) F.gw (F.tup (by kcf_m)) (F.tup (by kcf_m)) (F.tup (by kcf_m)) P3 P4 (by omega) (by omega) (by decide) fun e e1 e2 h16 t16 ze1 ze2 ue1 ue2 ue3 ue4 ue5 ue6 ue7 ue8 ke Te Te1 Te2 q1 q2 => ?_
    replace F := (((F.after ke).add Te1).add Te2).add Te
    obtain ⟨w1, w2, w3, w4, w5⟩ := pl_done (by omega) I V3 V4 q1 q2
    repeat' ((fail_if_success (with_reducible show wpAny _ _ (call (Value.ref 319) _) _ _ _)); kat_tups)
    rename Fm _ _ _ _ _ _ _ _ => F
    refine c_law_within (Rm.le R (by decide)) F.gw (F.tup (by kcf_m)) (F.tup (by kcf_m)) (F.tup (by kcf_m)) (F.tup (by kcf_m)) (F.tup (by kcf_m)) (F.tup (by kcf_m)) w1 w2 I.a.nf I.b.nf (by decide) w3 w4 w5 fun h19 t19 kn => ?_
    replace F := F.after kn
    repeat' kat_tups
    obtain ⟨_, f9, _⟩ := F.f
    exact goodW_bool f9 (by assumption) (raisesW_false (by wrow_none_raised)) (by first | wrow_post | rfl | decide +kernel))
end Mine
theorem PySem.Challenge.cw_aj5015_01_holds : PySem.Challenge.rw_aj5015_01.Holds := by
  exact Mine.main
