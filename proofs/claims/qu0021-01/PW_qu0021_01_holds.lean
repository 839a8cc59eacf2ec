import PyProof.Rows.All
import Wide.All
import OpenK.AllK
import Wide.FinOn
import Lean
import PySem.Challenge.RW_qu0021_01
section
open PySem PySem.W
set_option Elab.async false
set_option maxHeartbeats 2000000
set_option genInjectivity false
set_option genSizeOfSpec false
namespace Mine
/-! the loops of a def's body -/
noncomputable def loopsIn : Nat → List Stmt → List Stmt
  | 0, _ => []
  | _ + 1, [] => []
  | n + 1, s :: r => (match s with
    | .While t b o p => .While t b o p :: (loopsIn n b ++ loopsIn n o)
    | .For t i b o p => .For t i b o p :: (loopsIn n b ++ loopsIn n o)
    | .If _ b o _ => loopsIn n b ++ loopsIn n o
    | _ => []) ++ loopsIn n r
noncomputable def nthS : List Stmt → Nat → Option Stmt
  | [], _ => none
  | a :: _, 0 => some a
  | _ :: l, n + 1 => nthS l n
noncomputable def fdAt (top : Nat → Option Obj) (f : Nat) : FuncData := match top f with
  | some o => match o.data with
    | .func fd => fd
    | _ => default
  | none => default
noncomputable def locN : Str := ⟨⟨[46, 60, 108, 111, 99, 97, 108, 115, 62, 46]⟩⟩
noncomputable def envAt (top : Nat → Option Obj) (f fr : Nat) (cells : List (Str × Nat)) : Env :=
  { scope := (fdAt top f).scope, locals := fr, globals := (fdAt top f).globals, cells, qual := (fdAt top f).qualname ++ locN, func := some f, code := (fdAt top f).code, frame := some fr, builtins := (fdAt top f).builtins }
noncomputable def loopAt (top : Nat → Option Obj) (f k : Nat) : Option Stmt := match (fdAt top f).body with
  | .stmts b => nthS (loopsIn 40 b) k
  | _ => none
/-- the k-th loop of the def at f, in the frame fr; it: its iterator -/
noncomputable def loopC (top : Nat → Option Obj) (f k fr : Nat) (cells : List (Str × Nat)) (it : Value) : Code := match loopAt top f k with
  | some (.While t b o _) => .whileLoop t b o (envAt top f fr cells)
  | some (.For t _ b o _) => .forLoop t it b o (envAt top f fr cells)
  | _ => .builtin "mine.loop" {}
theorem loopC_cases {p : Code → Prop} {top : Nat → Option Obj} {f k fr : Nat} {cells : List (Str × Nat)} {it : Value} (hw : ∀ t b o e, p (.whileLoop t b o e)) (hf : ∀ t b o e, p (.forLoop t it b o e)) (hn : p (.builtin "mine.loop" {})) : p (loopC top f k fr cells it) := by
  unfold loopC
  cases loopAt top f k with
  | none => exact hn
  | some s =>
    cases s with
    | While t b o _ => exact hw t b o _
    | For t _ b o _ => exact hf t b o _
    | _ => exact hn
end Mine

end
section
set_option Elab.async false
set_option maxHeartbeats 2000000
set_option genInjectivity false
set_option genSizeOfSpec false
namespace Mine
/-! cases, for the checks -/
theorem allB {p : Bool → Prop} (h : p true) (h' : p false) : ∀ b, p b
  | true => h
  | false => h'
theorem allO {α : Type} {p : Option α → Prop} (h : p none) (h' : ∀ a, p (some a)) : ∀ o, p o
  | none => h
  | some a => h' a
theorem all3 {p : Nat → Prop} (h0 : p 0) (h1 : p 1) (h2 : p 2) : ∀ m, m < 3 → p m
  | 0, _ => h0
  | 1, _ => h1
  | 2, _ => h2
  | n + 3, h => absurd h (Nat.not_lt.mpr (Nat.le_add_left 3 n))
theorem all4 {p : Nat → Prop} (h0 : p 0) (h1 : p 1) (h2 : p 2) (h3 : p 3) : ∀ m, m < 4 → p m
  | 0, _ => h0
  | 1, _ => h1
  | 2, _ => h2
  | 3, _ => h3
  | n + 4, h => absurd h (Nat.not_lt.mpr (Nat.le_add_left 4 n))
theorem all2 {p : Nat → Prop} (h0 : p 0) (h1 : p 1) : ∀ m, m < 2 → p m
  | 0, _ => h0
  | 1, _ => h1
  | n + 2, h => absurd h (Nat.not_lt.mpr (Nat.le_add_left 2 n))
theorem all14 {p : Nat → Prop} (h1 : p 1) (h2 : p 2) (h3 : p 3) (h4 : p 4) : ∀ m, 1 ≤ m → m ≤ 4 → p m
  | 0, h, _ => absurd h (Nat.not_succ_le_zero 0)
  | 1, _, _ => h1
  | 2, _, _ => h2
  | 3, _, _ => h3
  | 4, _, _ => h4
  | n + 5, _, h => absurd h (Nat.not_le.mpr (Nat.lt_of_lt_of_le (Nat.lt_succ_self 4) (Nat.le_add_left 5 n)))
theorem allCI {p : Nat → Nat → Prop} (h10 : p 1 0) (h20 : p 2 0) (h21 : p 2 1) (h30 : p 3 0) (h31 : p 3 1) (h32 : p 3 2) (h40 : p 4 0) (h41 : p 4 1) (h42 : p 4 2) (h43 : p 4 3) :
    ∀ c i, c ≤ 4 → i < c → p c i
  | 0, i, _, h => absurd h (Nat.not_lt_zero i)
  | 1, 0, _, _ => h10
  | 1, i + 1, _, h => absurd (Nat.lt_of_succ_lt_succ h) (Nat.not_lt_zero i)
  | 2, i, _, h => match i, h with
    | 0, _ => h20
    | 1, _ => h21
    | n + 2, h => absurd h (Nat.not_lt.mpr (Nat.le_add_left 2 n))
  | 3, i, _, h => all3 (p := p 3) h30 h31 h32 i h
  | 4, i, _, h => all4 (p := p 4) h40 h41 h42 h43 i h
  | n + 5, _, h, _ => absurd h (Nat.not_le.mpr (Nat.lt_of_lt_of_le (Nat.lt_succ_self 4) (Nat.le_add_left 5 n)))
theorem allL3 {α : Type} {p : List α → Prop} (h0 : p []) (h1 : ∀ a, p [a]) (h2 : ∀ a b, p [a, b]) (h3 : ∀ a b c, p [a, b, c]) : ∀ l : List α, l.length ≤ 3 → p l
  | [], _ => h0
  | [a], _ => h1 a
  | [a, b], _ => h2 a b
  | [a, b, c], _ => h3 a b c
  | _ :: _ :: _ :: _ :: l, h => absurd h (Nat.not_le.mpr (Nat.lt_of_lt_of_le (Nat.lt_succ_self 3) (Nat.le_add_left 4 l.length)))
theorem allE4 {α : Type} {p : List α → Prop} (h1 : ∀ a, p [a]) (h2 : ∀ a b, p [a, b]) (h3 : ∀ a b c, p [a, b, c]) (h4 : ∀ a b c d, p [a, b, c, d]) : ∀ l : List α, l ≠ [] → l.length ≤ 4 → p l
  | [], h, _ => absurd rfl h
  | a :: l, _, h => allL3 (p := fun l => p (a :: l)) (h1 a) (h2 a) (h3 a) (h4 a) l (Nat.le_of_succ_le_succ h)
theorem allXS {α : Type} {p : Nat → List α → Prop} (h0 : p 1 []) (h1 : ∀ a, p 2 [a]) (h2 : ∀ a b, p 3 [a, b]) (h3 : ∀ a b c, p 4 [a, b, c]) (c : Nat) (xs : List α) (_ : 1 ≤ c) (h4 : c ≤ 4) (hx : xs.length + 1 = c) : p c xs := by
  subst hx
  exact allL3 (p := fun xs => p (xs.length + 1) xs) h0 h1 h2 h3 xs (Nat.le_of_succ_le_succ h4)
theorem allN4 {α : Type} {p : List α → Prop} (h : ∀ a b c d, p [a, b, c, d]) : ∀ l : List α, l.length = 4 → p l
  | [a, b, c, d], _ => h a b c d
theorem allN5 {α : Type} {p : List α → Prop} (h : ∀ a b c d e, p [a, b, c, d, e]) : ∀ l : List α, l.length = 5 → p l
  | [a, b, c, d, e], _ => h a b c d e
theorem allN6 {α : Type} {p : List α → Prop} (h : ∀ a b c d e f, p [a, b, c, d, e, f]) : ∀ l : List α, l.length = 6 → p l
  | [a, b, c, d, e, f], _ => h a b c d e f
theorem allN7 {α : Type} {p : List α → Prop} (h : ∀ a b c d e f g, p [a, b, c, d, e, f, g]) : ∀ l : List α, l.length = 7 → p l
  | [a, b, c, d, e, f, g], _ => h a b c d e f g
theorem all47 {p : Nat → Prop} (h4 : p 4) (h5 : p 5) (h6 : p 6) (h7 : p 7) (n : Nat) (ha : 4 ≤ n) (hb : n ≤ 7) : p n := by
  obtain ⟨m, rfl⟩ := Nat.exists_eq_add_of_le' ha
  exact all4 (p := fun m => p (m + 4)) h4 h5 h6 h7 m (Nat.lt_of_add_lt_add_right (n := 4) (Nat.lt_succ_of_le hb))
/-- three lists of the same length, four to seven -/
theorem allDNH {α β γ : Type} {p : Nat → List α → List β → List γ → Prop} (h4 : ∀ d0 d1 d2 d3 n0 n1 n2 n3 h0 h1 h2 h3, p 4 [d0, d1, d2, d3] [n0, n1, n2, n3] [h0, h1, h2, h3])
    (h5 : ∀ d0 d1 d2 d3 d4 n0 n1 n2 n3 n4 h0 h1 h2 h3 h4, p 5 [d0, d1, d2, d3, d4] [n0, n1, n2, n3, n4] [h0, h1, h2, h3, h4])
    (h6 : ∀ d0 d1 d2 d3 d4 d5 n0 n1 n2 n3 n4 n5 h0 h1 h2 h3 h4 h5, p 6 [d0, d1, d2, d3, d4, d5] [n0, n1, n2, n3, n4, n5] [h0, h1, h2, h3, h4, h5])
    (h7 : ∀ d0 d1 d2 d3 d4 d5 d6 n0 n1 n2 n3 n4 n5 n6 h0 h1 h2 h3 h4 h5 h6, p 7 [d0, d1, d2, d3, d4, d5, d6] [n0, n1, n2, n3, n4, n5, n6] [h0, h1, h2, h3, h4, h5, h6]) :
    ∀ (n : Nat) (D : List α) (N : List β) (H : List γ), 4 ≤ n → n ≤ 7 → D.length = n → N.length = n → H.length = n → p n D N H := fun n D N H ha hb =>
  all47 (p := fun n => D.length = n → N.length = n → H.length = n → p n D N H)
    (fun hD hN hH => allN4 (p := fun D => p 4 D N H) (fun d0 d1 d2 d3 => allN4 (p := fun N => p 4 _ N H) (fun n0 n1 n2 n3 => allN4 (p := fun H => p 4 _ _ H) (fun a b c d => h4 d0 d1 d2 d3 n0 n1 n2 n3 a b c d) H hH) N hN) D hD)
    (fun hD hN hH => allN5 (p := fun D => p 5 D N H) (fun d0 d1 d2 d3 d4 => allN5 (p := fun N => p 5 _ N H) (fun n0 n1 n2 n3 n4 => allN5 (p := fun H => p 5 _ _ H) (fun a b c d e => h5 d0 d1 d2 d3 d4 n0 n1 n2 n3 n4 a b c d e) H hH) N hN) D hD)
    (fun hD hN hH => allN6 (p := fun D => p 6 D N H) (fun d0 d1 d2 d3 d4 d5 => allN6 (p := fun N => p 6 _ N H) (fun n0 n1 n2 n3 n4 n5 => allN6 (p := fun H => p 6 _ _ H) (fun a b c d e f => h6 d0 d1 d2 d3 d4 d5 n0 n1 n2 n3 n4 n5 a b c d e f) H hH) N hN) D hD)
    (fun hD hN hH => allN7 (p := fun D => p 7 D N H) (fun d0 d1 d2 d3 d4 d5 d6 => allN7 (p := fun N => p 7 _ N H) (fun n0 n1 n2 n3 n4 n5 n6 => allN7 (p := fun H => p 7 _ _ H) (fun a b c d e f g => h7 d0 d1 d2 d3 d4 d5 d6 n0 n1 n2 n3 n4 n5 n6 a b c d e f g) H hH) N hN) D hD) n ha hb
end Mine

end
section
open PySem PySem.W PySem.W.X PyProof.Rows
set_option maxRecDepth 100000
set_option Elab.async false
set_option maxHeartbeats 2000000
set_option genInjectivity false
set_option genSizeOfSpec false
set_option linter.unusedVariables false
namespace Mine
/-! the objects as the top's run leaves them; the bodies of the defs by reference into the program -/
noncomputable def tS (n : Nat) : Option Stmt := nthS PySem.Challenge.pw_qu0021_01.main.body n
noncomputable def sParts : Option Stmt → Arguments × List Stmt × Scope × Pos
  | some (.FunctionDef _ a b _ _ _ s _ _ p) => (a, b, s, p)
  | some (.ClassDef _ _ _ b _ _ _ _ _ _ _) => (default, b, default, default)
  | _ => default
noncomputable def cS (n m : Nat) : Option Stmt := nthS (sParts (tS n)).2.1 m
noncomputable def kE (P : Params) (x : Str) (t : Nat) (v : Value) : DictEntry := ⟨PyData.keyHash P x, .str x t, v⟩
noncomputable def fO (s : Option Stmt) (name qual : Str) (g : Addr) (cl : List (Str × Addr)) (d k doc pm : Value) (an : Option Addr) (code ct : Value) (b : Addr) : FuncData :=
  ⟨name, qual, (sParts s).1, .stmts (sParts s).2.1, (sParts s).2.2.1, g, cl, d, k, doc, pm, an, code, ct, b⟩
noncomputable def zk0 (P : Params) : Obj := ⟨.type SZ.s14018661285674007319x4, none, .dict ⟨[kE P ⟨⟨[95, 95, 110, 97, 109, 101, 95, 95]⟩⟩ 1 (.str ⟨⟨[98, 117, 105, 108, 116, 105, 110, 115]⟩⟩ 160), kE P ⟨⟨[95, 95, 100, 111, 99, 95, 95]⟩⟩ 2 (.builtin "builtins.__doc__:str#opaque"), kE P ⟨⟨[95, 95, 112, 97, 99, 107, 97, 103, 101, 95, 95]⟩⟩ 3 (.builtin "builtins.__package__:str#opaque"), kE P ⟨⟨[95, 95, 108, 111, 97, 100, 101, 114, 95, 95]⟩⟩ 4 (.builtin "builtins.__loader__:shared#opaque"), kE P ⟨⟨[95, 95, 115, 112, 101, 99, 95, 95]⟩⟩ 5 (.builtin SZ.s11665532747177232413x24), kE P ⟨⟨[95, 95, 98, 117, 105, 108, 100, 95, 99, 108, 97, 115, 115, 95, 95]⟩⟩ 6 (.builtin SZ.s15183661809925369436x15), kE P ⟨⟨[95, 95, 105, 109, 112, 111, 114, 116, 95, 95]⟩⟩ 7 (.builtin SZ.s13915890719876406383x10), kE P ⟨⟨[97, 98, 115]⟩⟩ 8 (.builtin SZ.s13459172003223722735x3), kE P ⟨⟨[97, 108, 108]⟩⟩ 9 (.builtin SZ.s10557405761357834076x3), kE P ⟨⟨[97, 110, 121]⟩⟩ 10 (.builtin SZ.s4233737765568776869x3), kE P ⟨⟨[97, 115, 99, 105, 105]⟩⟩ 11 (.builtin SZ.s2508922471967985374x5), kE P ⟨⟨[98, 105, 110]⟩⟩ 12 (.builtin SZ.s15574269061696679450x3), kE P ⟨⟨[98, 114, 101, 97, 107, 112, 111, 105, 110, 116]⟩⟩ 13 (.builtin SZ.s6016482663378992977x10), kE P ⟨⟨[99, 97, 108, 108, 97, 98, 108, 101]⟩⟩ 14 (.builtin SZ.s5596568736180474577x8), kE P ⟨⟨[99, 104, 114]⟩⟩ 15 (.builtin SZ.s2839554839881490554x3), kE P ⟨⟨[99, 111, 109, 112, 105, 108, 101]⟩⟩ 16 (.builtin SZ.s725004073602090463x7), kE P ⟨⟨[100, 101, 108, 97, 116, 116, 114]⟩⟩ 17 (.builtin SZ.s9436932552931045734x7), kE P ⟨⟨[100, 105, 114]⟩⟩ 18 (.builtin SZ.s2754603736356183583x3), kE P ⟨⟨[100, 105, 118, 109, 111, 100]⟩⟩ 19 (.builtin SZ.s15185746759980889043x6), kE P ⟨⟨[101, 118, 97, 108]⟩⟩ 20 (.builtin SZ.s8192189862530294059x4), kE P ⟨⟨[101, 120, 101, 99]⟩⟩ 21 (.builtin SZ.s7038307821325472102x4), kE P ⟨⟨[102, 111, 114, 109, 97, 116]⟩⟩ 22 (.builtin SZ.s5662562618415449548x6), kE P ⟨⟨[103, 101, 116, 97, 116, 116, 114]⟩⟩ 23 (.builtin SZ.s15281542589158584767x7), kE P ⟨⟨[103, 108, 111, 98, 97, 108, 115]⟩⟩ 24 (.builtin SZ.s17651547275483570877x7), kE P ⟨⟨[104, 97, 115, 97, 116, 116, 114]⟩⟩ 25 (.builtin SZ.s4036449017235975746x7), kE P ⟨⟨[104, 97, 115, 104]⟩⟩ 26 (.builtin SZ.s8879979712987360175x4), kE P ⟨⟨[104, 101, 120]⟩⟩ 27 (.builtin SZ.s1801250619170735830x3), kE P ⟨⟨[105, 100]⟩⟩ 28 (.builtin SZ.s17659931425627118568x2), kE P ⟨⟨[105, 110, 112, 117, 116]⟩⟩ 29 (.builtin SZ.s6063217899685152688x5), kE P ⟨⟨[105, 115, 105, 110, 115, 116, 97, 110, 99, 101]⟩⟩ 30 (.builtin SZ.s8008927332132565319x10), kE P ⟨⟨[105, 115, 115, 117, 98, 99, 108, 97, 115, 115]⟩⟩ 31 (.builtin SZ.s3544116645089599534x10), kE P ⟨⟨[105, 116, 101, 114]⟩⟩ 32 (.builtin SZ.s13761710972054866084x4), kE P ⟨⟨[97, 105, 116, 101, 114]⟩⟩ 33 (.builtin SZ.s12896375587409280029x5), kE P ⟨⟨[108, 101, 110]⟩⟩ 34 (.builtin SZ.s13014049009108672802x3), kE P ⟨⟨[108, 111, 99, 97, 108, 115]⟩⟩ 35 (.builtin SZ.s13935586738268321596x6), kE P ⟨⟨[109, 97, 120]⟩⟩ 36 (.builtin SZ.s8200498257699607233x3), kE P ⟨⟨[109, 105, 110]⟩⟩ 37 (.builtin SZ.s14114244577727609259x3), kE P ⟨⟨[110, 101, 120, 116]⟩⟩ 38 (.builtin SZ.s1499430450269397089x4), kE P ⟨⟨[97, 110, 101, 120, 116]⟩⟩ 39 (.builtin SZ.s8755793994789770505x5), kE P ⟨⟨[111, 99, 116]⟩⟩ 40 (.builtin SZ.s15725212667919936108x3), kE P ⟨⟨[111, 114, 100]⟩⟩ 41 (.builtin SZ.s15791221867095933363x3), kE P ⟨⟨[112, 111, 119]⟩⟩ 42 (.builtin SZ.s81309575031448614x3), kE P ⟨⟨[112, 114, 105, 110, 116]⟩⟩ 43 (.builtin SZ.s8069831620301644142x5), kE P ⟨⟨[114, 101, 112, 114]⟩⟩ 44 (.builtin SZ.s10061844253413749634x4), kE P ⟨⟨[114, 111, 117, 110, 100]⟩⟩ 45 (.builtin SZ.s9496514870978017513x5), kE P ⟨⟨[115, 101, 116, 97, 116, 116, 114]⟩⟩ 46 (.builtin SZ.s8899691144933366716x7), kE P ⟨⟨[115, 111, 114, 116, 101, 100]⟩⟩ 47 (.builtin SZ.s15201008993051130160x6), kE P ⟨⟨[115, 117, 109]⟩⟩ 48 (.builtin SZ.s741896355592496720x3), kE P ⟨⟨[118, 97, 114, 115]⟩⟩ 49 (.builtin SZ.s17925004256654032244x4), kE P ⟨⟨[78, 111, 110, 101]⟩⟩ 50 .none, kE P ⟨⟨[69, 108, 108, 105, 112, 115, 105, 115]⟩⟩ 51 .ellipsis, kE P ⟨⟨[78, 111, 116, 73, 109, 112, 108, 101, 109, 101, 110, 116, 101, 100]⟩⟩ 52 .notImplemented, kE P ⟨⟨[70, 97, 108, 115, 101]⟩⟩ 53 (.bool false), kE P ⟨⟨[84, 114, 117, 101]⟩⟩ 54 (.bool true), kE P ⟨⟨[98, 111, 111, 108]⟩⟩ 55 (.type SZ.s11695548795398191787x4), kE P ⟨⟨[109, 101, 109, 111, 114, 121, 118, 105, 101, 119]⟩⟩ 56 (.type SZ.s4156966113859768872x10), kE P ⟨⟨[98, 121, 116, 101, 97, 114, 114, 97, 121]⟩⟩ 57 (.type SZ.s9501651726347032510x9), kE P ⟨⟨[98, 121, 116, 101, 115]⟩⟩ 58 (.type SZ.s15722918466584999320x5), kE P ⟨⟨[99, 108, 97, 115, 115, 109, 101, 116, 104, 111, 100]⟩⟩ 59 (.type SZ.s591115383303110208x11), kE P ⟨⟨[99, 111, 109, 112, 108, 101, 120]⟩⟩ 60 (.type SZ.s15721156781594690315x7), kE P ⟨⟨[100, 105, 99, 116]⟩⟩ 61 (.type SZ.s14018661285674007319x4), kE P ⟨⟨[101, 110, 117, 109, 101, 114, 97, 116, 101]⟩⟩ 62 (.type SZ.s14340494229221121180x9), kE P ⟨⟨[102, 105, 108, 116, 101, 114]⟩⟩ 63 (.type SZ.s13429844117177748173x6), kE P ⟨⟨[102, 108, 111, 97, 116]⟩⟩ 64 (.type SZ.s16463266125957815391x5), kE P ⟨⟨[102, 114, 111, 122, 101, 110, 115, 101, 116]⟩⟩ 65 (.type SZ.s4922535414793169389x9), kE P ⟨⟨[112, 114, 111, 112, 101, 114, 116, 121]⟩⟩ 66 (.type SZ.s8101838861749082086x8), kE P ⟨⟨[105, 110, 116]⟩⟩ 67 (.type SZ.s7066276694103001551x3), kE P ⟨⟨[108, 105, 115, 116]⟩⟩ 68 (.type SZ.s9222952809800978799x4), kE P ⟨⟨[109, 97, 112]⟩⟩ 69 (.type SZ.s462964344163437139x3), kE P ⟨⟨[111, 98, 106, 101, 99, 116]⟩⟩ 70 (.type SZ.s2742458400755230247x6), kE P ⟨⟨[114, 97, 110, 103, 101]⟩⟩ 71 (.type SZ.s1438033511350832697x5), kE P ⟨⟨[114, 101, 118, 101, 114, 115, 101, 100]⟩⟩ 72 (.type SZ.s14365286008749172514x8), kE P ⟨⟨[115, 101, 116]⟩⟩ 73 (.type SZ.s3642769012341782148x3), kE P ⟨⟨[115, 108, 105, 99, 101]⟩⟩ 74 (.type SZ.s4674234679698826739x5), kE P ⟨⟨[115, 116, 97, 116, 105, 99, 109, 101, 116, 104, 111, 100]⟩⟩ 75 (.type SZ.s16656946322747308186x12), kE P ⟨⟨[115, 116, 114]⟩⟩ 76 (.type SZ.s10796804682411823810x3), kE P ⟨⟨[115, 117, 112, 101, 114]⟩⟩ 77 (.type SZ.s4290257624100764138x5), kE P ⟨⟨[116, 117, 112, 108, 101]⟩⟩ 78 (.type SZ.s2766695959194262286x5), kE P ⟨⟨[116, 121, 112, 101]⟩⟩ 79 (.type SZ.s17162191345867700912x4), kE P ⟨⟨[122, 105, 112]⟩⟩ 80 (.type SZ.s14339709457334898076x3), kE P ⟨⟨[95, 95, 100, 101, 98, 117, 103, 95, 95]⟩⟩ 81 (.bool true), kE P ⟨⟨[66, 97, 115, 101, 69, 120, 99, 101, 112, 116, 105, 111, 110]⟩⟩ 82 (.type SZ.s4278001404047624695x13), kE P ⟨⟨[66, 97, 115, 101, 69, 120, 99, 101, 112, 116, 105, 111, 110, 71, 114, 111, 117, 112]⟩⟩ 83 (.type SZ.s6585700554429387442x18), kE P ⟨⟨[69, 120, 99, 101, 112, 116, 105, 111, 110]⟩⟩ 84 (.type SZ.s5946037652744460706x9), kE P ⟨⟨[71, 101, 110, 101, 114, 97, 116, 111, 114, 69, 120, 105, 116]⟩⟩ 85 (.type SZ.s7410770068591931388x13), kE P ⟨⟨[75, 101, 121, 98, 111, 97, 114, 100, 73, 110, 116, 101, 114, 114, 117, 112, 116]⟩⟩ 86 (.type SZ.s11817881795495490833x17), kE P ⟨⟨[83, 121, 115, 116, 101, 109, 69, 120, 105, 116]⟩⟩ 87 (.type SZ.s15679963881808890155x10), kE P ⟨⟨[65, 114, 105, 116, 104, 109, 101, 116, 105, 99, 69, 114, 114, 111, 114]⟩⟩ 88 (.type SZ.s3871700062485845797x15), kE P ⟨⟨[65, 115, 115, 101, 114, 116, 105, 111, 110, 69, 114, 114, 111, 114]⟩⟩ 89 (.type SZ.s7689518266570723881x14), kE P ⟨⟨[65, 116, 116, 114, 105, 98, 117, 116, 101, 69, 114, 114, 111, 114]⟩⟩ 90 (.type SZ.s9001593270443806431x14), kE P ⟨⟨[66, 117, 102, 102, 101, 114, 69, 114, 114, 111, 114]⟩⟩ 91 (.type SZ.s6882542574934516792x11), kE P ⟨⟨[69, 79, 70, 69, 114, 114, 111, 114]⟩⟩ 92 (.type SZ.s14403400214490484960x8), kE P ⟨⟨[73, 109, 112, 111, 114, 116, 69, 114, 114, 111, 114]⟩⟩ 93 (.type SZ.s14457978657717015782x11), kE P ⟨⟨[76, 111, 111, 107, 117, 112, 69, 114, 114, 111, 114]⟩⟩ 94 (.type SZ.s1753610191782819921x11), kE P ⟨⟨[77, 101, 109, 111, 114, 121, 69, 114, 114, 111, 114]⟩⟩ 95 (.type SZ.s14119380538032626715x11), kE P ⟨⟨[78, 97, 109, 101, 69, 114, 114, 111, 114]⟩⟩ 96 (.type SZ.s11437920000406562045x9), kE P ⟨⟨[79, 83, 69, 114, 114, 111, 114]⟩⟩ 97 (.type SZ.s10852414792293593619x7), kE P ⟨⟨[82, 101, 102, 101, 114, 101, 110, 99, 101, 69, 114, 114, 111, 114]⟩⟩ 98 (.type SZ.s14816307405966870543x14), kE P ⟨⟨[82, 117, 110, 116, 105, 109, 101, 69, 114, 114, 111, 114]⟩⟩ 99 (.type SZ.s8682627914449686677x12), kE P ⟨⟨[83, 116, 111, 112, 65, 115, 121, 110, 99, 73, 116, 101, 114, 97, 116, 105, 111, 110]⟩⟩ 100 (.type SZ.s4428170145600203450x18), kE P ⟨⟨[83, 116, 111, 112, 73, 116, 101, 114, 97, 116, 105, 111, 110]⟩⟩ 101 (.type SZ.s5991306692159431302x13), kE P ⟨⟨[83, 121, 110, 116, 97, 120, 69, 114, 114, 111, 114]⟩⟩ 102 (.type SZ.s16067994140765818257x11), kE P ⟨⟨[83, 121, 115, 116, 101, 109, 69, 114, 114, 111, 114]⟩⟩ 103 (.type SZ.s2327743974964600596x11), kE P ⟨⟨[84, 121, 112, 101, 69, 114, 114, 111, 114]⟩⟩ 104 (.type SZ.s2804747833354056582x9), kE P ⟨⟨[86, 97, 108, 117, 101, 69, 114, 114, 111, 114]⟩⟩ 105 (.type SZ.s6070975301684473832x10), kE P ⟨⟨[87, 97, 114, 110, 105, 110, 103]⟩⟩ 106 (.type SZ.s14270485950484850486x7), kE P ⟨⟨[70, 108, 111, 97, 116, 105, 110, 103, 80, 111, 105, 110, 116, 69, 114, 114, 111, 114]⟩⟩ 107 (.type SZ.s12041534306414923332x18), kE P ⟨⟨[79, 118, 101, 114, 102, 108, 111, 119, 69, 114, 114, 111, 114]⟩⟩ 108 (.type SZ.s2531307568338490285x13), kE P ⟨⟨[90, 101, 114, 111, 68, 105, 118, 105, 115, 105, 111, 110, 69, 114, 114, 111, 114]⟩⟩ 109 (.type SZ.s631175304937289666x17), kE P ⟨⟨[66, 121, 116, 101, 115, 87, 97, 114, 110, 105, 110, 103]⟩⟩ 110 (.type SZ.s5144983644357021410x12), kE P ⟨⟨[68, 101, 112, 114, 101, 99, 97, 116, 105, 111, 110, 87, 97, 114, 110, 105, 110, 103]⟩⟩ 111 (.type SZ.s18039099521571816885x18), kE P ⟨⟨[69, 110, 99, 111, 100, 105, 110, 103, 87, 97, 114, 110, 105, 110, 103]⟩⟩ 112 (.type SZ.s6011586214260557989x15), kE P ⟨⟨[70, 117, 116, 117, 114, 101, 87, 97, 114, 110, 105, 110, 103]⟩⟩ 113 (.type SZ.s5430567037509283100x13), kE P ⟨⟨[73, 109, 112, 111, 114, 116, 87, 97, 114, 110, 105, 110, 103]⟩⟩ 114 (.type SZ.s8117915138073963741x13), kE P ⟨⟨[80, 101, 110, 100, 105, 110, 103, 68, 101, 112, 114, 101, 99, 97, 116, 105, 111, 110, 87, 97, 114, 110, 105, 110, 103]⟩⟩ 115 (.type SZ.s3423317712779056401x25), kE P ⟨⟨[82, 101, 115, 111, 117, 114, 99, 101, 87, 97, 114, 110, 105, 110, 103]⟩⟩ 116 (.type SZ.s2007317383269046180x15), kE P ⟨⟨[82, 117, 110, 116, 105, 109, 101, 87, 97, 114, 110, 105, 110, 103]⟩⟩ 117 (.type SZ.s17481586968713580700x14), kE P ⟨⟨[83, 121, 110, 116, 97, 120, 87, 97, 114, 110, 105, 110, 103]⟩⟩ 118 (.type SZ.s2450899226349176912x13), kE P ⟨⟨[85, 110, 105, 99, 111, 100, 101, 87, 97, 114, 110, 105, 110, 103]⟩⟩ 119 (.type SZ.s16626165730633575011x14), kE P ⟨⟨[85, 115, 101, 114, 87, 97, 114, 110, 105, 110, 103]⟩⟩ 120 (.type SZ.s14288496050688921416x11), kE P ⟨⟨[66, 108, 111, 99, 107, 105, 110, 103, 73, 79, 69, 114, 114, 111, 114]⟩⟩ 121 (.type SZ.s5735081916595925998x15), kE P ⟨⟨[67, 104, 105, 108, 100, 80, 114, 111, 99, 101, 115, 115, 69, 114, 114, 111, 114]⟩⟩ 122 (.type SZ.s3865607918536308442x17), kE P ⟨⟨[67, 111, 110, 110, 101, 99, 116, 105, 111, 110, 69, 114, 114, 111, 114]⟩⟩ 123 (.type SZ.s13337502604062700212x15), kE P ⟨⟨[70, 105, 108, 101, 69, 120, 105, 115, 116, 115, 69, 114, 114, 111, 114]⟩⟩ 124 (.type SZ.s13114017843053701147x15), kE P ⟨⟨[70, 105, 108, 101, 78, 111, 116, 70, 111, 117, 110, 100, 69, 114, 114, 111, 114]⟩⟩ 125 (.type SZ.s17467278006356818441x17), kE P ⟨⟨[73, 110, 116, 101, 114, 114, 117, 112, 116, 101, 100, 69, 114, 114, 111, 114]⟩⟩ 126 (.type SZ.s17722149559621369488x16), kE P ⟨⟨[73, 115, 65, 68, 105, 114, 101, 99, 116, 111, 114, 121, 69, 114, 114, 111, 114]⟩⟩ 127 (.type SZ.s7855274175708717672x17), kE P ⟨⟨[78, 111, 116, 65, 68, 105, 114, 101, 99, 116, 111, 114, 121, 69, 114, 114, 111, 114]⟩⟩ 128 (.type SZ.s13351283678309829046x18), kE P ⟨⟨[80, 101, 114, 109, 105, 115, 115, 105, 111, 110, 69, 114, 114, 111, 114]⟩⟩ 129 (.type SZ.s6668348653404991179x15), kE P ⟨⟨[80, 114, 111, 99, 101, 115, 115, 76, 111, 111, 107, 117, 112, 69, 114, 114, 111, 114]⟩⟩ 130 (.type SZ.s12913350958174193794x18), kE P ⟨⟨[84, 105, 109, 101, 111, 117, 116, 69, 114, 114, 111, 114]⟩⟩ 131 (.type SZ.s16115879512475548326x12), kE P ⟨⟨[73, 110, 100, 101, 110, 116, 97, 116, 105, 111, 110, 69, 114, 114, 111, 114]⟩⟩ 132 (.type SZ.s15920661018069861047x16), kE P ⟨⟨[95, 73, 110, 99, 111, 109, 112, 108, 101, 116, 101, 73, 110, 112, 117, 116, 69, 114, 114, 111, 114]⟩⟩ 133 (.type SZ.s10779130036587390575x21), kE P ⟨⟨[73, 110, 100, 101, 120, 69, 114, 114, 111, 114]⟩⟩ 134 (.type SZ.s7801419657504700863x10), kE P ⟨⟨[75, 101, 121, 69, 114, 114, 111, 114]⟩⟩ 135 (.type SZ.s1688129525768580628x8), kE P ⟨⟨[77, 111, 100, 117, 108, 101, 78, 111, 116, 70, 111, 117, 110, 100, 69, 114, 114, 111, 114]⟩⟩ 136 (.type SZ.s1031832959479892071x19), kE P ⟨⟨[78, 111, 116, 73, 109, 112, 108, 101, 109, 101, 110, 116, 101, 100, 69, 114, 114, 111, 114]⟩⟩ 137 (.type SZ.s8991790508128307865x19), kE P ⟨⟨[80, 121, 116, 104, 111, 110, 70, 105, 110, 97, 108, 105, 122, 97, 116, 105, 111, 110, 69, 114, 114, 111, 114]⟩⟩ 138 (.type SZ.s14539662485746970245x23), kE P ⟨⟨[82, 101, 99, 117, 114, 115, 105, 111, 110, 69, 114, 114, 111, 114]⟩⟩ 139 (.type SZ.s11643622729373238714x14), kE P ⟨⟨[85, 110, 98, 111, 117, 110, 100, 76, 111, 99, 97, 108, 69, 114, 114, 111, 114]⟩⟩ 140 (.type SZ.s3386828779285465597x17), kE P ⟨⟨[85, 110, 105, 99, 111, 100, 101, 69, 114, 114, 111, 114]⟩⟩ 141 (.type SZ.s13042696260734638735x12), kE P ⟨⟨[66, 114, 111, 107, 101, 110, 80, 105, 112, 101, 69, 114, 114, 111, 114]⟩⟩ 142 (.type SZ.s18239426817015966623x15), kE P ⟨⟨[67, 111, 110, 110, 101, 99, 116, 105, 111, 110, 65, 98, 111, 114, 116, 101, 100, 69, 114, 114, 111, 114]⟩⟩ 143 (.type SZ.s1270395311379034370x22), kE P ⟨⟨[67, 111, 110, 110, 101, 99, 116, 105, 111, 110, 82, 101, 102, 117, 115, 101, 100, 69, 114, 114, 111, 114]⟩⟩ 144 (.type SZ.s10696252587037064777x22), kE P ⟨⟨[67, 111, 110, 110, 101, 99, 116, 105, 111, 110, 82, 101, 115, 101, 116, 69, 114, 114, 111, 114]⟩⟩ 145 (.type SZ.s7852717498200857586x20), kE P ⟨⟨[84, 97, 98, 69, 114, 114, 111, 114]⟩⟩ 146 (.type SZ.s6377248116197321094x8), kE P ⟨⟨[85, 110, 105, 99, 111, 100, 101, 68, 101, 99, 111, 100, 101, 69, 114, 114, 111, 114]⟩⟩ 147 (.type SZ.s3834378056692298002x18), kE P ⟨⟨[85, 110, 105, 99, 111, 100, 101, 69, 110, 99, 111, 100, 101, 69, 114, 114, 111, 114]⟩⟩ 148 (.type SZ.s17586630440231065808x18), kE P ⟨⟨[85, 110, 105, 99, 111, 100, 101, 84, 114, 97, 110, 115, 108, 97, 116, 101, 69, 114, 114, 111, 114]⟩⟩ 149 (.type SZ.s15234114252648025395x21), kE P ⟨⟨[69, 120, 99, 101, 112, 116, 105, 111, 110, 71, 114, 111, 117, 112]⟩⟩ 150 (.type SZ.s8496462677383758984x14), kE P ⟨⟨[69, 110, 118, 105, 114, 111, 110, 109, 101, 110, 116, 69, 114, 114, 111, 114]⟩⟩ 151 (.type SZ.s10852414792293593619x7), kE P ⟨⟨[73, 79, 69, 114, 114, 111, 114]⟩⟩ 152 (.type SZ.s10852414792293593619x7), kE P ⟨⟨[111, 112, 101, 110]⟩⟩ 153 (.builtin SZ.s16789243406116112673x4), kE P ⟨⟨[113, 117, 105, 116]⟩⟩ 154 (.builtin SZ.s14400166428656793546x20), kE P ⟨⟨[101, 120, 105, 116]⟩⟩ 155 (.builtin SZ.s5857708277339239366x20), kE P ⟨⟨[99, 111, 112, 121, 114, 105, 103, 104, 116]⟩⟩ 156 (.builtin "builtins.copyright#opaque"), kE P ⟨⟨[99, 114, 101, 100, 105, 116, 115]⟩⟩ 157 (.builtin "builtins.credits#opaque"), kE P ⟨⟨[108, 105, 99, 101, 110, 115, 101]⟩⟩ 158 (.builtin "builtins.license#opaque"), kE P ⟨⟨[104, 101, 108, 112]⟩⟩ 159 (.builtin SZ.s7804999707787243718x20)]⟩ 159, ⟨[]⟩⟩
noncomputable def zk1 (P : Params) : Obj := ⟨.type SZ.s14018661285674007319x4, none, .dict ⟨[kE P ⟨⟨[98, 117, 105, 108, 116, 105, 110, 115]⟩⟩ 162 (.ref 4), kE P ⟨⟨[95, 95, 109, 97, 105, 110, 95, 95]⟩⟩ 163 (.ref 5)]⟩ 2, ⟨[]⟩⟩
noncomputable def zk2 (P : Params) : Obj := ⟨.none, none, .dict ⟨[]⟩ 0, ⟨[]⟩⟩
noncomputable def zk3 (P : Params) : Obj := ⟨.type SZ.s14018661285674007319x4, none, .dict ⟨[kE P ⟨⟨[95, 95, 110, 97, 109, 101, 95, 95]⟩⟩ 165 (.str ⟨⟨[108, 97, 119, 95, 113, 117, 48, 48, 50, 49, 95, 48, 49]⟩⟩ 312), kE P ⟨⟨[95, 95, 100, 111, 99, 95, 95]⟩⟩ 166 .none, kE P ⟨⟨[95, 95, 112, 97, 99, 107, 97, 103, 101, 95, 95]⟩⟩ 167 .none, kE P ⟨⟨[95, 95, 108, 111, 97, 100, 101, 114, 95, 95]⟩⟩ 168 (.builtin SZ.s7097527257260152453x26), kE P ⟨⟨[95, 95, 115, 112, 101, 99, 95, 95]⟩⟩ 169 .none, kE P ⟨⟨[95, 95, 97, 110, 110, 111, 116, 97, 116, 105, 111, 110, 115, 95, 95]⟩⟩ 170 (.ref 6), kE P ⟨⟨[95, 95, 98, 117, 105, 108, 116, 105, 110, 115, 95, 95]⟩⟩ 171 (.ref 4), kE P ⟨⟨[95, 95, 102, 105, 108, 101, 95, 95]⟩⟩ 173 (.str ⟨⟨[47, 99, 108, 97, 105, 109, 47, 99, 117, 116, 46, 112, 121]⟩⟩ 172), kE P ⟨⟨[95, 95, 99, 97, 99, 104, 101, 100, 95, 95]⟩⟩ 174 .none, kE P ⟨⟨[104, 101, 97, 112, 114, 101, 112, 108, 97, 99, 101]⟩⟩ 197 (.ref 21), kE P ⟨⟨[95, 115, 105, 102, 116, 100, 111, 119, 110]⟩⟩ 209 (.ref 28), kE P ⟨⟨[95, 115, 105, 102, 116, 117, 112]⟩⟩ 222 (.ref 35), kE P ⟨⟨[105, 110, 115, 111, 114, 116, 95, 114, 105, 103, 104, 116]⟩⟩ 237 (.ref 44), kE P ⟨⟨[98, 105, 115, 101, 99, 116, 95, 114, 105, 103, 104, 116]⟩⟩ 251 (.ref 53), kE P ⟨⟨[95, 110, 101, 116, 114, 99, 108, 101, 120]⟩⟩ 311 (.ref 91), kE P ⟨⟨[95, 108, 97, 119, 95, 108, 101, 120, 101, 114]⟩⟩ 322 (.ref 102), kE P ⟨⟨[95, 108, 97, 119, 95, 98, 121, 95, 97, 95, 104, 101, 97, 112]⟩⟩ 336 (.ref 109), kE P ⟨⟨[95, 108, 97, 119, 95, 98, 121, 95, 97, 95, 114, 111, 119]⟩⟩ 350 (.ref 116), kE P ⟨⟨[95, 108, 97, 119, 95, 98, 121, 95, 97, 95, 108, 105, 110, 101]⟩⟩ 365 (.ref 123), kE P ⟨⟨[95, 108, 97, 119, 95, 115, 101, 114, 118, 101, 100]⟩⟩ 376 (.ref 130), kE P ⟨⟨[95, 108, 97, 119, 95, 100, 117, 101]⟩⟩ 396 (.ref 137), kE P ⟨⟨[108, 97, 119]⟩⟩ 402 (.ref 142)]⟩ 22, ⟨[]⟩⟩
noncomputable def zk4 (P : Params) : Obj := ⟨.type SZ.s6658869562736209489x6, some 0, .plain, ⟨[]⟩⟩
noncomputable def zk5 (P : Params) : Obj := ⟨.type SZ.s6658869562736209489x6, some 3, .plain, ⟨[]⟩⟩
noncomputable def zk6 (P : Params) : Obj := ⟨.type SZ.s14018661285674007319x4, none, .dict ⟨[]⟩ 0, ⟨[]⟩⟩
noncomputable def zk7 (P : Params) : Obj := ⟨.type SZ.s2766695959194262286x5, none, .seq ⟨[]⟩ 0, ⟨[]⟩⟩
noncomputable def zk8 (P : Params) : Obj := ⟨.none, none, .fields ⟨[]⟩, ⟨[]⟩⟩
noncomputable def zk9 (P : Params) : Obj := ⟨.type SZ.s5856160107412720595x4, none, .fields ⟨[.str ⟨⟨[60, 109, 111, 100, 117, 108, 101, 62]⟩⟩ 176, .str ⟨⟨[60, 109, 111, 100, 117, 108, 101, 62]⟩⟩ 177, .str ⟨⟨[47, 99, 108, 97, 105, 109, 47, 99, 117, 116, 46, 112, 121]⟩⟩ 178, .int 1 0, .int 0 0, .int 0 0, .int 0 0, .int 0 0, .ref 7, .bool false, .int 175 0, .ref 8, .none, .none, .none, .none, .int 179 0, .int 1 0, .str ⟨⟨[47, 99, 108, 97, 105, 109, 47, 99, 117, 116, 46, 112, 121]⟩⟩ 180]⟩, ⟨[]⟩⟩
noncomputable def zk10 (P : Params) : Obj := ⟨.type SZ.s658472552662922059x5, none, .plain, ⟨[some (.ref 9), some (.ref 3), some (.ref 3), none, some (.str ⟨⟨[95, 95, 109, 97, 105, 110, 95, 95]⟩⟩ 164), none, some (.ref 0)]⟩⟩
noncomputable def zk11 (P : Params) : Obj := ⟨.type SZ.s2766695959194262286x5, none, .seq ⟨[]⟩ 0, ⟨[]⟩⟩
noncomputable def zk12 (P : Params) : Obj := ⟨.none, none, .fields ⟨[.int 2 0, .int 0 0, .ref 20, .int 7 0, .int 0 0, .ref 27, .int 18 0, .int 0 0, .ref 34, .int 33 0, .int 0 0, .ref 43, .int 39 0, .int 0 0, .ref 52, .int 60 0, .int 0 0, .ref 59, .int 104 0, .int 0 0, .ref 101, .int 110 0, .int 0 0, .ref 108, .int 118 0, .int 0 0, .ref 115, .int 128 0, .int 0 0, .ref 122, .int 141 0, .int 0 0, .ref 129, .int 148 0, .int 0 0, .ref 136, .int 159 0, .int 0 0, .ref 141]⟩, ⟨[]⟩⟩
noncomputable def zk13 (P : Params) : Obj := ⟨.type SZ.s5856160107412720595x4, none, .fields ⟨[.str ⟨⟨[60, 109, 111, 100, 117, 108, 101, 62]⟩⟩ 182, .str ⟨⟨[60, 109, 111, 100, 117, 108, 101, 62]⟩⟩ 183, .str ⟨⟨[47, 99, 108, 97, 105, 109, 47, 99, 117, 116, 46, 112, 121]⟩⟩ 184, .int 1 0, .int 0 0, .int 0 0, .int 0 0, .int 0 0, .ref 11, .bool false, .int 181 0, .ref 12, .none, .none, .none, .none, .int 185 0, .int 1 0, .str ⟨⟨[47, 99, 108, 97, 105, 109, 47, 99, 117, 116, 46, 112, 121]⟩⟩ 186]⟩, ⟨[]⟩⟩
noncomputable def zk14 (P : Params) : Obj := ⟨.type SZ.s658472552662922059x5, none, .plain, ⟨[some (.ref 13), some (.ref 3), some (.ref 3), none, some (.str ⟨⟨[95, 95, 109, 97, 105, 110, 95, 95]⟩⟩ 164), none, some (.ref 0)]⟩⟩
noncomputable def zk15 (P : Params) : Obj := ⟨.type SZ.s2766695959194262286x5, none, .seq ⟨[]⟩ 0, ⟨[]⟩⟩
noncomputable def zk16 (P : Params) : Obj := ⟨.none, none, .fields ⟨[]⟩, ⟨[]⟩⟩
noncomputable def zk17 (P : Params) : Obj := ⟨.type SZ.s2766695959194262286x5, none, .seq ⟨[.str ⟨⟨[104, 101, 97, 112]⟩⟩ 192, .str ⟨⟨[105, 116, 101, 109]⟩⟩ 193, .str ⟨⟨[114, 101, 116, 117, 114, 110, 105, 116, 101, 109]⟩⟩ 194]⟩ 0, ⟨[]⟩⟩
noncomputable def zk18 (P : Params) : Obj := ⟨.type SZ.s2766695959194262286x5, none, .seq ⟨[]⟩ 0, ⟨[]⟩⟩
noncomputable def zk19 (P : Params) : Obj := ⟨.none, none, .func (fO (tS 1) ⟨⟨[104, 101, 97, 112, 114, 101, 112, 108, 97, 99, 101]⟩⟩ ⟨⟨[104, 101, 97, 112, 114, 101, 112, 108, 97, 99, 101]⟩⟩ 0 [] .none .none .none .none none .none .none 0), ⟨[]⟩⟩
noncomputable def zk20 (P : Params) : Obj := ⟨.type SZ.s5856160107412720595x4, none, .fields ⟨[.str ⟨⟨[104, 101, 97, 112, 114, 101, 112, 108, 97, 99, 101]⟩⟩ 189, .str ⟨⟨[104, 101, 97, 112, 114, 101, 112, 108, 97, 99, 101]⟩⟩ 190, .str ⟨⟨[47, 99, 108, 97, 105, 109, 47, 99, 117, 116, 46, 112, 121]⟩⟩ 191, .int 2 0, .int 2 0, .int 0 0, .int 0 0, .int 3 0, .ref 15, .bool true, .int 181 0, .ref 16, .none, .ref 17, .ref 18, .ref 19, .int 195 0, .int 2 0, .str ⟨⟨[47, 99, 108, 97, 105, 109, 47, 99, 117, 116, 46, 112, 121]⟩⟩ 196]⟩, ⟨[]⟩⟩
noncomputable def zk21 (P : Params) : Obj := ⟨.type SZ.s7174869446012820540x8, none, .func (fO (tS 1) ⟨⟨[104, 101, 97, 112, 114, 101, 112, 108, 97, 99, 101]⟩⟩ ⟨⟨[104, 101, 97, 112, 114, 101, 112, 108, 97, 99, 101]⟩⟩ 3 [] .none .none .none (.str ⟨⟨[99, 112, 121, 51, 49, 51, 46, 104, 101, 97, 112, 113]⟩⟩ 187) none (.ref 20) .none 0), ⟨[]⟩⟩
noncomputable def zk22 (P : Params) : Obj := ⟨.type SZ.s2766695959194262286x5, none, .seq ⟨[]⟩ 0, ⟨[]⟩⟩
noncomputable def zk23 (P : Params) : Obj := ⟨.none, none, .fields ⟨[]⟩, ⟨[]⟩⟩
noncomputable def zk24 (P : Params) : Obj := ⟨.type SZ.s2766695959194262286x5, none, .seq ⟨[.str ⟨⟨[104, 101, 97, 112]⟩⟩ 201, .str ⟨⟨[115, 116, 97, 114, 116, 112, 111, 115]⟩⟩ 202, .str ⟨⟨[112, 111, 115]⟩⟩ 203, .str ⟨⟨[110, 101, 119, 105, 116, 101, 109]⟩⟩ 204, .str ⟨⟨[112, 97, 114, 101, 110, 116, 112, 111, 115]⟩⟩ 205, .str ⟨⟨[112, 97, 114, 101, 110, 116]⟩⟩ 206]⟩ 0, ⟨[]⟩⟩
noncomputable def zk25 (P : Params) : Obj := ⟨.type SZ.s2766695959194262286x5, none, .seq ⟨[]⟩ 0, ⟨[]⟩⟩
noncomputable def zk26 (P : Params) : Obj := ⟨.none, none, .func (fO (tS 2) ⟨⟨[95, 115, 105, 102, 116, 100, 111, 119, 110]⟩⟩ ⟨⟨[95, 115, 105, 102, 116, 100, 111, 119, 110]⟩⟩ 0 [] .none .none .none .none none .none .none 0), ⟨[]⟩⟩
noncomputable def zk27 (P : Params) : Obj := ⟨.type SZ.s5856160107412720595x4, none, .fields ⟨[.str ⟨⟨[95, 115, 105, 102, 116, 100, 111, 119, 110]⟩⟩ 198, .str ⟨⟨[95, 115, 105, 102, 116, 100, 111, 119, 110]⟩⟩ 199, .str ⟨⟨[47, 99, 108, 97, 105, 109, 47, 99, 117, 116, 46, 112, 121]⟩⟩ 200, .int 7 0, .int 3 0, .int 0 0, .int 0 0, .int 3 0, .ref 22, .bool true, .int 181 0, .ref 23, .none, .ref 24, .ref 25, .ref 26, .int 207 0, .int 7 0, .str ⟨⟨[47, 99, 108, 97, 105, 109, 47, 99, 117, 116, 46, 112, 121]⟩⟩ 208]⟩, ⟨[]⟩⟩
noncomputable def zk28 (P : Params) : Obj := ⟨.type SZ.s7174869446012820540x8, none, .func (fO (tS 2) ⟨⟨[95, 115, 105, 102, 116, 100, 111, 119, 110]⟩⟩ ⟨⟨[95, 115, 105, 102, 116, 100, 111, 119, 110]⟩⟩ 3 [] .none .none .none (.str ⟨⟨[99, 112, 121, 51, 49, 51, 46, 104, 101, 97, 112, 113]⟩⟩ 187) none (.ref 27) .none 0), ⟨[]⟩⟩
noncomputable def zk29 (P : Params) : Obj := ⟨.type SZ.s2766695959194262286x5, none, .seq ⟨[]⟩ 0, ⟨[]⟩⟩
noncomputable def zk30 (P : Params) : Obj := ⟨.none, none, .fields ⟨[]⟩, ⟨[]⟩⟩
noncomputable def zk31 (P : Params) : Obj := ⟨.type SZ.s2766695959194262286x5, none, .seq ⟨[.str ⟨⟨[104, 101, 97, 112]⟩⟩ 213, .str ⟨⟨[112, 111, 115]⟩⟩ 214, .str ⟨⟨[101, 110, 100, 112, 111, 115]⟩⟩ 215, .str ⟨⟨[115, 116, 97, 114, 116, 112, 111, 115]⟩⟩ 216, .str ⟨⟨[110, 101, 119, 105, 116, 101, 109]⟩⟩ 217, .str ⟨⟨[99, 104, 105, 108, 100, 112, 111, 115]⟩⟩ 218, .str ⟨⟨[114, 105, 103, 104, 116, 112, 111, 115]⟩⟩ 219]⟩ 0, ⟨[]⟩⟩
noncomputable def zk32 (P : Params) : Obj := ⟨.type SZ.s2766695959194262286x5, none, .seq ⟨[]⟩ 0, ⟨[]⟩⟩
noncomputable def zk33 (P : Params) : Obj := ⟨.none, none, .func (fO (tS 3) ⟨⟨[95, 115, 105, 102, 116, 117, 112]⟩⟩ ⟨⟨[95, 115, 105, 102, 116, 117, 112]⟩⟩ 0 [] .none .none .none .none none .none .none 0), ⟨[]⟩⟩
noncomputable def zk34 (P : Params) : Obj := ⟨.type SZ.s5856160107412720595x4, none, .fields ⟨[.str ⟨⟨[95, 115, 105, 102, 116, 117, 112]⟩⟩ 210, .str ⟨⟨[95, 115, 105, 102, 116, 117, 112]⟩⟩ 211, .str ⟨⟨[47, 99, 108, 97, 105, 109, 47, 99, 117, 116, 46, 112, 121]⟩⟩ 212, .int 18 0, .int 2 0, .int 0 0, .int 0 0, .int 3 0, .ref 29, .bool true, .int 181 0, .ref 30, .none, .ref 31, .ref 32, .ref 33, .int 220 0, .int 18 0, .str ⟨⟨[47, 99, 108, 97, 105, 109, 47, 99, 117, 116, 46, 112, 121]⟩⟩ 221]⟩, ⟨[]⟩⟩
noncomputable def zk35 (P : Params) : Obj := ⟨.type SZ.s7174869446012820540x8, none, .func (fO (tS 3) ⟨⟨[95, 115, 105, 102, 116, 117, 112]⟩⟩ ⟨⟨[95, 115, 105, 102, 116, 117, 112]⟩⟩ 3 [] .none .none .none (.str ⟨⟨[99, 112, 121, 51, 49, 51, 46, 104, 101, 97, 112, 113]⟩⟩ 187) none (.ref 34) .none 0), ⟨[]⟩⟩
noncomputable def zk36 (P : Params) : Obj := ⟨.type SZ.s2766695959194262286x5, none, .seq ⟨[.int 0 225, .none]⟩ 0, ⟨[]⟩⟩
noncomputable def zk37 (P : Params) : Obj := ⟨.type SZ.s14018661285674007319x4, none, .dict ⟨[kE P ⟨⟨[107, 101, 121]⟩⟩ 226 .none]⟩ 1, ⟨[]⟩⟩
noncomputable def zk38 (P : Params) : Obj := ⟨.type SZ.s2766695959194262286x5, none, .seq ⟨[]⟩ 0, ⟨[]⟩⟩
noncomputable def zk39 (P : Params) : Obj := ⟨.none, none, .fields ⟨[]⟩, ⟨[]⟩⟩
noncomputable def zk40 (P : Params) : Obj := ⟨.type SZ.s2766695959194262286x5, none, .seq ⟨[.str ⟨⟨[97]⟩⟩ 230, .str ⟨⟨[120]⟩⟩ 231, .str ⟨⟨[108, 111]⟩⟩ 232, .str ⟨⟨[104, 105]⟩⟩ 233, .str ⟨⟨[107, 101, 121]⟩⟩ 234]⟩ 0, ⟨[]⟩⟩
noncomputable def zk41 (P : Params) : Obj := ⟨.type SZ.s2766695959194262286x5, none, .seq ⟨[]⟩ 0, ⟨[]⟩⟩
noncomputable def zk42 (P : Params) : Obj := ⟨.none, none, .func (fO (tS 5) ⟨⟨[105, 110, 115, 111, 114, 116, 95, 114, 105, 103, 104, 116]⟩⟩ ⟨⟨[105, 110, 115, 111, 114, 116, 95, 114, 105, 103, 104, 116]⟩⟩ 0 [] .none .none .none .none none .none .none 0), ⟨[]⟩⟩
noncomputable def zk43 (P : Params) : Obj := ⟨.type SZ.s5856160107412720595x4, none, .fields ⟨[.str ⟨⟨[105, 110, 115, 111, 114, 116, 95, 114, 105, 103, 104, 116]⟩⟩ 227, .str ⟨⟨[105, 110, 115, 111, 114, 116, 95, 114, 105, 103, 104, 116]⟩⟩ 228, .str ⟨⟨[47, 99, 108, 97, 105, 109, 47, 99, 117, 116, 46, 112, 121]⟩⟩ 229, .int 33 0, .int 4 0, .int 0 0, .int 1 0, .int 3 0, .ref 38, .bool true, .int 181 0, .ref 39, .none, .ref 40, .ref 41, .ref 42, .int 235 0, .int 33 0, .str ⟨⟨[47, 99, 108, 97, 105, 109, 47, 99, 117, 116, 46, 112, 121]⟩⟩ 236]⟩, ⟨[]⟩⟩
noncomputable def zk44 (P : Params) : Obj := ⟨.type SZ.s7174869446012820540x8, none, .func (fO (tS 5) ⟨⟨[105, 110, 115, 111, 114, 116, 95, 114, 105, 103, 104, 116]⟩⟩ ⟨⟨[105, 110, 115, 111, 114, 116, 95, 114, 105, 103, 104, 116]⟩⟩ 3 [] (.ref 36) (.ref 37) .none (.str ⟨⟨[99, 112, 121, 51, 49, 51, 46, 98, 105, 115, 101, 99, 116]⟩⟩ 223) none (.ref 43) .none 0), ⟨[]⟩⟩
noncomputable def zk45 (P : Params) : Obj := ⟨.type SZ.s2766695959194262286x5, none, .seq ⟨[.int 0 238, .none]⟩ 0, ⟨[]⟩⟩
noncomputable def zk46 (P : Params) : Obj := ⟨.type SZ.s14018661285674007319x4, none, .dict ⟨[kE P ⟨⟨[107, 101, 121]⟩⟩ 239 .none]⟩ 1, ⟨[]⟩⟩
noncomputable def zk47 (P : Params) : Obj := ⟨.type SZ.s2766695959194262286x5, none, .seq ⟨[]⟩ 0, ⟨[]⟩⟩
noncomputable def zk48 (P : Params) : Obj := ⟨.none, none, .fields ⟨[]⟩, ⟨[]⟩⟩
noncomputable def zk49 (P : Params) : Obj := ⟨.type SZ.s2766695959194262286x5, none, .seq ⟨[.str ⟨⟨[97]⟩⟩ 243, .str ⟨⟨[120]⟩⟩ 244, .str ⟨⟨[108, 111]⟩⟩ 245, .str ⟨⟨[104, 105]⟩⟩ 246, .str ⟨⟨[107, 101, 121]⟩⟩ 247, .str ⟨⟨[109, 105, 100]⟩⟩ 248]⟩ 0, ⟨[]⟩⟩
noncomputable def zk50 (P : Params) : Obj := ⟨.type SZ.s2766695959194262286x5, none, .seq ⟨[]⟩ 0, ⟨[]⟩⟩
noncomputable def zk51 (P : Params) : Obj := ⟨.none, none, .func (fO (tS 6) ⟨⟨[98, 105, 115, 101, 99, 116, 95, 114, 105, 103, 104, 116]⟩⟩ ⟨⟨[98, 105, 115, 101, 99, 116, 95, 114, 105, 103, 104, 116]⟩⟩ 0 [] .none .none .none .none none .none .none 0), ⟨[]⟩⟩
noncomputable def zk52 (P : Params) : Obj := ⟨.type SZ.s5856160107412720595x4, none, .fields ⟨[.str ⟨⟨[98, 105, 115, 101, 99, 116, 95, 114, 105, 103, 104, 116]⟩⟩ 240, .str ⟨⟨[98, 105, 115, 101, 99, 116, 95, 114, 105, 103, 104, 116]⟩⟩ 241, .str ⟨⟨[47, 99, 108, 97, 105, 109, 47, 99, 117, 116, 46, 112, 121]⟩⟩ 242, .int 39 0, .int 4 0, .int 0 0, .int 1 0, .int 3 0, .ref 47, .bool true, .int 181 0, .ref 48, .none, .ref 49, .ref 50, .ref 51, .int 249 0, .int 39 0, .str ⟨⟨[47, 99, 108, 97, 105, 109, 47, 99, 117, 116, 46, 112, 121]⟩⟩ 250]⟩, ⟨[]⟩⟩
noncomputable def zk53 (P : Params) : Obj := ⟨.type SZ.s7174869446012820540x8, none, .func (fO (tS 6) ⟨⟨[98, 105, 115, 101, 99, 116, 95, 114, 105, 103, 104, 116]⟩⟩ ⟨⟨[98, 105, 115, 101, 99, 116, 95, 114, 105, 103, 104, 116]⟩⟩ 3 [] (.ref 45) (.ref 46) .none (.str ⟨⟨[99, 112, 121, 51, 49, 51, 46, 98, 105, 115, 101, 99, 116]⟩⟩ 223) none (.ref 52) .none 0), ⟨[]⟩⟩
noncomputable def zk61 (P : Params) : Obj := ⟨.type SZ.s2766695959194262286x5, none, .seq ⟨[]⟩ 0, ⟨[]⟩⟩
noncomputable def zk62 (P : Params) : Obj := ⟨.none, none, .fields ⟨[]⟩, ⟨[]⟩⟩
noncomputable def zk63 (P : Params) : Obj := ⟨.type SZ.s2766695959194262286x5, none, .seq ⟨[.str ⟨⟨[115, 101, 108, 102]⟩⟩ 269, .str ⟨⟨[102, 112]⟩⟩ 270]⟩ 0, ⟨[]⟩⟩
noncomputable def zk64 (P : Params) : Obj := ⟨.type SZ.s2766695959194262286x5, none, .seq ⟨[]⟩ 0, ⟨[]⟩⟩
noncomputable def zk65 (P : Params) : Obj := ⟨.none, none, .func (fO (cS 8 0) ⟨⟨[95, 95, 105, 110, 105, 116, 95, 95]⟩⟩ ⟨⟨[95, 110, 101, 116, 114, 99, 108, 101, 120, 46, 95, 95, 105, 110, 105, 116, 95, 95]⟩⟩ 0 [] .none .none .none .none none .none .none 0), ⟨[]⟩⟩
noncomputable def zk66 (P : Params) : Obj := ⟨.type SZ.s5856160107412720595x4, none, .fields ⟨[.str ⟨⟨[95, 95, 105, 110, 105, 116, 95, 95]⟩⟩ 266, .str ⟨⟨[95, 110, 101, 116, 114, 99, 108, 101, 120, 46, 95, 95, 105, 110, 105, 116, 95, 95]⟩⟩ 267, .str ⟨⟨[47, 99, 108, 97, 105, 109, 47, 99, 117, 116, 46, 112, 121]⟩⟩ 268, .int 62 0, .int 2 0, .int 0 0, .int 0 0, .int 3 0, .ref 61, .bool true, .int 181 0, .ref 62, .none, .ref 63, .ref 64, .ref 65, .int 271 0, .int 62 0, .str ⟨⟨[47, 99, 108, 97, 105, 109, 47, 99, 117, 116, 46, 112, 121]⟩⟩ 272]⟩, ⟨[]⟩⟩
noncomputable def zk67 (P : Params) : Obj := ⟨.type SZ.s7174869446012820540x8, none, .func (fO (cS 8 0) ⟨⟨[95, 95, 105, 110, 105, 116, 95, 95]⟩⟩ ⟨⟨[95, 110, 101, 116, 114, 99, 108, 101, 120, 46, 95, 95, 105, 110, 105, 116, 95, 95]⟩⟩ 3 [] .none .none .none (.str ⟨⟨[99, 112, 121, 51, 49, 51, 46, 110, 101, 116, 114, 99]⟩⟩ 252) none (.ref 66) .none 0), ⟨[]⟩⟩
noncomputable def zk68 (P : Params) : Obj := ⟨.type SZ.s2766695959194262286x5, none, .seq ⟨[]⟩ 0, ⟨[]⟩⟩
noncomputable def zk69 (P : Params) : Obj := ⟨.none, none, .fields ⟨[]⟩, ⟨[]⟩⟩
noncomputable def zk70 (P : Params) : Obj := ⟨.type SZ.s2766695959194262286x5, none, .seq ⟨[.str ⟨⟨[115, 101, 108, 102]⟩⟩ 277, .str ⟨⟨[99, 104]⟩⟩ 278]⟩ 0, ⟨[]⟩⟩
noncomputable def zk71 (P : Params) : Obj := ⟨.type SZ.s2766695959194262286x5, none, .seq ⟨[]⟩ 0, ⟨[]⟩⟩
noncomputable def zk72 (P : Params) : Obj := ⟨.none, none, .func (fO (cS 8 1) ⟨⟨[95, 114, 101, 97, 100, 95, 99, 104, 97, 114]⟩⟩ ⟨⟨[95, 110, 101, 116, 114, 99, 108, 101, 120, 46, 95, 114, 101, 97, 100, 95, 99, 104, 97, 114]⟩⟩ 0 [] .none .none .none .none none .none .none 0), ⟨[]⟩⟩
noncomputable def zk73 (P : Params) : Obj := ⟨.type SZ.s5856160107412720595x4, none, .fields ⟨[.str ⟨⟨[95, 114, 101, 97, 100, 95, 99, 104, 97, 114]⟩⟩ 274, .str ⟨⟨[95, 110, 101, 116, 114, 99, 108, 101, 120, 46, 95, 114, 101, 97, 100, 95, 99, 104, 97, 114]⟩⟩ 275, .str ⟨⟨[47, 99, 108, 97, 105, 109, 47, 99, 117, 116, 46, 112, 121]⟩⟩ 276, .int 68 0, .int 1 0, .int 0 0, .int 0 0, .int 3 0, .ref 68, .bool true, .int 181 0, .ref 69, .none, .ref 70, .ref 71, .ref 72, .int 279 0, .int 68 0, .str ⟨⟨[47, 99, 108, 97, 105, 109, 47, 99, 117, 116, 46, 112, 121]⟩⟩ 280]⟩, ⟨[]⟩⟩
noncomputable def zk74 (P : Params) : Obj := ⟨.type SZ.s7174869446012820540x8, none, .func (fO (cS 8 1) ⟨⟨[95, 114, 101, 97, 100, 95, 99, 104, 97, 114]⟩⟩ ⟨⟨[95, 110, 101, 116, 114, 99, 108, 101, 120, 46, 95, 114, 101, 97, 100, 95, 99, 104, 97, 114]⟩⟩ 3 [] .none .none .none (.str ⟨⟨[99, 112, 121, 51, 49, 51, 46, 110, 101, 116, 114, 99]⟩⟩ 252) none (.ref 73) .none 0), ⟨[]⟩⟩
noncomputable def zk75 (P : Params) : Obj := ⟨.type SZ.s2766695959194262286x5, none, .seq ⟨[]⟩ 0, ⟨[]⟩⟩
noncomputable def zk76 (P : Params) : Obj := ⟨.none, none, .fields ⟨[]⟩, ⟨[]⟩⟩
noncomputable def zk77 (P : Params) : Obj := ⟨.type SZ.s2766695959194262286x5, none, .seq ⟨[.str ⟨⟨[115, 101, 108, 102]⟩⟩ 285, .str ⟨⟨[116, 111, 107, 101, 110]⟩⟩ 286, .str ⟨⟨[102, 105, 116, 101, 114]⟩⟩ 287, .str ⟨⟨[99, 104]⟩⟩ 288]⟩ 0, ⟨[]⟩⟩
noncomputable def zk78 (P : Params) : Obj := ⟨.type SZ.s2766695959194262286x5, none, .seq ⟨[]⟩ 0, ⟨[]⟩⟩
noncomputable def zk79 (P : Params) : Obj := ⟨.none, none, .func (fO (cS 8 2) ⟨⟨[103, 101, 116, 95, 116, 111, 107, 101, 110]⟩⟩ ⟨⟨[95, 110, 101, 116, 114, 99, 108, 101, 120, 46, 103, 101, 116, 95, 116, 111, 107, 101, 110]⟩⟩ 0 [] .none .none .none .none none .none .none 0), ⟨[]⟩⟩
noncomputable def zk80 (P : Params) : Obj := ⟨.type SZ.s5856160107412720595x4, none, .fields ⟨[.str ⟨⟨[103, 101, 116, 95, 116, 111, 107, 101, 110]⟩⟩ 282, .str ⟨⟨[95, 110, 101, 116, 114, 99, 108, 101, 120, 46, 103, 101, 116, 95, 116, 111, 107, 101, 110]⟩⟩ 283, .str ⟨⟨[47, 99, 108, 97, 105, 109, 47, 99, 117, 116, 46, 112, 121]⟩⟩ 284, .int 74 0, .int 1 0, .int 0 0, .int 0 0, .int 3 0, .ref 75, .bool true, .int 181 0, .ref 76, .none, .ref 77, .ref 78, .ref 79, .int 289 0, .int 74 0, .str ⟨⟨[47, 99, 108, 97, 105, 109, 47, 99, 117, 116, 46, 112, 121]⟩⟩ 290]⟩, ⟨[]⟩⟩
noncomputable def zk81 (P : Params) : Obj := ⟨.type SZ.s7174869446012820540x8, none, .func (fO (cS 8 2) ⟨⟨[103, 101, 116, 95, 116, 111, 107, 101, 110]⟩⟩ ⟨⟨[95, 110, 101, 116, 114, 99, 108, 101, 120, 46, 103, 101, 116, 95, 116, 111, 107, 101, 110]⟩⟩ 3 [] .none .none .none (.str ⟨⟨[99, 112, 121, 51, 49, 51, 46, 110, 101, 116, 114, 99]⟩⟩ 252) none (.ref 80) .none 0), ⟨[]⟩⟩
noncomputable def zk82 (P : Params) : Obj := ⟨.type SZ.s2766695959194262286x5, none, .seq ⟨[]⟩ 0, ⟨[]⟩⟩
noncomputable def zk83 (P : Params) : Obj := ⟨.none, none, .fields ⟨[]⟩, ⟨[]⟩⟩
noncomputable def zk84 (P : Params) : Obj := ⟨.type SZ.s2766695959194262286x5, none, .seq ⟨[.str ⟨⟨[115, 101, 108, 102]⟩⟩ 295, .str ⟨⟨[116, 111, 107, 101, 110]⟩⟩ 296]⟩ 0, ⟨[]⟩⟩
noncomputable def zk85 (P : Params) : Obj := ⟨.type SZ.s2766695959194262286x5, none, .seq ⟨[]⟩ 0, ⟨[]⟩⟩
noncomputable def zk86 (P : Params) : Obj := ⟨.none, none, .func (fO (cS 8 3) ⟨⟨[112, 117, 115, 104, 95, 116, 111, 107, 101, 110]⟩⟩ ⟨⟨[95, 110, 101, 116, 114, 99, 108, 101, 120, 46, 112, 117, 115, 104, 95, 116, 111, 107, 101, 110]⟩⟩ 0 [] .none .none .none .none none .none .none 0), ⟨[]⟩⟩
noncomputable def zk87 (P : Params) : Obj := ⟨.type SZ.s5856160107412720595x4, none, .fields ⟨[.str ⟨⟨[112, 117, 115, 104, 95, 116, 111, 107, 101, 110]⟩⟩ 292, .str ⟨⟨[95, 110, 101, 116, 114, 99, 108, 101, 120, 46, 112, 117, 115, 104, 95, 116, 111, 107, 101, 110]⟩⟩ 293, .str ⟨⟨[47, 99, 108, 97, 105, 109, 47, 99, 117, 116, 46, 112, 121]⟩⟩ 294, .int 101 0, .int 2 0, .int 0 0, .int 0 0, .int 3 0, .ref 82, .bool true, .int 181 0, .ref 83, .none, .ref 84, .ref 85, .ref 86, .int 297 0, .int 101 0, .str ⟨⟨[47, 99, 108, 97, 105, 109, 47, 99, 117, 116, 46, 112, 121]⟩⟩ 298]⟩, ⟨[]⟩⟩
noncomputable def zk88 (P : Params) : Obj := ⟨.type SZ.s7174869446012820540x8, none, .func (fO (cS 8 3) ⟨⟨[112, 117, 115, 104, 95, 116, 111, 107, 101, 110]⟩⟩ ⟨⟨[95, 110, 101, 116, 114, 99, 108, 101, 120, 46, 112, 117, 115, 104, 95, 116, 111, 107, 101, 110]⟩⟩ 3 [] .none .none .none (.str ⟨⟨[99, 112, 121, 51, 49, 51, 46, 110, 101, 116, 114, 99]⟩⟩ 252) none (.ref 87) .none 0), ⟨[]⟩⟩
noncomputable def zk89 (P : Params) : Obj := ⟨.type SZ.s2766695959194262286x5, none, .seq ⟨[.str ⟨⟨[105, 110, 115, 116, 114, 101, 97, 109]⟩⟩ 300, .str ⟨⟨[108, 105, 110, 101, 110, 111]⟩⟩ 301, .str ⟨⟨[112, 117, 115, 104, 98, 97, 99, 107]⟩⟩ 302, .str ⟨⟨[119, 104, 105, 116, 101, 115, 112, 97, 99, 101]⟩⟩ 303]⟩ 0, ⟨[]⟩⟩
noncomputable def zk90 (P : Params) : Obj := ⟨.type SZ.s14018661285674007319x4, none, .dict ⟨[kE P ⟨⟨[95, 95, 109, 111, 100, 117, 108, 101, 95, 95]⟩⟩ 261 (.str ⟨⟨[99, 112, 121, 51, 49, 51, 46, 110, 101, 116, 114, 99]⟩⟩ 252), kE P ⟨⟨[95, 95, 102, 105, 114, 115, 116, 108, 105, 110, 101, 110, 111, 95, 95]⟩⟩ 265 (.int 60 264), kE P ⟨⟨[95, 95, 105, 110, 105, 116, 95, 95]⟩⟩ 273 (.ref 67), kE P ⟨⟨[95, 114, 101, 97, 100, 95, 99, 104, 97, 114]⟩⟩ 281 (.ref 74), kE P ⟨⟨[103, 101, 116, 95, 116, 111, 107, 101, 110]⟩⟩ 291 (.ref 81), kE P ⟨⟨[112, 117, 115, 104, 95, 116, 111, 107, 101, 110]⟩⟩ 299 (.ref 88), kE P ⟨⟨[95, 95, 115, 116, 97, 116, 105, 99, 95, 97, 116, 116, 114, 105, 98, 117, 116, 101, 115, 95, 95]⟩⟩ 304 (.ref 89), kE P ⟨⟨[95, 95, 100, 105, 99, 116, 95, 95]⟩⟩ 306 (.ref 92), kE P ⟨⟨[95, 95, 119, 101, 97, 107, 114, 101, 102, 95, 95]⟩⟩ 308 (.ref 93), kE P ⟨⟨[95, 95, 100, 111, 99, 95, 95]⟩⟩ 309 .none]⟩ 4, ⟨[]⟩⟩
noncomputable def zk91 (P : Params) : Obj := ⟨.type SZ.s17162191345867700912x4, none, .cls { name := ⟨⟨[95, 110, 101, 116, 114, 99, 108, 101, 120]⟩⟩, bases := [.type SZ.s2742458400755230247x6], mro := [.ref 91, .type SZ.s2742458400755230247x6], ns := 90, qualname := ⟨⟨[95, 110, 101, 116, 114, 99, 108, 101, 120]⟩⟩, hasDict := true }, ⟨[none, none, some (.str ⟨⟨[95, 110, 101, 116, 114, 99, 108, 101, 120]⟩⟩ 254), some (.str ⟨⟨[95, 110, 101, 116, 114, 99, 108, 101, 120]⟩⟩ 262), some (.builtin SZ.s11443829558043349243x14), some (.bool true)]⟩⟩
noncomputable def zk92 (P : Params) : Obj := ⟨.type SZ.s14755015743595814543x17, none, .fields ⟨[.str ⟨⟨[95, 95, 100, 105, 99, 116, 95, 95]⟩⟩ 305, .ref 91, .builtin SZ.s6511155373996960695x17, .builtin SZ.s12411053484034534018x21]⟩, ⟨[]⟩⟩
noncomputable def zk93 (P : Params) : Obj := ⟨.type SZ.s14755015743595814543x17, none, .fields ⟨[.str ⟨⟨[95, 95, 119, 101, 97, 107, 114, 101, 102, 95, 95]⟩⟩ 307, .ref 91, .builtin SZ.s10220274742760427390x26, .none]⟩, ⟨[]⟩⟩
noncomputable def zk96 (P : Params) : Obj := ⟨.type SZ.s2766695959194262286x5, none, .seq ⟨[]⟩ 0, ⟨[]⟩⟩
noncomputable def zk97 (P : Params) : Obj := ⟨.none, none, .fields ⟨[]⟩, ⟨[]⟩⟩
noncomputable def zk98 (P : Params) : Obj := ⟨.type SZ.s2766695959194262286x5, none, .seq ⟨[.str ⟨⟨[116, 101, 120, 116]⟩⟩ 317, .str ⟨⟨[115, 116, 114, 101, 97, 109]⟩⟩ 318]⟩ 0, ⟨[]⟩⟩
noncomputable def zk99 (P : Params) : Obj := ⟨.type SZ.s2766695959194262286x5, none, .seq ⟨[.str ⟨⟨[115, 105, 103, 110, 115]⟩⟩ 319]⟩ 0, ⟨[]⟩⟩
noncomputable def zk100 (P : Params) : Obj := ⟨.none, none, .func (fO (tS 10) ⟨⟨[95, 108, 97, 119, 95, 108, 101, 120, 101, 114]⟩⟩ ⟨⟨[95, 108, 97, 119, 95, 108, 101, 120, 101, 114]⟩⟩ 0 [] .none .none .none .none none .none .none 0), ⟨[]⟩⟩
noncomputable def zk101 (P : Params) : Obj := ⟨.type SZ.s5856160107412720595x4, none, .fields ⟨[.str ⟨⟨[95, 108, 97, 119, 95, 108, 101, 120, 101, 114]⟩⟩ 314, .str ⟨⟨[95, 108, 97, 119, 95, 108, 101, 120, 101, 114]⟩⟩ 315, .str ⟨⟨[47, 99, 108, 97, 105, 109, 47, 99, 117, 116, 46, 112, 121]⟩⟩ 316, .int 104 0, .int 1 0, .int 0 0, .int 0 0, .int 3 0, .ref 96, .bool true, .int 181 0, .ref 97, .none, .ref 98, .ref 99, .ref 100, .int 320 0, .int 104 0, .str ⟨⟨[47, 99, 108, 97, 105, 109, 47, 99, 117, 116, 46, 112, 121]⟩⟩ 321]⟩, ⟨[]⟩⟩
noncomputable def zk102 (P : Params) : Obj := ⟨.type SZ.s7174869446012820540x8, none, .func (fO (tS 10) ⟨⟨[95, 108, 97, 119, 95, 108, 101, 120, 101, 114]⟩⟩ ⟨⟨[95, 108, 97, 119, 95, 108, 101, 120, 101, 114]⟩⟩ 3 [] .none .none .none (.str ⟨⟨[108, 97, 119, 95, 113, 117, 48, 48, 50, 49, 95, 48, 49]⟩⟩ 312) none (.ref 101) .none 0), ⟨[]⟩⟩
noncomputable def zk103 (P : Params) : Obj := ⟨.type SZ.s2766695959194262286x5, none, .seq ⟨[]⟩ 0, ⟨[]⟩⟩
noncomputable def zk104 (P : Params) : Obj := ⟨.none, none, .fields ⟨[]⟩, ⟨[]⟩⟩
noncomputable def zk105 (P : Params) : Obj := ⟨.type SZ.s2766695959194262286x5, none, .seq ⟨[.str ⟨⟨[106, 111, 98, 115]⟩⟩ 326, .str ⟨⟨[99, 108, 101, 114, 107, 115]⟩⟩ 327, .str ⟨⟨[115, 116, 97, 121]⟩⟩ 328, .str ⟨⟨[102, 114, 101, 101]⟩⟩ 329, .str ⟨⟨[100, 111, 110, 101]⟩⟩ 330, .str ⟨⟨[104, 111, 117, 114]⟩⟩ 331, .str ⟨⟨[110, 97, 109, 101]⟩⟩ 332, .str ⟨⟨[101, 110, 100]⟩⟩ 333]⟩ 0, ⟨[]⟩⟩
noncomputable def zk106 (P : Params) : Obj := ⟨.type SZ.s2766695959194262286x5, none, .seq ⟨[]⟩ 0, ⟨[]⟩⟩
noncomputable def zk107 (P : Params) : Obj := ⟨.none, none, .func (fO (tS 11) ⟨⟨[95, 108, 97, 119, 95, 98, 121, 95, 97, 95, 104, 101, 97, 112]⟩⟩ ⟨⟨[95, 108, 97, 119, 95, 98, 121, 95, 97, 95, 104, 101, 97, 112]⟩⟩ 0 [] .none .none .none .none none .none .none 0), ⟨[]⟩⟩
noncomputable def zk108 (P : Params) : Obj := ⟨.type SZ.s5856160107412720595x4, none, .fields ⟨[.str ⟨⟨[95, 108, 97, 119, 95, 98, 121, 95, 97, 95, 104, 101, 97, 112]⟩⟩ 323, .str ⟨⟨[95, 108, 97, 119, 95, 98, 121, 95, 97, 95, 104, 101, 97, 112]⟩⟩ 324, .str ⟨⟨[47, 99, 108, 97, 105, 109, 47, 99, 117, 116, 46, 112, 121]⟩⟩ 325, .int 110 0, .int 3 0, .int 0 0, .int 0 0, .int 3 0, .ref 103, .bool true, .int 181 0, .ref 104, .none, .ref 105, .ref 106, .ref 107, .int 334 0, .int 110 0, .str ⟨⟨[47, 99, 108, 97, 105, 109, 47, 99, 117, 116, 46, 112, 121]⟩⟩ 335]⟩, ⟨[]⟩⟩
noncomputable def zk109 (P : Params) : Obj := ⟨.type SZ.s7174869446012820540x8, none, .func (fO (tS 11) ⟨⟨[95, 108, 97, 119, 95, 98, 121, 95, 97, 95, 104, 101, 97, 112]⟩⟩ ⟨⟨[95, 108, 97, 119, 95, 98, 121, 95, 97, 95, 104, 101, 97, 112]⟩⟩ 3 [] .none .none .none (.str ⟨⟨[108, 97, 119, 95, 113, 117, 48, 48, 50, 49, 95, 48, 49]⟩⟩ 312) none (.ref 108) .none 0), ⟨[]⟩⟩
noncomputable def zk110 (P : Params) : Obj := ⟨.type SZ.s2766695959194262286x5, none, .seq ⟨[]⟩ 0, ⟨[]⟩⟩
noncomputable def zk111 (P : Params) : Obj := ⟨.none, none, .fields ⟨[]⟩, ⟨[]⟩⟩
noncomputable def zk112 (P : Params) : Obj := ⟨.type SZ.s2766695959194262286x5, none, .seq ⟨[.str ⟨⟨[106, 111, 98, 115]⟩⟩ 340, .str ⟨⟨[99, 108, 101, 114, 107, 115]⟩⟩ 341, .str ⟨⟨[115, 116, 97, 121]⟩⟩ 342, .str ⟨⟨[101, 110, 100, 115]⟩⟩ 343, .str ⟨⟨[100, 111, 110, 101]⟩⟩ 344, .str ⟨⟨[104, 111, 117, 114]⟩⟩ 345, .str ⟨⟨[110, 97, 109, 101]⟩⟩ 346, .str ⟨⟨[98, 101, 103, 105, 110]⟩⟩ 347]⟩ 0, ⟨[]⟩⟩
noncomputable def zk113 (P : Params) : Obj := ⟨.type SZ.s2766695959194262286x5, none, .seq ⟨[]⟩ 0, ⟨[]⟩⟩
noncomputable def zk114 (P : Params) : Obj := ⟨.none, none, .func (fO (tS 12) ⟨⟨[95, 108, 97, 119, 95, 98, 121, 95, 97, 95, 114, 111, 119]⟩⟩ ⟨⟨[95, 108, 97, 119, 95, 98, 121, 95, 97, 95, 114, 111, 119]⟩⟩ 0 [] .none .none .none .none none .none .none 0), ⟨[]⟩⟩
noncomputable def zk115 (P : Params) : Obj := ⟨.type SZ.s5856160107412720595x4, none, .fields ⟨[.str ⟨⟨[95, 108, 97, 119, 95, 98, 121, 95, 97, 95, 114, 111, 119]⟩⟩ 337, .str ⟨⟨[95, 108, 97, 119, 95, 98, 121, 95, 97, 95, 114, 111, 119]⟩⟩ 338, .str ⟨⟨[47, 99, 108, 97, 105, 109, 47, 99, 117, 116, 46, 112, 121]⟩⟩ 339, .int 118 0, .int 3 0, .int 0 0, .int 0 0, .int 3 0, .ref 110, .bool true, .int 181 0, .ref 111, .none, .ref 112, .ref 113, .ref 114, .int 348 0, .int 118 0, .str ⟨⟨[47, 99, 108, 97, 105, 109, 47, 99, 117, 116, 46, 112, 121]⟩⟩ 349]⟩, ⟨[]⟩⟩
noncomputable def zk116 (P : Params) : Obj := ⟨.type SZ.s7174869446012820540x8, none, .func (fO (tS 12) ⟨⟨[95, 108, 97, 119, 95, 98, 121, 95, 97, 95, 114, 111, 119]⟩⟩ ⟨⟨[95, 108, 97, 119, 95, 98, 121, 95, 97, 95, 114, 111, 119]⟩⟩ 3 [] .none .none .none (.str ⟨⟨[108, 97, 119, 95, 113, 117, 48, 48, 50, 49, 95, 48, 49]⟩⟩ 312) none (.ref 115) .none 0), ⟨[]⟩⟩
noncomputable def zk117 (P : Params) : Obj := ⟨.type SZ.s2766695959194262286x5, none, .seq ⟨[]⟩ 0, ⟨[]⟩⟩
noncomputable def zk118 (P : Params) : Obj := ⟨.none, none, .fields ⟨[]⟩, ⟨[]⟩⟩
noncomputable def zk119 (P : Params) : Obj := ⟨.type SZ.s2766695959194262286x5, none, .seq ⟨[.str ⟨⟨[106, 111, 98, 115]⟩⟩ 354, .str ⟨⟨[99, 108, 101, 114, 107, 115]⟩⟩ 355, .str ⟨⟨[115, 116, 97, 121]⟩⟩ 356, .str ⟨⟨[108, 105, 110, 101]⟩⟩ 357, .str ⟨⟨[102, 114, 101, 101]⟩⟩ 358, .str ⟨⟨[99, 108, 101, 114, 107]⟩⟩ 359, .str ⟨⟨[100, 111, 110, 101]⟩⟩ 360, .str ⟨⟨[104, 111, 117, 114]⟩⟩ 361, .str ⟨⟨[110, 97, 109, 101]⟩⟩ 362]⟩ 0, ⟨[]⟩⟩
noncomputable def zk120 (P : Params) : Obj := ⟨.type SZ.s2766695959194262286x5, none, .seq ⟨[]⟩ 0, ⟨[]⟩⟩
noncomputable def zk121 (P : Params) : Obj := ⟨.none, none, .func (fO (tS 13) ⟨⟨[95, 108, 97, 119, 95, 98, 121, 95, 97, 95, 108, 105, 110, 101]⟩⟩ ⟨⟨[95, 108, 97, 119, 95, 98, 121, 95, 97, 95, 108, 105, 110, 101]⟩⟩ 0 [] .none .none .none .none none .none .none 0), ⟨[]⟩⟩
noncomputable def zk122 (P : Params) : Obj := ⟨.type SZ.s5856160107412720595x4, none, .fields ⟨[.str ⟨⟨[95, 108, 97, 119, 95, 98, 121, 95, 97, 95, 108, 105, 110, 101]⟩⟩ 351, .str ⟨⟨[95, 108, 97, 119, 95, 98, 121, 95, 97, 95, 108, 105, 110, 101]⟩⟩ 352, .str ⟨⟨[47, 99, 108, 97, 105, 109, 47, 99, 117, 116, 46, 112, 121]⟩⟩ 353, .int 128 0, .int 3 0, .int 0 0, .int 0 0, .int 3 0, .ref 117, .bool true, .int 181 0, .ref 118, .none, .ref 119, .ref 120, .ref 121, .int 363 0, .int 128 0, .str ⟨⟨[47, 99, 108, 97, 105, 109, 47, 99, 117, 116, 46, 112, 121]⟩⟩ 364]⟩, ⟨[]⟩⟩
noncomputable def zk123 (P : Params) : Obj := ⟨.type SZ.s7174869446012820540x8, none, .func (fO (tS 13) ⟨⟨[95, 108, 97, 119, 95, 98, 121, 95, 97, 95, 108, 105, 110, 101]⟩⟩ ⟨⟨[95, 108, 97, 119, 95, 98, 121, 95, 97, 95, 108, 105, 110, 101]⟩⟩ 3 [] .none .none .none (.str ⟨⟨[108, 97, 119, 95, 113, 117, 48, 48, 50, 49, 95, 48, 49]⟩⟩ 312) none (.ref 122) .none 0), ⟨[]⟩⟩
noncomputable def zk124 (P : Params) : Obj := ⟨.type SZ.s2766695959194262286x5, none, .seq ⟨[]⟩ 0, ⟨[]⟩⟩
noncomputable def zk125 (P : Params) : Obj := ⟨.none, none, .fields ⟨[]⟩, ⟨[]⟩⟩
noncomputable def zk126 (P : Params) : Obj := ⟨.type SZ.s2766695959194262286x5, none, .seq ⟨[.str ⟨⟨[107, 105, 110, 100]⟩⟩ 369, .str ⟨⟨[106, 111, 98, 115]⟩⟩ 370, .str ⟨⟨[100, 101, 115, 107, 115]⟩⟩ 371, .str ⟨⟨[99, 108, 101, 114, 107, 115]⟩⟩ 372, .str ⟨⟨[115, 116, 97, 121]⟩⟩ 373]⟩ 0, ⟨[]⟩⟩
noncomputable def zk127 (P : Params) : Obj := ⟨.type SZ.s2766695959194262286x5, none, .seq ⟨[]⟩ 0, ⟨[]⟩⟩
noncomputable def zk128 (P : Params) : Obj := ⟨.none, none, .func (fO (tS 14) ⟨⟨[95, 108, 97, 119, 95, 115, 101, 114, 118, 101, 100]⟩⟩ ⟨⟨[95, 108, 97, 119, 95, 115, 101, 114, 118, 101, 100]⟩⟩ 0 [] .none .none .none .none none .none .none 0), ⟨[]⟩⟩
noncomputable def zk129 (P : Params) : Obj := ⟨.type SZ.s5856160107412720595x4, none, .fields ⟨[.str ⟨⟨[95, 108, 97, 119, 95, 115, 101, 114, 118, 101, 100]⟩⟩ 366, .str ⟨⟨[95, 108, 97, 119, 95, 115, 101, 114, 118, 101, 100]⟩⟩ 367, .str ⟨⟨[47, 99, 108, 97, 105, 109, 47, 99, 117, 116, 46, 112, 121]⟩⟩ 368, .int 141 0, .int 3 0, .int 0 0, .int 0 0, .int 3 0, .ref 124, .bool true, .int 181 0, .ref 125, .none, .ref 126, .ref 127, .ref 128, .int 374 0, .int 141 0, .str ⟨⟨[47, 99, 108, 97, 105, 109, 47, 99, 117, 116, 46, 112, 121]⟩⟩ 375]⟩, ⟨[]⟩⟩
noncomputable def zk130 (P : Params) : Obj := ⟨.type SZ.s7174869446012820540x8, none, .func (fO (tS 14) ⟨⟨[95, 108, 97, 119, 95, 115, 101, 114, 118, 101, 100]⟩⟩ ⟨⟨[95, 108, 97, 119, 95, 115, 101, 114, 118, 101, 100]⟩⟩ 3 [] .none .none .none (.str ⟨⟨[108, 97, 119, 95, 113, 117, 48, 48, 50, 49, 95, 48, 49]⟩⟩ 312) none (.ref 129) .none 0), ⟨[]⟩⟩
noncomputable def zk131 (P : Params) : Obj := ⟨.type SZ.s2766695959194262286x5, none, .seq ⟨[]⟩ 0, ⟨[]⟩⟩
noncomputable def zk132 (P : Params) : Obj := ⟨.none, none, .fields ⟨[]⟩, ⟨[]⟩⟩
noncomputable def zk133 (P : Params) : Obj := ⟨.type SZ.s2766695959194262286x5, none, .seq ⟨[.str ⟨⟨[104, 111, 117, 114, 115]⟩⟩ 380, .str ⟨⟨[100, 101, 115, 107, 115]⟩⟩ 381, .str ⟨⟨[97]⟩⟩ 382, .str ⟨⟨[115]⟩⟩ 383, .str ⟨⟨[98]⟩⟩ 384, .str ⟨⟨[116]⟩⟩ 385, .str ⟨⟨[99]⟩⟩ 386, .str ⟨⟨[117]⟩⟩ 387, .str ⟨⟨[100, 117, 101]⟩⟩ 388, .str ⟨⟨[110]⟩⟩ 389, .str ⟨⟨[115, 117, 109, 115]⟩⟩ 390, .str ⟨⟨[105]⟩⟩ 391, .str ⟨⟨[106]⟩⟩ 392, .str ⟨⟨[107]⟩⟩ 393]⟩ 0, ⟨[]⟩⟩
noncomputable def zk134 (P : Params) : Obj := ⟨.type SZ.s2766695959194262286x5, none, .seq ⟨[]⟩ 0, ⟨[]⟩⟩
noncomputable def zk135 (P : Params) : Obj := ⟨.none, none, .func (fO (tS 15) ⟨⟨[95, 108, 97, 119, 95, 100, 117, 101]⟩⟩ ⟨⟨[95, 108, 97, 119, 95, 100, 117, 101]⟩⟩ 0 [] .none .none .none .none none .none .none 0), ⟨[]⟩⟩
noncomputable def zk136 (P : Params) : Obj := ⟨.type SZ.s5856160107412720595x4, none, .fields ⟨[.str ⟨⟨[95, 108, 97, 119, 95, 100, 117, 101]⟩⟩ 377, .str ⟨⟨[95, 108, 97, 119, 95, 100, 117, 101]⟩⟩ 378, .str ⟨⟨[47, 99, 108, 97, 105, 109, 47, 99, 117, 116, 46, 112, 121]⟩⟩ 379, .int 148 0, .int 2 0, .int 0 0, .int 0 0, .int 3 0, .ref 131, .bool true, .int 181 0, .ref 132, .none, .ref 133, .ref 134, .ref 135, .int 394 0, .int 148 0, .str ⟨⟨[47, 99, 108, 97, 105, 109, 47, 99, 117, 116, 46, 112, 121]⟩⟩ 395]⟩, ⟨[]⟩⟩
noncomputable def zk137 (P : Params) : Obj := ⟨.type SZ.s7174869446012820540x8, none, .func (fO (tS 15) ⟨⟨[95, 108, 97, 119, 95, 100, 117, 101]⟩⟩ ⟨⟨[95, 108, 97, 119, 95, 100, 117, 101]⟩⟩ 3 [] .none .none .none (.str ⟨⟨[108, 97, 119, 95, 113, 117, 48, 48, 50, 49, 95, 48, 49]⟩⟩ 312) none (.ref 136) .none 0), ⟨[]⟩⟩
noncomputable def zk138 (P : Params) : Obj := ⟨.type SZ.s2766695959194262286x5, none, .seq ⟨[]⟩ 0, ⟨[]⟩⟩
noncomputable def zk139 (P : Params) : Obj := ⟨.none, none, .fields ⟨[]⟩, ⟨[]⟩⟩
noncomputable def zk140 (P : Params) : Obj := ⟨.none, none, .func (fO (tS 16) ⟨⟨[108, 97, 119]⟩⟩ ⟨⟨[108, 97, 119]⟩⟩ 0 [] .none .none .none .none none .none .none 0), ⟨[]⟩⟩
noncomputable def zk141 (P : Params) : Obj := ⟨.type SZ.s5856160107412720595x4, none, .fields ⟨[.str ⟨⟨[108, 97, 119]⟩⟩ 397, .str ⟨⟨[108, 97, 119]⟩⟩ 398, .str ⟨⟨[47, 99, 108, 97, 105, 109, 47, 99, 117, 116, 46, 112, 121]⟩⟩ 399, .int 159 0, .int 1 0, .int 0 0, .int 0 0, .int 3 0, .ref 138, .bool true, .int 181 0, .ref 139, .none, .none, .none, .ref 140, .int 400 0, .int 159 0, .str ⟨⟨[47, 99, 108, 97, 105, 109, 47, 99, 117, 116, 46, 112, 121]⟩⟩ 401]⟩, ⟨[]⟩⟩
noncomputable def zk142 (P : Params) : Obj := ⟨.type SZ.s7174869446012820540x8, none, .func (fO (tS 16) ⟨⟨[108, 97, 119]⟩⟩ ⟨⟨[108, 97, 119]⟩⟩ 3 [] .none .none .none (.str ⟨⟨[108, 97, 119, 95, 113, 117, 48, 48, 50, 49, 95, 48, 49]⟩⟩ 312) none (.ref 141) .none 0), ⟨[]⟩⟩
noncomputable def zt128_127 (P : Params) : X.KT := .node (some (zk127 P)) .nil .nil
noncomputable def zt64_63 (P : Params) : X.KT := .node (some (zk63 P)) (zt128_127 P) .nil
noncomputable def zt32_31 (P : Params) : X.KT := .node (some (zk31 P)) (zt64_63 P) .nil
noncomputable def zt64_79 (P : Params) : X.KT := .node (some (zk79 P)) .nil .nil
noncomputable def zt64_111 (P : Params) : X.KT := .node (some (zk111 P)) .nil .nil
noncomputable def zt32_47 (P : Params) : X.KT := .node (some (zk47 P)) (zt64_79 P) (zt64_111 P)
noncomputable def zt16_15 (P : Params) : X.KT := .node (some (zk15 P)) (zt32_31 P) (zt32_47 P)
noncomputable def zt128_135 (P : Params) : X.KT := .node (some (zk135 P)) .nil .nil
noncomputable def zt64_71 (P : Params) : X.KT := .node (some (zk71 P)) (zt128_135 P) .nil
noncomputable def zt64_103 (P : Params) : X.KT := .node (some (zk103 P)) .nil .nil
noncomputable def zt32_39 (P : Params) : X.KT := .node (some (zk39 P)) (zt64_71 P) (zt64_103 P)
noncomputable def zt64_87 (P : Params) : X.KT := .node (some (zk87 P)) .nil .nil
noncomputable def zt64_119 (P : Params) : X.KT := .node (some (zk119 P)) .nil .nil
noncomputable def zt32_55 (P : Params) : X.KT := .node none (zt64_87 P) (zt64_119 P)
noncomputable def zt16_23 (P : Params) : X.KT := .node (some (zk23 P)) (zt32_39 P) (zt32_55 P)
noncomputable def zt8_7 (P : Params) : X.KT := .node (some (zk7 P)) (zt16_15 P) (zt16_23 P)
noncomputable def zt128_131 (P : Params) : X.KT := .node (some (zk131 P)) .nil .nil
noncomputable def zt64_67 (P : Params) : X.KT := .node (some (zk67 P)) (zt128_131 P) .nil
noncomputable def zt64_99 (P : Params) : X.KT := .node (some (zk99 P)) .nil .nil
noncomputable def zt32_35 (P : Params) : X.KT := .node (some (zk35 P)) (zt64_67 P) (zt64_99 P)
noncomputable def zt64_83 (P : Params) : X.KT := .node (some (zk83 P)) .nil .nil
noncomputable def zt64_115 (P : Params) : X.KT := .node (some (zk115 P)) .nil .nil
noncomputable def zt32_51 (P : Params) : X.KT := .node (some (zk51 P)) (zt64_83 P) (zt64_115 P)
noncomputable def zt16_19 (P : Params) : X.KT := .node (some (zk19 P)) (zt32_35 P) (zt32_51 P)
noncomputable def zt128_139 (P : Params) : X.KT := .node (some (zk139 P)) .nil .nil
noncomputable def zt64_75 (P : Params) : X.KT := .node (some (zk75 P)) (zt128_139 P) .nil
noncomputable def zt64_107 (P : Params) : X.KT := .node (some (zk107 P)) .nil .nil
noncomputable def zt32_43 (P : Params) : X.KT := .node (some (zk43 P)) (zt64_75 P) (zt64_107 P)
noncomputable def zt64_91 (P : Params) : X.KT := .node (some (zk91 P)) .nil .nil
noncomputable def zt64_123 (P : Params) : X.KT := .node (some (zk123 P)) .nil .nil
noncomputable def zt32_59 (P : Params) : X.KT := .node none (zt64_91 P) (zt64_123 P)
noncomputable def zt16_27 (P : Params) : X.KT := .node (some (zk27 P)) (zt32_43 P) (zt32_59 P)
noncomputable def zt8_11 (P : Params) : X.KT := .node (some (zk11 P)) (zt16_19 P) (zt16_27 P)
noncomputable def zt4_3 (P : Params) : X.KT := .node (some (zk3 P)) (zt8_7 P) (zt8_11 P)
noncomputable def zt128_129 (P : Params) : X.KT := .node (some (zk129 P)) .nil .nil
noncomputable def zt64_65 (P : Params) : X.KT := .node (some (zk65 P)) (zt128_129 P) .nil
noncomputable def zt64_97 (P : Params) : X.KT := .node (some (zk97 P)) .nil .nil
noncomputable def zt32_33 (P : Params) : X.KT := .node (some (zk33 P)) (zt64_65 P) (zt64_97 P)
noncomputable def zt64_81 (P : Params) : X.KT := .node (some (zk81 P)) .nil .nil
noncomputable def zt64_113 (P : Params) : X.KT := .node (some (zk113 P)) .nil .nil
noncomputable def zt32_49 (P : Params) : X.KT := .node (some (zk49 P)) (zt64_81 P) (zt64_113 P)
noncomputable def zt16_17 (P : Params) : X.KT := .node (some (zk17 P)) (zt32_33 P) (zt32_49 P)
noncomputable def zt128_137 (P : Params) : X.KT := .node (some (zk137 P)) .nil .nil
noncomputable def zt64_73 (P : Params) : X.KT := .node (some (zk73 P)) (zt128_137 P) .nil
noncomputable def zt64_105 (P : Params) : X.KT := .node (some (zk105 P)) .nil .nil
noncomputable def zt32_41 (P : Params) : X.KT := .node (some (zk41 P)) (zt64_73 P) (zt64_105 P)
noncomputable def zt64_89 (P : Params) : X.KT := .node (some (zk89 P)) .nil .nil
noncomputable def zt64_121 (P : Params) : X.KT := .node (some (zk121 P)) .nil .nil
noncomputable def zt32_57 (P : Params) : X.KT := .node none (zt64_89 P) (zt64_121 P)
noncomputable def zt16_25 (P : Params) : X.KT := .node (some (zk25 P)) (zt32_41 P) (zt32_57 P)
noncomputable def zt8_9 (P : Params) : X.KT := .node (some (zk9 P)) (zt16_17 P) (zt16_25 P)
noncomputable def zt128_133 (P : Params) : X.KT := .node (some (zk133 P)) .nil .nil
noncomputable def zt64_69 (P : Params) : X.KT := .node (some (zk69 P)) (zt128_133 P) .nil
noncomputable def zt64_101 (P : Params) : X.KT := .node (some (zk101 P)) .nil .nil
noncomputable def zt32_37 (P : Params) : X.KT := .node (some (zk37 P)) (zt64_69 P) (zt64_101 P)
noncomputable def zt64_85 (P : Params) : X.KT := .node (some (zk85 P)) .nil .nil
noncomputable def zt64_117 (P : Params) : X.KT := .node (some (zk117 P)) .nil .nil
noncomputable def zt32_53 (P : Params) : X.KT := .node (some (zk53 P)) (zt64_85 P) (zt64_117 P)
noncomputable def zt16_21 (P : Params) : X.KT := .node (some (zk21 P)) (zt32_37 P) (zt32_53 P)
noncomputable def zt128_141 (P : Params) : X.KT := .node (some (zk141 P)) .nil .nil
noncomputable def zt64_77 (P : Params) : X.KT := .node (some (zk77 P)) (zt128_141 P) .nil
noncomputable def zt64_109 (P : Params) : X.KT := .node (some (zk109 P)) .nil .nil
noncomputable def zt32_45 (P : Params) : X.KT := .node (some (zk45 P)) (zt64_77 P) (zt64_109 P)
noncomputable def zt64_93 (P : Params) : X.KT := .node (some (zk93 P)) .nil .nil
noncomputable def zt64_125 (P : Params) : X.KT := .node (some (zk125 P)) .nil .nil
noncomputable def zt32_61 (P : Params) : X.KT := .node (some (zk61 P)) (zt64_93 P) (zt64_125 P)
noncomputable def zt16_29 (P : Params) : X.KT := .node (some (zk29 P)) (zt32_45 P) (zt32_61 P)
noncomputable def zt8_13 (P : Params) : X.KT := .node (some (zk13 P)) (zt16_21 P) (zt16_29 P)
noncomputable def zt4_5 (P : Params) : X.KT := .node (some (zk5 P)) (zt8_9 P) (zt8_13 P)
noncomputable def zt2_1 (P : Params) : X.KT := .node (some (zk1 P)) (zt4_3 P) (zt4_5 P)
noncomputable def zt128_128 (P : Params) : X.KT := .node (some (zk128 P)) .nil .nil
noncomputable def zt64_64 (P : Params) : X.KT := .node (some (zk64 P)) (zt128_128 P) .nil
noncomputable def zt64_96 (P : Params) : X.KT := .node (some (zk96 P)) .nil .nil
noncomputable def zt32_32 (P : Params) : X.KT := .node (some (zk32 P)) (zt64_64 P) (zt64_96 P)
noncomputable def zt64_80 (P : Params) : X.KT := .node (some (zk80 P)) .nil .nil
noncomputable def zt64_112 (P : Params) : X.KT := .node (some (zk112 P)) .nil .nil
noncomputable def zt32_48 (P : Params) : X.KT := .node (some (zk48 P)) (zt64_80 P) (zt64_112 P)
noncomputable def zt16_16 (P : Params) : X.KT := .node (some (zk16 P)) (zt32_32 P) (zt32_48 P)
noncomputable def zt128_136 (P : Params) : X.KT := .node (some (zk136 P)) .nil .nil
noncomputable def zt64_72 (P : Params) : X.KT := .node (some (zk72 P)) (zt128_136 P) .nil
noncomputable def zt64_104 (P : Params) : X.KT := .node (some (zk104 P)) .nil .nil
noncomputable def zt32_40 (P : Params) : X.KT := .node (some (zk40 P)) (zt64_72 P) (zt64_104 P)
noncomputable def zt64_88 (P : Params) : X.KT := .node (some (zk88 P)) .nil .nil
noncomputable def zt64_120 (P : Params) : X.KT := .node (some (zk120 P)) .nil .nil
noncomputable def zt32_56 (P : Params) : X.KT := .node none (zt64_88 P) (zt64_120 P)
noncomputable def zt16_24 (P : Params) : X.KT := .node (some (zk24 P)) (zt32_40 P) (zt32_56 P)
noncomputable def zt8_8 (P : Params) : X.KT := .node (some (zk8 P)) (zt16_16 P) (zt16_24 P)
noncomputable def zt128_132 (P : Params) : X.KT := .node (some (zk132 P)) .nil .nil
noncomputable def zt64_68 (P : Params) : X.KT := .node (some (zk68 P)) (zt128_132 P) .nil
noncomputable def zt64_100 (P : Params) : X.KT := .node (some (zk100 P)) .nil .nil
noncomputable def zt32_36 (P : Params) : X.KT := .node (some (zk36 P)) (zt64_68 P) (zt64_100 P)
noncomputable def zt64_84 (P : Params) : X.KT := .node (some (zk84 P)) .nil .nil
noncomputable def zt64_116 (P : Params) : X.KT := .node (some (zk116 P)) .nil .nil
noncomputable def zt32_52 (P : Params) : X.KT := .node (some (zk52 P)) (zt64_84 P) (zt64_116 P)
noncomputable def zt16_20 (P : Params) : X.KT := .node (some (zk20 P)) (zt32_36 P) (zt32_52 P)
noncomputable def zt128_140 (P : Params) : X.KT := .node (some (zk140 P)) .nil .nil
noncomputable def zt64_76 (P : Params) : X.KT := .node (some (zk76 P)) (zt128_140 P) .nil
noncomputable def zt64_108 (P : Params) : X.KT := .node (some (zk108 P)) .nil .nil
noncomputable def zt32_44 (P : Params) : X.KT := .node (some (zk44 P)) (zt64_76 P) (zt64_108 P)
noncomputable def zt64_92 (P : Params) : X.KT := .node (some (zk92 P)) .nil .nil
noncomputable def zt64_124 (P : Params) : X.KT := .node (some (zk124 P)) .nil .nil
noncomputable def zt32_60 (P : Params) : X.KT := .node none (zt64_92 P) (zt64_124 P)
noncomputable def zt16_28 (P : Params) : X.KT := .node (some (zk28 P)) (zt32_44 P) (zt32_60 P)
noncomputable def zt8_12 (P : Params) : X.KT := .node (some (zk12 P)) (zt16_20 P) (zt16_28 P)
noncomputable def zt4_4 (P : Params) : X.KT := .node (some (zk4 P)) (zt8_8 P) (zt8_12 P)
noncomputable def zt128_130 (P : Params) : X.KT := .node (some (zk130 P)) .nil .nil
noncomputable def zt64_66 (P : Params) : X.KT := .node (some (zk66 P)) (zt128_130 P) .nil
noncomputable def zt64_98 (P : Params) : X.KT := .node (some (zk98 P)) .nil .nil
noncomputable def zt32_34 (P : Params) : X.KT := .node (some (zk34 P)) (zt64_66 P) (zt64_98 P)
noncomputable def zt64_82 (P : Params) : X.KT := .node (some (zk82 P)) .nil .nil
noncomputable def zt64_114 (P : Params) : X.KT := .node (some (zk114 P)) .nil .nil
noncomputable def zt32_50 (P : Params) : X.KT := .node (some (zk50 P)) (zt64_82 P) (zt64_114 P)
noncomputable def zt16_18 (P : Params) : X.KT := .node (some (zk18 P)) (zt32_34 P) (zt32_50 P)
noncomputable def zt128_138 (P : Params) : X.KT := .node (some (zk138 P)) .nil .nil
noncomputable def zt64_74 (P : Params) : X.KT := .node (some (zk74 P)) (zt128_138 P) .nil
noncomputable def zt64_106 (P : Params) : X.KT := .node (some (zk106 P)) .nil .nil
noncomputable def zt32_42 (P : Params) : X.KT := .node (some (zk42 P)) (zt64_74 P) (zt64_106 P)
noncomputable def zt64_90 (P : Params) : X.KT := .node (some (zk90 P)) .nil .nil
noncomputable def zt64_122 (P : Params) : X.KT := .node (some (zk122 P)) .nil .nil
noncomputable def zt32_58 (P : Params) : X.KT := .node none (zt64_90 P) (zt64_122 P)
noncomputable def zt16_26 (P : Params) : X.KT := .node (some (zk26 P)) (zt32_42 P) (zt32_58 P)
noncomputable def zt8_10 (P : Params) : X.KT := .node (some (zk10 P)) (zt16_18 P) (zt16_26 P)
noncomputable def zt128_134 (P : Params) : X.KT := .node (some (zk134 P)) .nil .nil
noncomputable def zt64_70 (P : Params) : X.KT := .node (some (zk70 P)) (zt128_134 P) .nil
noncomputable def zt64_102 (P : Params) : X.KT := .node (some (zk102 P)) .nil .nil
noncomputable def zt32_38 (P : Params) : X.KT := .node (some (zk38 P)) (zt64_70 P) (zt64_102 P)
noncomputable def zt64_86 (P : Params) : X.KT := .node (some (zk86 P)) .nil .nil
noncomputable def zt64_118 (P : Params) : X.KT := .node (some (zk118 P)) .nil .nil
noncomputable def zt32_54 (P : Params) : X.KT := .node none (zt64_86 P) (zt64_118 P)
noncomputable def zt16_22 (P : Params) : X.KT := .node (some (zk22 P)) (zt32_38 P) (zt32_54 P)
noncomputable def zt128_142 (P : Params) : X.KT := .node (some (zk142 P)) .nil .nil
noncomputable def zt64_78 (P : Params) : X.KT := .node (some (zk78 P)) (zt128_142 P) .nil
noncomputable def zt64_110 (P : Params) : X.KT := .node (some (zk110 P)) .nil .nil
noncomputable def zt32_46 (P : Params) : X.KT := .node (some (zk46 P)) (zt64_78 P) (zt64_110 P)
noncomputable def zt64_126 (P : Params) : X.KT := .node (some (zk126 P)) .nil .nil
noncomputable def zt32_62 (P : Params) : X.KT := .node (some (zk62 P)) .nil (zt64_126 P)
noncomputable def zt16_30 (P : Params) : X.KT := .node (some (zk30 P)) (zt32_46 P) (zt32_62 P)
noncomputable def zt8_14 (P : Params) : X.KT := .node (some (zk14 P)) (zt16_22 P) (zt16_30 P)
noncomputable def zt4_6 (P : Params) : X.KT := .node (some (zk6 P)) (zt8_10 P) (zt8_14 P)
noncomputable def zt2_2 (P : Params) : X.KT := .node (some (zk2 P)) (zt4_4 P) (zt4_6 P)
noncomputable def zt1_0 (P : Params) : X.KT := .node (some (zk0 P)) (zt2_1 P) (zt2_2 P)
noncomputable def ktop (P : Params) : X.KT := (zt1_0 P)
noncomputable def heapL (P : Params) : Frag := [(0, zk0 P), (1, zk1 P), (2, zk2 P), (3, zk3 P), (4, zk4 P), (5, zk5 P), (6, zk6 P), (7, zk7 P), (8, zk8 P), (9, zk9 P), (10, zk10 P), (11, zk11 P), (12, zk12 P), (13, zk13 P), (14, zk14 P), (15, zk15 P), (16, zk16 P), (17, zk17 P), (18, zk18 P), (19, zk19 P), (20, zk20 P), (21, zk21 P), (22, zk22 P), (23, zk23 P), (24, zk24 P), (25, zk25 P), (26, zk26 P), (27, zk27 P), (28, zk28 P), (29, zk29 P), (30, zk30 P), (31, zk31 P), (32, zk32 P), (33, zk33 P), (34, zk34 P), (35, zk35 P), (36, zk36 P), (37, zk37 P), (38, zk38 P), (39, zk39 P), (40, zk40 P), (41, zk41 P), (42, zk42 P), (43, zk43 P), (44, zk44 P), (45, zk45 P), (46, zk46 P), (47, zk47 P), (48, zk48 P), (49, zk49 P), (50, zk50 P), (51, zk51 P), (52, zk52 P), (53, zk53 P), (61, zk61 P), (62, zk62 P), (63, zk63 P), (64, zk64 P), (65, zk65 P), (66, zk66 P), (67, zk67 P), (68, zk68 P), (69, zk69 P), (70, zk70 P), (71, zk71 P), (72, zk72 P), (73, zk73 P), (74, zk74 P), (75, zk75 P), (76, zk76 P), (77, zk77 P), (78, zk78 P), (79, zk79 P), (80, zk80 P), (81, zk81 P), (82, zk82 P), (83, zk83 P), (84, zk84 P), (85, zk85 P), (86, zk86 P), (87, zk87 P), (88, zk88 P), (89, zk89 P), (90, zk90 P), (91, zk91 P), (92, zk92 P), (93, zk93 P), (96, zk96 P), (97, zk97 P), (98, zk98 P), (99, zk99 P), (100, zk100 P), (101, zk101 P), (102, zk102 P), (103, zk103 P), (104, zk104 P), (105, zk105 P), (106, zk106 P), (107, zk107 P), (108, zk108 P), (109, zk109 P), (110, zk110 P), (111, zk111 P), (112, zk112 P), (113, zk113 P), (114, zk114 P), (115, zk115 P), (116, zk116 P), (117, zk117 P), (118, zk118 P), (119, zk119 P), (120, zk120 P), (121, zk121 P), (122, zk122 P), (123, zk123 P), (124, zk124 P), (125, zk125 P), (126, zk126 P), (127, zk127 P), (128, zk128 P), (129, zk129 P), (130, zk130 P), (131, zk131 P), (132, zk132 P), (133, zk133 P), (134, zk134 P), (135, zk135 P), (136, zk136 P), (137, zk137 P), (138, zk138 P), (139, zk139 P), (140, zk140 P), (141, zk141 P), (142, zk142 P)]
noncomputable def heapA : List Addr := [0, 1, 2, 3, 4, 5, 6, 7, 8, 9, 10, 11, 12, 13, 14, 15, 16, 17, 18, 19, 20, 21, 22, 23, 24, 25, 26, 27, 28, 29, 30, 31, 32, 33, 34, 35, 36, 37, 38, 39, 40, 41, 42, 43, 44, 45, 46, 47, 48, 49, 50, 51, 52, 53, 61, 62, 63, 64, 65, 66, 67, 68, 69, 70, 71, 72, 73, 74, 75, 76, 77, 78, 79, 80, 81, 82, 83, 84, 85, 86, 87, 88, 89, 90, 91, 92, 93, 96, 97, 98, 99, 100, 101, 102, 103, 104, 105, 106, 107, 108, 109, 110, 111, 112, 113, 114, 115, 116, 117, 118, 119, 120, 121, 122, 123, 124, 125, 126, 127, 128, 129, 130, 131, 132, 133, 134, 135, 136, 137, 138, 139, 140, 141, 142]
noncomputable def qv : Program := { PySem.Challenge.pw_qu0021_01 with main := { PySem.Challenge.pw_qu0021_01.main with body := (view PySem.Challenge.pw_qu0021_01 [1, 2, 3, 8, 10, 11, 12, 13, 14, 15, 16]).main.body } }
theorem ktop_is (P : Params) : KT.of (heapL P) = ktop P := by kernel_rfl
theorem heapA_is (P : Params) : heapA = (heapL P).map (·.1) := by kernel_rfl
theorem booted {p : Program} {N : Nat} {α : Type} {F : Shared → α} {v : World → α} (w : World) (e : opening p = plainProg p.main.scope.names) (hN : Nat.ble 600 N = true) (f : ∀ s, fenceModules? p s = some s)
    (k : ∀ os, (topFrom treeTable p w N ⟨boot_heap w.params, Array.mk [], boot_drawn, boot_toks, os⟩).map F = some (v w)) : (openEnds treeTable p w N).map F = some (v w) := by
  obtain ⟨⟨h, g, d, t, os⟩, e1, e2⟩ := Option.map_eq_some_iff.mp (boot_open e hN f w)
  injection e2 with e2 e3
  injection e3 with e3 e4
  injection e4 with e4 e5
  have e2 : h = _ := e2
  have e3 : g = _ := e3
  have e4 : d = _ := e4
  have e5 : t = _ := e5
  subst e2 e3 e4 e5
  unfold openEnds
  rw [e1]
  exact k os
theorem runs (w : World) (os : OsState) : (topFrom treeTable PySem.Challenge.pw_qu0021_01 w 1688 ⟨boot_heap w.params, Array.mk [], boot_drawn, boot_toks, os⟩).map (fun s => (openSeen qv [Str.ofString "insort_right", Str.ofString "bisect_right"] (importedModules PySem.Challenge.pw_qu0021_01.main.body) (fun s => xlAt qv [] s && recOk (RowW.records PySem.Challenge.rw_qu0021_01.row.toRowW) s) true s, obsZ heapA s)) = some (openGood qv [Str.ofString "insort_right", Str.ofString "bisect_right"], valZ heapL 143 403 w) := by
  unfold topFrom
  simp only [Fast.te14082659384304107361, Fast.te14364793385576792824, Fast.te4187177175401517315]
  kernel_rfl
theorem opens : LeftO PySem.Challenge.pw_qu0021_01 qv [Str.ofString "insort_right", Str.ofString "bisect_right"] (fun s => xlAt qv [] s && recOk (RowW.records PySem.Challenge.rw_qu0021_01.row.toRowW) s) (obsZ heapA) (valZ heapL 143 403) 1688 := fun w =>
  booted (v := fun w => (openGood qv [Str.ofString "insort_right", Str.ofString "bisect_right"], valZ heapL 143 403 w)) w (by kernel_rfl) (by kernel_rfl) (fun _ => by kernel_rfl) (runs w)
end Mine

end
section
open PySem PySem.W PySem.W.X
set_option maxRecDepth 100000
set_option Elab.async false
set_option maxHeartbeats 2000000
set_option genInjectivity false
set_option genSizeOfSpec false
namespace Mine
noncomputable section

/-! the call of a def, the room not asked: the recursion limit's own key is looked up instead -/
noncomputable def compiledOf (fd : FuncData) : Sem Str := match fd.code with
  | .none => pure fd.qualname
  | c => do match ← field c 1 with
    | .str q _ => pure q
    | _ => pure fd.qualname
noncomputable def restFn (fd : FuncData) (env : Env) : Sem PySem.Fin :=
  match fd.scope.isGenerator, fd.scope.isCoroutine with
  | false, false => again (match fd.body with
    | .stmts b => .func b env
    | .expr e => .expr e env)
  | _, _ => unsupported "mine:gen"
noncomputable def limStr : Str := "sys.recursionlimit"
noncomputable def callFnO (self : Addr) (fd : FuncData) (args : Args) : Sem PySem.Fin :=
  compiledOf fd >>= fun compiled => bindArgs fd args >>= fun bs =>
  newFunctionEnv fd.scope fd.globals fd.closure bs (compiled ++ ".<locals>.") (some self) fd.code none fd.builtins >>= fun env =>
  nsGet cStatics limStr >>= fun r => match r with
    | none => restFn fd env
    | some _ => unsupported "mine:limit"
theorem callFunction_is (self : Addr) (fd : FuncData) (args : Args) (hg : fd.scope.isGenerator = false) (hc : fd.scope.isCoroutine = false) :
    callFunction self fd args = compiledOf fd >>= fun compiled => bindArgs fd args >>= fun bs =>
      newFunctionEnv fd.scope fd.globals fd.closure bs (compiled ++ ".<locals>.") (some self) fd.code none fd.builtins >>= fun env =>
      enterFrame >>= fun _ => restFn fd env := by
  unfold callFunction compiledOf restFn
  rw [hg, hc]
  cases fd.code <;> simp only [pure_bind, bind_assoc]
  all_goals first | done | rfl | (congr 1; funext v; cases v <;> first | rfl | (simp only [pure_bind]; done) | (simp only [pure_bind]; rfl))
theorem limit_room {M : Model} {Γ : Ctx} {p : Pos} {s : Shared} {Q : PySem.Fin → Pos → Shared → Prop} {E : Value → Pos → Shared → Prop} (X : Sem PySem.Fin)
    (hd : frameCount ((Γ.code, p) :: Γ.below) < recursionLimit) (h : Sem.wp M Γ (nsGet cStatics limStr >>= fun r => match r with | none => X | some _ => unsupported "mine:limit") Q E p s) :
    Sem.wp M Γ (enterFrame >>= fun _ => X) Q E p s := by
  have hge := frameCount_ge ((Γ.code, p) :: Γ.below)
  have hlt : ¬ ((((Γ.code, p) :: Γ.below).map (·.1)).map (·.frames)).sum ≥ recursionLimit := by (first | lia | omega)
  have hlt' : ¬ ((((Γ.code, p) :: Γ.below).map (·.1)).map (·.frames)).sum + ((((Γ.code, p) :: Γ.below).map (·.1)).filter Code.isCreation).length ≥ recursionLimit := by (first | lia | omega)
  have hnear : nearTheLimitUnderAClaim (((Γ.code, p) :: Γ.below).map (·.1)) (((((Γ.code, p) :: Γ.below).map (·.1)).map (·.frames)).sum + ((((Γ.code, p) :: Γ.below).map (·.1)).filter Code.isCreation).length) recursionLimit = false := by
    rw [near_is]
    cases hc : (((Γ.code, p) :: Γ.below).map (·.1)).any Code.isCaller with
    | false => rw [Bool.and_false]
    | true =>
      have := frameCount_ge_caller _ hc
      rw [Bool.and_true]; exact decide_eq_false (by (first | lia | omega))
  rw [Sem.wp_bind'] at h ⊢
  simp only [enterFrame, currentRecursionLimit, Sem.wp_bind']
  show Sem.wp M Γ (nsGet cStatics limStr) _ _ p s
  refine Sem.wp_mono M Γ _ (fun r p' s' hr => ?_) (fun _ _ _ x => x) p s h
  cases r with
  | some v => cases hr
  | none =>
    show Sem.wp M Γ (if nearTheLimitUnderAClaim (((Γ.code, p) :: Γ.below).map (·.1)) (((((Γ.code, p) :: Γ.below).map (·.1)).map (·.frames)).sum - 0 + ((((Γ.code, p) :: Γ.below).map (·.1)).filter Code.isCreation).length) recursionLimit = true then _ else _) _ _ p' s'
    rw [Nat.sub_zero, if_neg (by rw [hnear]; exact Bool.false_ne_true)]
    show Sem.wp M Γ (if ((((Γ.code, p) :: Γ.below).map (·.1)).map (·.frames)).sum ≥ recursionLimit then _ else _) _ _ p' s'
    rw [if_neg hlt]
    show Sem.wp M Γ (if ((((Γ.code, p) :: Γ.below).map (·.1)).map (·.frames)).sum + ((((Γ.code, p) :: Γ.below).map (·.1)).filter Code.isCreation).length ≥ recursionLimit then _ else _) _ _ p' s'
    rw [if_neg hlt']
    exact hr

/-! the same by the library's quick twins -/
noncomputable def compiledZ (fd : FuncData) : Sem Str := match fd.code with
  | .none => .pure fd.qualname
  | c => R.bindR (ZFast.zw6609576154772507232 c 1) fun v => match v with
    | .str q _ => .pure q
    | _ => .pure fd.qualname
noncomputable def restZ (fd : FuncData) (env : Env) : Sem PySem.Fin :=
  match fd.scope.isGenerator, fd.scope.isCoroutine with
  | false, false => .pure (.again (match fd.body with
    | .stmts b => .func b env
    | .expr e => .expr e env))
  | _, _ => .unsupported "mine:gen"
noncomputable def limZ : Str := ⟨⟨[115, 121, 115, 46, 114, 101, 99, 117, 114, 115, 105, 111, 110, 108, 105, 109, 105, 116]⟩⟩
noncomputable def locZ : Str := ⟨⟨[46, 60, 108, 111, 99, 97, 108, 115, 62, 46]⟩⟩
noncomputable def callFnZ (self : Addr) (fd : FuncData) (args : Args) : Sem PySem.Fin :=
  R.bindR (compiledZ fd) fun compiled => R.bindR (ZFast.zw9782568553167038054 fd args) fun bs =>
  R.bindR (ZFast.zw11113344188204177931 fd.scope fd.globals fd.closure bs (compiled ++ locZ) (some self) fd.code none fd.builtins) fun env =>
  R.bindR (ZFast.zw13143150168775219229 cStatics limZ) fun r => match r with
    | none => restZ fd env
    | some _ => .unsupported "mine:limit"
theorem limZ_is : limStr = limZ := by decide +kernel
theorem locZ_is : (Str.ofString ".<locals>.") = locZ := by decide +kernel
theorem bindR_is {α β : Type} (m : Sem α) (f : α → Sem β) : R.bindR m f = m >>= f := by
  show _ = Sem.bind m f
  rw [R.bindR_eq]
theorem compiledZ_is (fd : FuncData) : compiledZ fd = compiledOf fd := by
  unfold compiledZ compiledOf
  cases fd.code <;> simp only [bindR_is, ← ZFast.ze6609576154772507232] <;> rfl
theorem restZ_is (fd : FuncData) (env : Env) : restZ fd env = restFn fd env := rfl
theorem callFnZ_is (self : Addr) (fd : FuncData) (args : Args) : callFnZ self fd args = callFnO self fd args := by
  unfold callFnZ callFnO
  simp only [bindR_is, compiledZ_is, ← ZFast.ze9782568553167038054, ← ZFast.ze11113344188204177931, ← ZFast.ze13143150168775219229, ← limZ_is, ← locZ_is]
  rfl

noncomputable def plainFn (a : Addr) (fd : FuncData) (args : Args) : Sem PySem.Fin := match fd.scope.isGenerator, fd.scope.isCoroutine with
  | false, false => callFnZ a fd args
  | _, _ => .unsupported "mine:gen"
noncomputable def fnOr (a : Addr) (args : Args) (o : Obj) : Sem PySem.Fin := match o.data with
  | .func fd => plainFn a fd args
  | _ => ZFast.zw2956504954644400088 (.ref a) args
noncomputable def denZ (c : Code) : Sem PySem.Fin := match c with
  | .call f args => match f with
    | .ref a => .load a none (fnOr a args)
    | _ => ZFast.zw2956504954644400088 f args
  | c => ZFast.zw11892475500146522536 ZFast.tableZ c
theorem den_eq (c : Code) : ZFast.zw11892475500146522536 ZFast.tableZ c = denote table c := by
  rw [← ZFast.ze11892475500146522536, ← ZFast.tableZ_eq]
theorem callAny_eq (f : Value) (args : Args) : ZFast.zw2956504954644400088 f args = callAny f args := by
  rw [← ZFast.ze2956504954644400088]
theorem denZ_sound {M : Model} {Γ : Ctx} {p : Pos} {s : Shared} {Q : PySem.Fin → Pos → Shared → Prop} {E : Value → Pos → Shared → Prop} (c : Code)
    (hd : ∀ p, frameCount ((Γ.code, p) :: Γ.below) < recursionLimit) (h : Sem.wp M Γ (denZ c) Q E p s) : Sem.wp M Γ (denote table c) Q E p s := by
  cases c with
  | call f args =>
    cases f with
    | ref a =>
      have h' : ∃ o, s.heap.get? a = some o ∧ Sem.wp M Γ (fnOr a args o) Q E p s := by
        rw [← Sem.wp_load (part := none)]; exact h
      obtain ⟨o, ho, h2⟩ := h'
      show Sem.wp M Γ (callAny (.ref a) args) Q E p s
      unfold fnOr at h2
      cases hdt : o.data with
      | func fd =>
        rw [hdt] at h2
        unfold callAny
        rw [Sem.wp_bind', Sem.wp_load_of M Γ E p s ho]
        simp only [hdt]
        replace h2 : Sem.wp M Γ (plainFn a fd args) Q E p s := h2
        unfold plainFn at h2
        cases hg : fd.scope.isGenerator with
        | true => rw [hg] at h2; cases hc : fd.scope.isCoroutine <;> (rw [hc] at h2; cases h2)
        | false =>
          cases hc : fd.scope.isCoroutine with
          | true => rw [hg, hc] at h2; cases h2
          | false =>
            rw [hg, hc] at h2
            have h3 : Sem.wp M Γ (callFnO a fd args) Q E p s := by rw [← callFnZ_is]; exact h2
            rw [callFunction_is a fd args hg hc]
            unfold callFnO at h3
            rw [Sem.wp_bind'] at h3 ⊢
            refine Sem.wp_mono M Γ _ (fun r p' s' hr => ?_) (fun _ _ _ x => x) p s h3
            rw [Sem.wp_bind'] at hr ⊢
            refine Sem.wp_mono M Γ _ (fun r p' s' hr => ?_) (fun _ _ _ x => x) _ _ hr
            rw [Sem.wp_bind'] at hr ⊢
            refine Sem.wp_mono M Γ _ (fun r p' s' hr => ?_) (fun _ _ _ x => x) _ _ hr
            exact limit_room _ (hd p') hr
      | _ => rw [hdt] at h2; rw [← callAny_eq]; exact h2
    | _ => rw [← den_eq]; exact h
  | _ => rw [← den_eq]; exact h

/-! the engine: a run over a ledger, by the kernel; addresses are told by an oracle and held to by equations -/
inductive RK where
  | base
  | ret (c : Code) (k : Result → Sem PySem.Fin) (κ : RK)
structure SmR where
  v : Value
  T : BT
  m : Nat
  i : Nat
  q : Nat
  es : List (Nat × Nat)
  cs : List Prop
structure RV where
  P : Params
  prog : Program
  top : Nat → Option Obj
  ps : List Nat
  p : Nat
  B : Nat
  t₀ : Nat
  sm : Nat → Code → BT → Nat → Nat → Nat → Option SmR
structure RS where
  c : Code
  κ : RK
  d : Nat
  t : Sem PySem.Fin
  T : BT
  m : Nat
  i : Nat
  q : Nat
  es : List (Nat × Nat)
  cs : List Prop
inductive RO where
  | fin (r : Result) (s : RS)
  | call (c' : Code) (k : Result → Sem PySem.Fin) (s : RS)
  | again (c' : Code) (s : RS)
  | bad (n : Nat)
inductive SR where
  | go (s : RS)
  | out (o : RO)
noncomputable def nthA : List Nat → Nat → Option Nat
  | [], _ => none
  | a :: _, 0 => some a
  | _ :: l, n + 1 => nthA l n
noncomputable def adr (V : RV) (j : Nat) : Nat := match nthA V.ps j with
  | some a => a
  | none => V.B + (j - V.p)
noncomputable def callerCode : Nat := 35714603318786955769505017188
noncomputable def okCode (c : Code) : Bool := match c with
  | .builtin id _ => !Nat.beq (S.codeS id) callerCode
  | _ => true
noncomputable def retS (κ : RK) (r : Result) (s : RS) : SR := match κ with
  | .base => .out (.fin r s)
  | .ret c k κ => .go ⟨c, κ, s.d - 1, k r, s.T, s.m, s.i, s.q, s.es, s.cs⟩
noncomputable def loadS (V : RV) (a : Nat) (s : RS) (k : Obj → Sem PySem.Fin) : SR := match s.q % 256 with
  | 0 => match V.top a with
    | some o => .go ⟨s.c, s.κ, s.d, k o, s.T, s.m, s.i, s.q / 256, s.es, s.cs⟩
    | none => .out (.bad 1)
  | j + 1 => match s.T.get j with
    | some o => .go ⟨s.c, s.κ, s.d, k o, s.T, s.m, s.i, s.q / 256, (a, adr V j) :: s.es, s.cs⟩
    | none => .out (.bad 2)
noncomputable def RO.es : RO → List (Nat × Nat)
  | .fin _ s => s.es
  | .call _ _ s => s.es
  | .again _ s => s.es
  | .bad _ => []
noncomputable def RO.cs : RO → List Prop
  | .fin _ s => s.cs
  | .call _ _ s => s.cs
  | .again _ s => s.cs
  | .bad _ => []
structure Rep (V : RV) (h₀ h : Heap) (T : BT) (m : Nat) : Prop where
  size : h.objs.size = V.B + m
  own : ∀ j o, T.get j = some o → j < V.p + m ∧ h.get? (adr V j) = some o
  keep : ∀ b o, h₀.get? b = some o → b ∉ V.ps → h.get? b = some o
structure RV.Ok (V : RV) (w : World) (h₀ : Heap) : Prop where
  par : V.P = w.params
  size : h₀.objs.size = V.B
  plen : V.ps.length = V.p
  nodup : V.ps.Nodup
  lt : ∀ a ∈ V.ps, a < V.B
  top : ∀ a o, V.top a = some o → h₀.get? a = some o ∧ a ∉ V.ps
theorem nthA_is : ∀ (l : List Nat) (j : Nat), nthA l j = l[j]?
  | [], j => by simp [nthA]
  | a :: l, 0 => by simp [nthA]
  | a :: l, j + 1 => by simp [nthA, nthA_is l j]
section
variable {V : RV} {w : World} {h₀ h : Heap} {T : BT} {m : Nat}
theorem adr_low (O : V.Ok w h₀) {j : Nat} (hj : j < V.p) : adr V j ∈ V.ps := by
  unfold adr
  rw [nthA_is]
  have : j < V.ps.length := by rw [O.plen]; exact hj
  rw [List.getElem?_eq_getElem this]
  exact List.getElem_mem this
theorem adr_high (O : V.Ok w h₀) {j : Nat} (hj : V.p ≤ j) : adr V j = V.B + (j - V.p) := by
  unfold adr
  rw [nthA_is, List.getElem?_eq_none (by rw [O.plen]; exact hj)]
theorem adr_inj (O : V.Ok w h₀) {i j : Nat} (e : adr V i = adr V j) : i = j := by
  rcases Nat.lt_or_ge i V.p with hi | hi
  · rcases Nat.lt_or_ge j V.p with hj | hj
    · unfold adr at e
      rw [nthA_is, nthA_is] at e
      have li : i < V.ps.length := by rw [O.plen]; exact hi
      have lj : j < V.ps.length := by rw [O.plen]; exact hj
      rw [List.getElem?_eq_getElem li, List.getElem?_eq_getElem lj] at e
      exact (List.getElem_inj O.nodup).mp e
    · have := O.lt _ (adr_low O hi)
      rw [e, adr_high O hj] at this
      (first | lia | omega)
  · rcases Nat.lt_or_ge j V.p with hj | hj
    · have := O.lt _ (adr_low O hj)
      rw [← e, adr_high O hi] at this
      (first | lia | omega)
    · rw [adr_high O hi, adr_high O hj] at e
      (first | lia | omega)
theorem Rep.alloc (O : V.Ok w h₀) (D : Rep V h₀ h T m) {o : Obj} (hf : o.isFreed = false) (hg : ((T.ins (V.p + m) o).get (V.p + m)).isSome = true) : Rep V h₀ (h.push o) (T.ins (V.p + m) o) (m + 1) := by
  refine ⟨by rw [Heap.size_push, D.size, Nat.add_assoc], fun i o' e => ?_, fun b o' e q => Heap.get?_push_of_some _ (D.keep b o' e q)⟩
  rw [BT.get_ins o T _ hg] at e
  by_cases hi : i = V.p + m
  · subst hi
    rw [if_pos rfl] at e
    cases e
    refine ⟨by (first | lia | omega), ?_⟩
    have : adr V (V.p + m) = h.objs.size := by rw [adr_high O (Nat.le_add_right ..), D.size, Nat.add_sub_cancel_left]
    rw [this]; exact Heap.get?_push_size _ hf
  · rw [if_neg hi] at e
    have z := D.own i o' e
    exact ⟨by (first | lia | omega), Heap.get?_push_of_some _ z.2⟩
theorem Rep.update (O : V.Ok w h₀) (D : Rep V h₀ h T m) {j : Nat} {o : Obj} {f : Obj → Obj} (e : T.get j = some o) (hf : (f o).isFreed = false) : Rep V h₀ (h.update (adr V j) f) (T.set j f) m := by
  have z := D.own _ _ e
  have hs : Heap.SameBut (adr V j) h (h.update (adr V j) f) := Heap.SameBut.update ..
  refine ⟨by rw [hs.1, D.size], fun i o' e' => ?_, fun b o' e' q => ?_⟩
  · rw [BT.get_set] at e'
    by_cases hi : i = j
    · subst hi
      rw [if_pos rfl, e] at e'
      cases e'
      exact ⟨z.1, by first | exact Heap.get?_update_self f z.2 hf | exact Heap.get?_update_self _ z.2 hf⟩
    · rw [if_neg hi] at e'
      have y := D.own i o' e'
      exact ⟨y.1, (hs.2 _ fun x => hi (adr_inj O x)).trans y.2⟩
  · refine (hs.2 b fun x => ?_).trans (D.keep b o' e' q)
    subst x
    rcases Nat.lt_or_ge j V.p with hj | hj
    · exact q (adr_low O hj)
    · have h1 : adr V j < V.B := O.size ▸ Heap.lt_size e'
      have h2 := adr_high O hj
      exact absurd h1 (by rw [h2]; exact Nat.not_lt.mpr (Nat.le_add_right ..))
theorem Rep.top (O : V.Ok w h₀) (D : Rep V h₀ h T m) {a : Nat} {o : Obj} (e : V.top a = some o) : h.get? a = some o := D.keep a o (O.top a o e).1 (O.top a o e).2
end
noncomputable def RK.aro (A₀ : Around) : RK → Around
  | .base => A₀
  | .ret c _ κ => (κ.aro A₀).under c
noncomputable def RK.fin (prog : Program) (w : World) (A₀ : Around) (R₀ : Result → Shared → Prop) : RK → Result → Shared → Prop
  | .base => R₀
  | .ret c k κ => postR prog w (κ.aro A₀) c (postC prog w (κ.aro A₀) (κ.fin prog w A₀ R₀)) (postE (κ.fin prog w A₀ R₀)) k
noncomputable def RK.wf : RK → Nat → Prop
  | .base, d => d = 0
  | .ret c _ κ, d => c.weight ≤ 5 ∧ c.cUnits ≤ 10 ∧ ∃ e, d = e + 1 ∧ κ.wf e
noncomputable def Goal (prog : Program) (w : World) (A₀ : Around) (R₀ : Result → Shared → Prop) (κ : RK) (c : Code) (t : Sem PySem.Fin) (s : Shared) : Prop :=
  wpOwn (model prog w) (κ.aro A₀) c t (postC prog w (κ.aro A₀) (κ.fin prog w A₀ R₀)) (postE (κ.fin prog w A₀ R₀)) s
structure ARoom (A₀ : Around) : Prop where
  depth : A₀.depth ≤ 600
  units : A₀.units ≤ 4000
  handled : A₀.handled = none
theorem RK.bounds {A₀ : Around} : ∀ {κ : RK} {d : Nat}, κ.wf d → (κ.aro A₀).depth ≤ A₀.depth + 5 * d ∧ (κ.aro A₀).units ≤ A₀.units + 10 * d ∧ (κ.aro A₀).handled = A₀.handled
  | .base, d, h => by cases h; exact ⟨Nat.le_refl _, Nat.le_refl _, rfl⟩
  | .ret c k κ, d, h => by
    obtain ⟨h1, h2, e, rfl, hw⟩ := h
    obtain ⟨x, y, z⟩ := RK.bounds (A₀ := A₀) hw
    exact ⟨by show (κ.aro A₀).depth + c.weight ≤ _; (first | lia | omega), by show (κ.aro A₀).units + c.cUnits ≤ _; (first | lia | omega), z⟩
theorem ok_weight {c : Code} (h : okCode c = true) : c.weight ≤ 5 ∧ c.cUnits ≤ 10 := by
  have hk : c.isCaller = false := by
    cases hq : c.isCaller with
    | false => rfl
    | true =>
      unfold Code.isCaller at hq
      split at hq
      · rename_i args
        exfalso
        have : okCode (.builtin "claim.caller" args) = false := by
          show (!Nat.beq (S.codeS "claim.caller") callerCode) = false
          rw [← S.code_S]; decide +kernel
        rw [this] at h; cases h
      · cases hq
  have hf : c.frames ≤ 3 := by
    unfold Code.frames
    split <;> first | decide | (split <;> decide)
  constructor
  · unfold Code.weight
    rw [hk]
    split <;> split <;> simp <;> (first | lia | omega)
  · unfold Code.cUnits
    split <;> (first | lia | omega)
noncomputable def SmOk (V : RV) (w : World) (h₀ : Heap) : Prop := ∀ (n : Nat) (c' : Code) (T : BT) (m i q : Nat) (r : SmR) (h : Heap) (g : Array GenState) (d : Drawn) (os : OsState) (A : Around) (Q : Result → Shared → Prop), V.sm n c' T m i q = some r → (∀ e ∈ r.es, e.1 = e.2) → (∀ x ∈ r.cs, x) → Rep V h₀ h T m → A.units ≤ 5000 →
  (∀ h', Rep V h₀ h' r.T r.m → Q (.ok (.ret r.v)) ⟨h', g, d, V.t₀ + r.i, os⟩) → ∀ (Γ : Ctx) (p : Pos), Γ.In A → wpCode (model V.prog w) (Γ.enter c' none p) Q p ⟨h, g, d, V.t₀ + i, os⟩
structure Inv (s : RS) : Prop where
  wf : s.κ.wf s.d
  wt : s.c.weight ≤ 5
  cu : s.c.cUnits ≤ 10
  dl : s.d ≤ 61
/-- the call of a code from within A -/
noncomputable def CallsTo (M : Model) (A : Around) (c' : Code) (Q : Result → Shared → Prop) (s : Shared) : Prop := ∀ (Γ : Ctx) (p : Pos), Γ.In A → wpCode M (Γ.enter c' none p) Q p s
theorem callsTo {M : Model} {A : Around} {c' : Code} {Q : Result → Shared → Prop} {s : Shared} (x : codeAny M A c' Q s) : CallsTo M A c' Q s := fun _ p hΓ => x _ p rfl (hΓ.enter c' none p (by intro z; cases z))
theorem CallsTo.mono {M : Model} {A : Around} {c' : Code} {Q Q' : Result → Shared → Prop} {s : Shared} (x : CallsTo M A c' Q s) (h : ∀ r s', Q r s' → Q' r s') : CallsTo M A c' Q' s := fun Γ p hΓ => wpCode_mono (fun r s' q => h r s' q) (x Γ p hΓ)
noncomputable def OutOk (V : RV) (w : World) (h₀ : Heap) (A₀ : Around) (R₀ : Result → Shared → Prop) (g : Array GenState) (dr : Drawn) (os : OsState) : RO → Prop
  | .fin r s => ∀ h, Rep V h₀ h s.T s.m → R₀ r ⟨h, g, dr, V.t₀ + s.i, os⟩
  | .call c' k s => ∀ h, Rep V h₀ h s.T s.m → Inv s → CallsTo (model V.prog w) ((s.κ.aro A₀).under s.c) c' (RK.fin V.prog w A₀ R₀ (.ret s.c k s.κ)) ⟨h, g, dr, V.t₀ + s.i, os⟩
  | .again c' s => ∀ h, Rep V h₀ h s.T s.m → Inv s → codeAny (model V.prog w) (s.κ.aro A₀) c' (RK.fin V.prog w A₀ R₀ s.κ) ⟨h, g, dr, V.t₀ + s.i, os⟩
  | .bad _ => False

/-! the same step, laid out for the kernel: one small constant a branch -/
noncomputable def qPure (s : RS) (fin : PySem.Fin) : SR := match fin with
  | .done f => retS s.κ (.ok f) s
  | .again c' => match ZFast.zw17772548960776305114 c' with
    | true => match okCode c' with
      | true => match s.q % 256 with
        | 0 => .go ⟨c', s.κ, s.d, denZ c', s.T, s.m, s.i, s.q / 256, s.es, s.cs⟩
        | _ + 1 => .out (.again c' ⟨s.c, s.κ, s.d, s.t, s.T, s.m, s.i, s.q / 256, s.es, s.cs⟩)
      | false => .out (.bad 3)
    | false => .out (.bad 4)
noncomputable def qK (s : RS) (t : Sem PySem.Fin) : SR := .go ⟨s.c, s.κ, s.d, t, s.T, s.m, s.i, s.q, s.es, s.cs⟩
noncomputable def qAlloc (V : RV) (s : RS) (o : Obj) (k : Addr → Sem PySem.Fin) : SR := match o.isFreed with
  | true => .out (.bad 5)
  | false => match (s.T.ins (V.p + s.m) o).get (V.p + s.m) with
    | some _ => .go ⟨s.c, s.κ, s.d, k (V.B + s.m), s.T.ins (V.p + s.m) o, s.m + 1, s.i, s.q, s.es, s.cs⟩
    | none => .out (.bad 6)
noncomputable def qUpd (V : RV) (s : RS) (a : Addr) (f : Obj → Obj) (k : Unit → Sem PySem.Fin) : SR := match s.T.get (s.q % 256) with
  | some o => match (f o).isFreed with
    | true => .out (.bad 7)
    | false => .go ⟨s.c, s.κ, s.d, k (), s.T.set (s.q % 256) f, s.m, s.i, s.q / 256, (a, adr V (s.q % 256)) :: s.es, s.cs⟩
  | none => .out (.bad 8)
noncomputable def qFresh (V : RV) (s : RS) (k : Tok → Sem PySem.Fin) : SR := .go ⟨s.c, s.κ, s.d, k (V.t₀ + s.i), s.T, s.m, s.i + 1, s.q, s.es, s.cs⟩
noncomputable def qHand (s : RS) (own : Bool) (k : Option Value → Sem PySem.Fin) : SR := match own with
  | false => .go ⟨s.c, s.κ, s.d, k none, s.T, s.m, s.i, s.q, s.es, s.cs⟩
  | true => .out (.bad 9)
noncomputable def qCall0 (s : RS) (c' : Code) (k : Result → Sem PySem.Fin) : SR := match okCode c' with
  | true => match Nat.ble s.d 60 with
    | true => .go ⟨c', .ret s.c k s.κ, s.d + 1, denZ c', s.T, s.m, s.i, s.q / 256, s.es, s.cs⟩
    | false => .out (.bad 11)
  | false => .out (.bad 12)
noncomputable def qCall2 (V : RV) (s : RS) (n : Nat) (c' : Code) (k : Result → Sem PySem.Fin) : SR := match V.sm n c' s.T s.m s.i (s.q / 256) with
  | some r => .go ⟨s.c, s.κ, s.d, k (.ok (.ret r.v)), r.T, r.m, r.i, r.q, r.es ++ s.es, r.cs ++ s.cs⟩
  | none => .out (.bad 13)
noncomputable def qCall (V : RV) (s : RS) (c' : Code) (hd : Option Value) (k : Result → Sem PySem.Fin) : SR := match hd with
  | some _ => .out (.bad 10)
  | none => match s.q % 256 with
    | 0 => qCall0 s c' k
    | 1 => .out (.call c' k ⟨s.c, s.κ, s.d, s.t, s.T, s.m, s.i, s.q / 256, s.es, s.cs⟩)
    | n + 2 => qCall2 V s n c' k
noncomputable def qBad : SR := .out (.bad 14)
noncomputable def stepQ (V : RV) (s : RS) : SR := Sem.rec (motive := fun _ => SR)
  (pure := fun fin => qPure s fin)
  (raise := fun e => retS s.κ (.error e) s)
  (unsupported := fun _ => qBad)
  (finish := fun _ => qBad)
  (rule := fun _ k _ => qK s (k ()))
  («at» := fun _ k _ => qK s (k ()))
  (load := fun a _ k _ => loadS V a s k)
  (update := fun a _ f k _ => qUpd V s a f k)
  (alloc := fun o k _ => qAlloc V s o k)
  (loadIfAlive := fun a k _ => loadS V a s fun o => k (some o))
  (point := fun _ k _ => qK s (k ()))
  (register := fun _ _ _ => qBad)
  (fresh := fun k _ => qFresh V s k)
  (ask := fun k _ => qK s (k ⟨V.prog, V.P⟩))
  (choose := fun _ _ _ _ => qBad)
  (os := fun _ _ _ _ => qBad)
  (call := fun c' hd _ _ k _ => qCall V s c' hd k)
  (handled := fun own k _ => qHand s own k)
  (newGen := fun _ _ _ => qBad)
  (genState := fun _ _ _ => qBad)
  (resume := fun _ _ _ _ _ => qBad)
  (yield := fun _ _ _ _ _ => qBad)
  (stack := fun _ _ => qBad)
  (fork := fun _ _ _ => qBad)
  (thread := fun _ _ => qBad)
  (await := fun _ _ _ _ _ _ => qBad)
  s.t
noncomputable def runQ (V : RV) (n : Nat) : RS → RO := Nat.rec (motive := fun _ => RS → RO) (fun _ => .bad 0) (fun _ ih s => SR.rec (motive := fun _ => RO) (fun s' => ih s') (fun o => o) (stepQ V s)) n
theorem quietZ_is : @Code.quiet = ZFast.zw17772548960776305114 := ZFast.ze17772548960776305114
section
variable {V : RV} {w : World} {h₀ : Heap} {A₀ : Around} {R₀ : Result → Shared → Prop} {g : Array GenState} {dr : Drawn} {os : OsState}
theorem goal_den (a : ARoom A₀) {κ : RK} {c : Code} {d : Nat} {s : Shared} (hw : κ.wf d) (hd : d ≤ 61) (hc : c.weight ≤ 5) (x : Goal V.prog w A₀ R₀ κ c (denZ c) s) : Goal V.prog w A₀ R₀ κ c (denote table c) s := by
  intro Γ p hΓc hΓ
  have b := (RK.bounds (A₀ := A₀) hw).1
  have b' := a.depth
  refine denZ_sound c (fun p => ?_) (x Γ p hΓc hΓ)
  rw [frameCount_cons, hΓc]
  have := hΓ.2.1
  show _ < 1000
  (first | lia | omega)
structure Went (V : RV) (w : World) (h₀ : Heap) (A₀ : Around) (R₀ : Result → Shared → Prop) (g : Array GenState) (dr : Drawn) (os : OsState) (s s' : RS) : Prop where
  inv : Inv s'
  es : ∀ e ∈ s.es, e ∈ s'.es
  cs : ∀ e ∈ s.cs, e ∈ s'.cs
  ok : (∀ e ∈ s'.es, e.1 = e.2) → (∀ x ∈ s'.cs, x) → ∀ h, Rep V h₀ h s.T s.m → (∀ h', Rep V h₀ h' s'.T s'.m → Goal V.prog w A₀ R₀ s'.κ s'.c s'.t ⟨h', g, dr, V.t₀ + s'.i, os⟩) → Goal V.prog w A₀ R₀ s.κ s.c s.t ⟨h, g, dr, V.t₀ + s.i, os⟩
/-- what a step has to give -/
noncomputable def Sound (V : RV) (w : World) (h₀ : Heap) (A₀ : Around) (R₀ : Result → Shared → Prop) (g : Array GenState) (dr : Drawn) (os : OsState) (s : RS) : SR → Prop
  | .go s' => Went V w h₀ A₀ R₀ g dr os s s'
  | .out o => OutOk V w h₀ A₀ R₀ g dr os o → (∀ y ∈ s.es, y ∈ o.es) ∧ (∀ y ∈ s.cs, y ∈ o.cs) ∧ ∀ h, Rep V h₀ h s.T s.m → Goal V.prog w A₀ R₀ s.κ s.c s.t ⟨h, g, dr, V.t₀ + s.i, os⟩
noncomputable abbrev Back (V : RV) (w : World) (A₀ : Around) (R₀ : Result → Shared → Prop) (s : RS) (t : Sem PySem.Fin) : Prop := ∀ st, Goal V.prog w A₀ R₀ s.κ s.c t st → Goal V.prog w A₀ R₀ s.κ s.c s.t st
variable {s : RS}
theorem snd_bad {n : Nat} : Sound V w h₀ A₀ R₀ g dr os s (.out (.bad n)) := fun x => x.elim
theorem snd_k (I : Inv s) {t : Sem PySem.Fin} (hk : Back V w A₀ R₀ s t) : Sound V w h₀ A₀ R₀ g dr os s (qK s t) :=
  ⟨⟨I.wf, I.wt, I.cu, I.dl⟩, fun _ x => x, fun _ x => x, fun _ _ h D x => hk _ (x h D)⟩
theorem snd_ret (I : Inv s) {r : Result} (hb : Back V w A₀ R₀ s (leafOf r)) : Sound V w h₀ A₀ R₀ g dr os s (retS s.κ r s) := by
  obtain ⟨c, κ, d, t, T, m, i, q, es, cs⟩ := s
  have hl : ∀ st, (RK.fin V.prog w A₀ R₀ κ) r st → Goal V.prog w A₀ R₀ κ c t st := fun st key => hb st (by
    cases r with
    | ok f => exact y_pure _ _ _ _ _ _ _ _ _ (y_done _ _ _ _ _ _ key)
    | error v => exact y_raise _ _ _ _ _ _ _ _ _ (y_err _ _ _ key))
  clear hb
  cases κ with
  | base => exact fun x => ⟨fun _ x => x, fun _ x => x, fun h D => hl _ (x h D)⟩
  | ret c₁ k κ =>
    obtain ⟨h1, h2, d', hd, hw⟩ := I.wf
    refine ⟨⟨?_, h1, h2, Nat.le_trans (Nat.sub_le _ _) I.dl⟩, fun _ x => x, fun _ x => x, fun _ _ h D x => hl _ (x h D)⟩
    have hd : d = d' + 1 := hd
    subst hd
    exact hw
theorem snd_load (O : V.Ok w h₀) (I : Inv s) {a : Nat} {k : Obj → Sem PySem.Fin} (ht : ∀ h o, h.get? a = some o → Goal V.prog w A₀ R₀ s.κ s.c (k o) ⟨h, g, dr, V.t₀ + s.i, os⟩ → Goal V.prog w A₀ R₀ s.κ s.c s.t ⟨h, g, dr, V.t₀ + s.i, os⟩) : Sound V w h₀ A₀ R₀ g dr os s (loadS V a s k) := by
  unfold loadS
  cases s.q % 256 with
  | zero =>
    show Sound V w h₀ A₀ R₀ g dr os s (match V.top a with | some o => .go ⟨s.c, s.κ, s.d, k o, s.T, s.m, s.i, s.q / 256, s.es, s.cs⟩ | none => .out (.bad 1))
    cases ho : V.top a with
    | none => exact snd_bad
    | some o => exact ⟨⟨I.wf, I.wt, I.cu, I.dl⟩, fun _ x => x, fun _ x => x, fun _ _ h D x => ht h o (D.top O ho) (x h D)⟩
  | succ j =>
    show Sound V w h₀ A₀ R₀ g dr os s (match s.T.get j with | some o => .go ⟨s.c, s.κ, s.d, k o, s.T, s.m, s.i, s.q / 256, (a, adr V j) :: s.es, s.cs⟩ | none => .out (.bad 2))
    cases ho : s.T.get j with
    | none => exact snd_bad
    | some o => exact ⟨⟨I.wf, I.wt, I.cu, I.dl⟩, fun _ x => .tail _ x, fun _ x => x, fun he _ h D x => ht h o (have q : a = adr V j := he _ (.head _); q ▸ (D.own _ _ ho).2) (x h D)⟩
theorem snd_pure (a : ARoom A₀) (I : Inv s) {fin : PySem.Fin} (ht : s.t = .pure fin) : Sound V w h₀ A₀ R₀ g dr os s (qPure s fin) := by
  cases fin with
  | done f => exact snd_ret I (r := .ok f) fun st x => ht ▸ x
  | again c' =>
    show Sound V w h₀ A₀ R₀ g dr os s (match ZFast.zw17772548960776305114 c' with | true => _ | false => _)
    cases hq : ZFast.zw17772548960776305114 c' with
    | false => exact snd_bad
    | true =>
      have hqq : c'.quiet = true := by rw [show @Code.quiet = _ from quietZ_is]; exact hq
      show Sound V w h₀ A₀ R₀ g dr os s (match okCode c' with | true => _ | false => _)
      cases hk : okCode c' with
      | false => exact snd_bad
      | true =>
        show Sound V w h₀ A₀ R₀ g dr os s (match s.q % 256 with | 0 => _ | _ + 1 => _)
        cases s.q % 256 with
        | zero =>
          have ow := ok_weight hk
          refine ⟨⟨I.wf, ow.1, ow.2, I.dl⟩, fun _ x => x, fun _ x => x, fun _ _ h D x => ?_⟩
          rw [ht]
          exact y_pure _ _ _ _ _ _ _ _ _ (y_again _ _ _ _ _ _ hqq (y_code _ _ _ _ _ _ (goal_den a I.wf I.dl ow.1 (x h D))))
        | succ _ =>
          refine fun x => ⟨fun _ x => x, fun _ x => x, fun h D => ?_⟩
          rw [ht]
          exact y_pure _ _ _ _ _ _ _ _ _ (y_again _ _ _ _ _ _ hqq (x h D ⟨I.wf, I.wt, I.cu, I.dl⟩))
theorem snd_alloc (O : V.Ok w h₀) (I : Inv s) {o : Obj} {k : Addr → Sem PySem.Fin} (ht : s.t = .alloc o k) : Sound V w h₀ A₀ R₀ g dr os s (qAlloc V s o k) := by
  unfold qAlloc
  cases hf : o.isFreed with
  | true => exact snd_bad
  | false =>
    show Sound V w h₀ A₀ R₀ g dr os s (match (s.T.ins (V.p + s.m) o).get (V.p + s.m) with | some _ => _ | none => _)
    cases ho : (s.T.ins (V.p + s.m) o).get (V.p + s.m) with
    | none => exact snd_bad
    | some o' =>
      refine ⟨⟨I.wf, I.wt, I.cu, I.dl⟩, fun _ x => x, fun _ x => x, fun _ _ h D x => ?_⟩
      have ea : h.objs.size = V.B + s.m := D.size
      rw [ht]
      exact wpOwn_bind (m := alloc o) (f := k) (wpOwn_of_wpAny (wpAny_alloc (by rw [ea]; exact x _ (D.alloc O hf (by rw [ho]; rfl)))))
theorem snd_fresh (I : Inv s) {k : Tok → Sem PySem.Fin} (ht : s.t = .fresh k) : Sound V w h₀ A₀ R₀ g dr os s (qFresh V s k) :=
  ⟨⟨I.wf, I.wt, I.cu, I.dl⟩, fun _ x => x, fun _ x => x, fun _ _ h D x => by rw [ht]; exact y_fresh _ _ _ _ _ _ _ _ _ _ _ _ _ (x h D)⟩
theorem snd_upd (O : V.Ok w h₀) (I : Inv s) {b : Addr} {part : Option Value} {f : Obj → Obj} {k : Unit → Sem PySem.Fin} (ht : s.t = .update b part f k) : Sound V w h₀ A₀ R₀ g dr os s (qUpd V s b f k) := by
  unfold qUpd
  cases ho : s.T.get (s.q % 256) with
  | none => exact snd_bad
  | some o =>
    show Sound V w h₀ A₀ R₀ g dr os s (match (f o).isFreed with | true => _ | false => _)
    cases hf : (f o).isFreed with
    | true => exact snd_bad
    | false =>
      refine ⟨⟨I.wf, I.wt, I.cu, I.dl⟩, fun _ x => .tail _ x, fun _ x => x, fun he _ h D x => ?_⟩
      have hb : b = adr V (s.q % 256) := he _ (.head _)
      rw [ht, hb]
      exact wpOwn_bind (m := updatePart _ part f) (f := k) (wpOwn_of_wpAny (wpAny_updatePart (D.own _ _ ho).2 (x _ (D.update O ho hf))))
theorem snd_call (SM : SmOk V w h₀) (a : ARoom A₀) (I : Inv s) {c' : Code} {hd : Option Value} {gd : Bool} {l : _} {k : Result → Sem PySem.Fin} (ht : s.t = .call c' hd gd l k) : Sound V w h₀ A₀ R₀ g dr os s (qCall V s c' hd k) := by
  cases hd with
  | some v => exact snd_bad
  | none =>
    show Sound V w h₀ A₀ R₀ g dr os s (match s.q % 256 with | 0 => qCall0 s c' k | 1 => .out (.call c' k ⟨s.c, s.κ, s.d, s.t, s.T, s.m, s.i, s.q / 256, s.es, s.cs⟩) | n + 2 => qCall2 V s n c' k)
    cases s.q % 256 with
    | zero =>
      show Sound V w h₀ A₀ R₀ g dr os s (match okCode c' with | true => _ | false => _)
      cases hk : okCode c' with
      | false => exact snd_bad
      | true =>
        show Sound V w h₀ A₀ R₀ g dr os s (match Nat.ble s.d 60 with | true => _ | false => _)
        cases hb : Nat.ble s.d 60 with
        | false => exact snd_bad
        | true =>
          have ow := ok_weight hk
          have hd : s.d ≤ 60 := Nat.le_of_ble_eq_true hb
          refine ⟨⟨⟨I.wt, I.cu, s.d, rfl, I.wf⟩, ow.1, ow.2, Nat.succ_le_succ hd⟩, fun _ x => x, fun _ x => x, fun _ _ h D x => ?_⟩
          rw [ht]
          exact y_call _ _ _ _ _ _ _ _ _ _ _ _ _ (by intro z; cases z) (y_code _ _ _ _ _ _ (goal_den (κ := .ret s.c k s.κ) a ⟨I.wt, I.cu, s.d, rfl, I.wf⟩ (Nat.succ_le_succ hd) ow.1 (x h D)))
    | succ n =>
      cases n with
      | zero =>
        refine fun x => ⟨fun _ x => x, fun _ x => x, fun h D => ?_⟩
        rw [ht]
        intro Γ p hΓc hΓ
        rw [Sem.wp_call]
        exact wpCode_mono (fun _ _ q => q Γ p hΓc hΓ) (x h D ⟨I.wf, I.wt, I.cu, I.dl⟩ Γ p (by have z := hΓ.in; rw [hΓc] at z; exact z))
      | succ n =>
        show Sound V w h₀ A₀ R₀ g dr os s (match V.sm n c' s.T s.m s.i (s.q / 256) with | some _ => _ | none => _)
        cases hr : V.sm n c' s.T s.m s.i (s.q / 256) with
        | none => exact snd_bad
        | some r =>
          refine ⟨⟨I.wf, I.wt, I.cu, I.dl⟩, fun _ x => List.mem_append_right _ x, fun _ x => List.mem_append_right _ x, fun he hc h D x => ?_⟩
          rw [ht]
          intro Γ p hΓc hΓ
          rw [Sem.wp_call]
          have bb := RK.bounds (A₀ := A₀) I.wf
          refine SM _ _ _ _ _ _ _ _ _ _ _ ((s.κ.aro A₀).under s.c) _ hr (fun y hy => he y (List.mem_append_left _ hy)) (fun y hy => hc y (List.mem_append_left _ hy)) D ?_ (fun h' D' => x h' D' Γ p hΓc hΓ) Γ p (by have z := hΓ.in; rw [hΓc] at z; exact z)
          show (s.κ.aro A₀).units + s.c.cUnits ≤ 5000
          have b2 : (s.κ.aro A₀).units ≤ A₀.units + 10 * s.d := bb.2.1
          have b5 := a.units
          have b3 : s.d ≤ 61 := I.dl
          have b4 : s.c.cUnits ≤ 10 := I.cu
          (first | lia | omega)
theorem step_snd (O : V.Ok w h₀) (SM : SmOk V w h₀) (a : ARoom A₀) (s : RS) (I : Inv s) : Sound V w h₀ A₀ R₀ g dr os s (stepQ V s) := by
  obtain ⟨c, κ, d, t, T, m, i, q, es, cs⟩ := s
  cases t with
  | pure fin => exact snd_pure a I rfl
  | raise v => exact snd_ret I (r := .error v) fun _ x => x
  | rule tag k => exact snd_k I fun _ x => y_skim _ _ _ _ _ _ _ _ _ 1 x
  | «at» p k => exact snd_k I fun _ x => y_skim _ _ _ _ _ _ _ _ _ 1 x
  | point l k => exact snd_k I fun _ x => y_skim _ _ _ _ _ _ _ _ _ 1 x
  | ask k => exact snd_k I fun _ x => y_skim _ _ _ _ _ _ _ _ _ 1 (O.par ▸ x)
  | load b part k => exact snd_load O I fun h o ho x => y_load _ _ _ _ _ _ _ _ _ _ _ _ _ _ _ _ ho x
  | loadIfAlive b k => exact snd_load (k := fun o => k (some o)) O I fun h o ho x => y_alive _ _ _ _ _ _ _ _ _ _ _ _ _ _ _ ho x
  | alloc o k => exact snd_alloc O I rfl
  | update b part f k => exact snd_upd O I rfl
  | fresh k => exact snd_fresh I rfl
  | handled own k =>
    cases own with
    | true => exact snd_bad
    | false => exact snd_k I fun _ x => y_handled _ _ _ _ _ _ _ _ _ (by rw [(RK.bounds I.wf).2.2, a.handled]; exact x)
  | call c' hd gd l k => exact snd_call SM a I rfl
  | _ => exact snd_bad
theorem run_sound (O : V.Ok w h₀) (SM : SmOk V w h₀) (a : ARoom A₀) (n : Nat) : ∀ (s : RS), Inv s → OutOk V w h₀ A₀ R₀ g dr os (runQ V n s) → (∀ y ∈ s.es, y ∈ (runQ V n s).es) ∧ (∀ y ∈ s.cs, y ∈ (runQ V n s).cs) ∧ ((∀ y ∈ (runQ V n s).es, y.1 = y.2) → (∀ y ∈ (runQ V n s).cs, y) → ∀ h, Rep V h₀ h s.T s.m → Goal V.prog w A₀ R₀ s.κ s.c s.t ⟨h, g, dr, V.t₀ + s.i, os⟩) := by
  induction n with
  | zero => exact fun _ _ x => x.elim
  | succ n ih =>
    intro s I
    have W := step_snd (A₀ := A₀) (R₀ := R₀) (g := g) (dr := dr) (os := os) O SM a s I
    show OutOk V w h₀ A₀ R₀ g dr os (SR.rec (motive := fun _ => RO) (fun s' => runQ V n s') (fun o => o) (stepQ V s)) → _
    have hr : runQ V (n + 1) s = SR.rec (motive := fun _ => RO) (fun s' => runQ V n s') (fun o => o) (stepQ V s) := rfl
    rw [hr]
    generalize stepQ V s = r at W ⊢
    cases r with
    | go s' =>
      intro x
      have W : Went V w h₀ A₀ R₀ g dr os s s' := W
      have H := ih s' W.inv x
      exact ⟨fun y hy => H.1 y (W.es y hy), fun y hy => H.2.1 y (W.cs y hy), fun he hc h D => W.ok (fun y hy => he y (H.1 y hy)) (fun y hy => hc y (H.2.1 y hy)) h D fun h' D' => H.2.2 he hc h' D'⟩
    | out o =>
      intro x
      have H := W x
      exact ⟨H.1, H.2.1, fun _ _ h D => H.2.2 h D⟩
end

end
end Mine

end
section
open PySem PySem.W PySem.W.X PyProof.Rows
set_option maxRecDepth 100000
set_option Elab.async false
set_option maxHeartbeats 2000000
set_option genInjectivity false
set_option genSizeOfSpec false
namespace Mine
noncomputable section
theorem id_of {id x : String} {n : Nat} (h : Nat.beq (S.codeS id) n = true) (e : PySem.code x = n) : id = x := by
  apply PySem.code_inj
  rw [S.code_S, e]
  exact Nat.eq_of_beq_eq_true h
noncomputable def k_lt : Nat := 455126531311803185852266
theorem id_lt {id : String} (h : Nat.beq (S.codeS id) k_lt = true) : id = "int.__lt__" := id_of h (by decide +kernel)
noncomputable def k_gt : Nat := 455126529904428302298986
theorem id_gt {id : String} (h : Nat.beq (S.codeS id) k_gt = true) : id = "int.__gt__" := id_of h (by decide +kernel)
noncomputable def k_ge : Nat := 455125449040517733379946
theorem id_ge {id : String} (h : Nat.beq (S.codeS id) k_ge = true) : id = "int.__ge__" := id_of h (by decide +kernel)
noncomputable def k_eq : Nat := 455126313168696235093866
theorem id_eq {id : String} (h : Nat.beq (S.codeS id) k_eq = true) : id = "int.__eq__" := id_of h (by decide +kernel)
noncomputable def k_mul : Nat := 116512245094328231196454762
theorem id_mul {id : String} (h : Nat.beq (S.codeS id) k_mul = true) : id = "int.__mul__" := id_of h (by decide +kernel)
noncomputable def k_fdiv : Nat := 128106770130096871752080967664072486762
theorem id_fdiv {id : String} (h : Nat.beq (S.codeS id) k_fdiv = true) : id = "int.__floordiv__" := id_of h (by decide +kernel)
noncomputable def k_fmod : Nat := 116512097088030077292474218
theorem id_fmod {id : String} (h : Nat.beq (S.codeS id) k_fmod = true) : id = "int.__mod__" := id_of h (by decide +kernel)
noncomputable def k_rsh : Nat := 1954753560319954401256180983099242
theorem id_rsh {id : String} (h : Nat.beq (S.codeS id) k_rsh = true) : id = "int.__rshift__" := id_of h (by decide +kernel)
noncomputable def k_pow : Nat := 116512447577011902704086890
theorem id_pow {id : String} (h : Nat.beq (S.codeS id) k_pow = true) : id = "int.__pow__" := id_of h (by decide +kernel)
noncomputable def k_lnext : Nat := 36058839055461744822429329989390181918337346850548333
theorem id_lnext {id : String} (h : Nat.beq (S.codeS id) k_lnext = true) : id = "list_iterator.__next__" := id_of h (by decide +kernel)
noncomputable def k_append : Nat := 122627580202994350266018413
theorem id_append {id : String} (h : Nat.beq (S.codeS id) k_append = true) : id = "list.append" := id_of h (by decide +kernel)
noncomputable def k_len : Nat := 7300717
theorem id_len {id : String} (h : Nat.beq (S.codeS id) k_len = true) : id = "len" := id_of h (by decide +kernel)
noncomputable def k_lget : Nat := 128106587276438692081757506308484131437
theorem id_lget {id : String} (h : Nat.beq (S.codeS id) k_lget = true) : id = "list.__getitem__" := id_of h (by decide +kernel)
noncomputable def k_linsert : Nat := 141989282998378523895556717
theorem id_linsert {id : String} (h : Nat.beq (S.codeS id) k_linsert = true) : id = "list.insert" := id_of h (by decide +kernel)
noncomputable def k_riter : Nat := 1954752940192971970453299505619571
theorem id_riter {id : String} (h : Nat.beq (S.codeS id) k_riter = true) : id = "range.__iter__" := id_of h (by decide +kernel)
noncomputable def k_sadd : Nat := 116512096292018843154609524
theorem id_sadd {id : String} (h : Nat.beq (S.codeS id) k_sadd = true) : id = "str.__add__" := id_of h (by decide +kernel)
noncomputable def k_scount : Nat := 2166300787185074533748
theorem id_scount {id : String} (h : Nat.beq (S.codeS id) k_scount = true) : id = "str.count" := id_of h (by decide +kernel)
noncomputable def k_lpop : Nat := 8174157772325415533
theorem id_lpop {id : String} (h : Nat.beq (S.codeS id) k_lpop = true) : id = "list.pop" := id_of h (by decide +kernel)
noncomputable def k_lrev : Nat := 31708251359169610307576556141
theorem id_lrev {id : String} (h : Nat.beq (S.codeS id) k_lrev = true) : id = "list.reverse" := id_of h (by decide +kernel)
noncomputable def k_srepl : Nat := 123784485916095431283275124
theorem id_srepl {id : String} (h : Nat.beq (S.codeS id) k_srepl = true) : id = "str.replace" := id_of h (by decide +kernel)
noncomputable def t_list : Nat := 1970563693
theorem ty_list {id : String} (h : Nat.beq (S.codeS id) t_list = true) : id = "list" := id_of h (by decide +kernel)
noncomputable def t_listit : Nat := 9146042919481958196396663532141
theorem ty_listit {id : String} (h : Nat.beq (S.codeS id) t_listit = true) : id = "list_iterator" := id_of h (by decide +kernel)
noncomputable def t_range : Nat := 439838794355
theorem ty_range {id : String} (h : Nat.beq (S.codeS id) t_range = true) : id = "range" := id_of h (by decide +kernel)
/-! summaries of built-in calls upon letters -/
noncomputable def lsO (xs : List Value) (e : Nat) : Obj := { cls := .type "list", dict := none, data := .seq ⟨xs⟩ e, slots := #[] }
noncomputable def itO (l : Nat) (i : Int) (t : Nat) : Obj := { cls := .type "list_iterator", dict := none, data := .fields #[.ref l, .int i t], slots := #[] }
noncomputable def raO (a b c : Value) : Obj := { cls := .type "range", dict := none, data := .fields #[a, b, c], slots := #[] }
noncomputable def riO (a n c : Int) : Obj := { cls := .type "range_iterator", dict := none, data := .fields #[rawInt a, rawInt n, rawInt c], slots := #[] }
noncomputable def asSeq (k : Nat) (o : Obj) : Option (List Value × Nat) := match o with
  | ⟨.type cn, none, .seq ⟨xs⟩ e, ⟨[]⟩⟩ => match Nat.beq (S.codeS cn) k with
    | true => some (xs, e)
    | false => none
  | _ => none
noncomputable def asFields (k : Nat) (o : Obj) : Option (List Value) := match o with
  | ⟨.type cn, none, .fields ⟨xs⟩, ⟨[]⟩⟩ => match Nat.beq (S.codeS cn) k with
    | true => some xs
    | false => none
  | _ => none
theorem asSeq_eq {k : Nat} {o : Obj} {xs : List Value} {e : Nat} (h : asSeq k o = some (xs, e)) : ∃ cn, Nat.beq (S.codeS cn) k = true ∧ o = { cls := .type cn, dict := none, data := .seq ⟨xs⟩ e, slots := #[] } := by
  obtain ⟨c, d, dt, sl⟩ := o
  cases c with
  | type cn =>
    cases d with
    | some _ => cases h
    | none =>
      cases dt with
      | seq xs' e' =>
        obtain ⟨sl⟩ := sl
        cases sl with
        | cons _ _ => cases h
        | nil =>
          have h : (match Nat.beq (S.codeS cn) k with | true => some (xs'.toList, e') | false => none) = some (xs, e) := h
          cases hb : Nat.beq (S.codeS cn) k with
          | true => rw [hb] at h; cases h; exact ⟨_, hb, rfl⟩
          | false => rw [hb] at h; cases h
      | _ => cases h
  | _ => cases h
theorem asFields_eq {k : Nat} {o : Obj} {xs : List Value} (h : asFields k o = some xs) : ∃ cn, Nat.beq (S.codeS cn) k = true ∧ o = { cls := .type cn, dict := none, data := .fields ⟨xs⟩, slots := #[] } := by
  obtain ⟨c, d, dt, sl⟩ := o
  cases c with
  | type cn =>
    cases d with
    | some _ => cases h
    | none =>
      cases dt with
      | fields xs' =>
        obtain ⟨sl⟩ := sl
        cases sl with
        | cons _ _ => cases h
        | nil =>
          have h : (match Nat.beq (S.codeS cn) k with | true => some xs'.toList | false => none) = some xs := h
          cases hb : Nat.beq (S.codeS cn) k with
          | true => rw [hb] at h; cases h; exact ⟨_, hb, rfl⟩
          | false => rw [hb] at h; cases h
      | _ => cases h
  | _ => cases h
/-- an address and a number -/
noncomputable def pairRI : Option (List Value) → Option (Nat × Int × Nat)
  | none => none
  | some l => match l with
    | [] => none
    | v :: l => match l with
      | [] => none
      | u :: l => match l with
        | _ :: _ => none
        | [] => match v with
          | .ref a => match u with
            | .int x t => some (a, x, t)
            | _ => none
          | _ => none
theorem pairRI_eq {o : Option (List Value)} {a : Nat} {x : Int} {t : Nat} (h : pairRI o = some (a, x, t)) : o = some [.ref a, .int x t] := by
  cases o with
  | none => cases h
  | some l =>
    cases l with
    | nil => cases h
    | cons v l =>
      cases l with
      | nil => cases h
      | cons u l =>
        cases l with
        | cons _ _ => cases h
        | nil =>
          cases v with
          | ref _ =>
            cases u with
            | int _ _ => cases h; rfl
            | _ => cases h
          | _ => cases h
noncomputable def isI (a : Int) (k : Nat) : Bool := match a with
  | .ofNat x => Nat.beq x k
  | .negSucc _ => false
theorem isI_eq {a : Int} {k : Nat} (h : isI a k = true) : a = Int.ofNat k := by
  cases a with
  | ofNat x => exact congrArg Int.ofNat (Nat.eq_of_beq_eq_true h)
  | negSucc _ => cases h
noncomputable def rngV (v u z : Value) : Option (Int × Nat × Nat × Nat) := match v with
  | .int a t1 => match u with
    | .int n t2 => match z with
      | .int b t3 => match isI a 0 with
        | true => match isI b 1 with
          | true => some (n, t1, t2, t3)
          | false => none
        | false => none
      | _ => none
    | _ => none
  | _ => none
theorem rngV_eq {v u z : Value} {n : Int} {t1 t2 t3 : Nat} (h : rngV v u z = some (n, t1, t2, t3)) : v = .int 0 t1 ∧ u = .int n t2 ∧ z = .int 1 t3 := by
  cases v with
  | int a t1' =>
    cases u with
    | int n' t2' =>
      cases z with
      | int b t3' =>
        have h : (match isI a 0 with | true => (match isI b 1 with | true => some (n', t1', t2', t3') | false => none) | false => none) = some (n, t1, t2, t3) := h
        cases ha : isI a 0 with
        | false => rw [ha] at h; cases h
        | true =>
          cases hb : isI b 1 with
          | false => rw [ha, hb] at h; cases h
          | true =>
            rw [ha, hb] at h
            cases h
            rw [isI_eq ha, isI_eq hb]
            exact ⟨rfl, rfl, rfl⟩
      | _ => cases h
    | _ => cases h
  | _ => cases h
noncomputable def rngI : Option (List Value) → Option (Int × Nat × Nat × Nat)
  | none => none
  | some l => match l with
    | [] => none
    | v :: l => match l with
      | [] => none
      | u :: l => match l with
        | [] => none
        | z :: l => match l with
          | _ :: _ => none
          | [] => rngV v u z
theorem rngI_eq {o : Option (List Value)} {n : Int} {t1 t2 t3 : Nat} (h : rngI o = some (n, t1, t2, t3)) : o = some [.int 0 t1, .int n t2, .int 1 t3] := by
  cases o with
  | none => cases h
  | some l =>
    cases l with
    | nil => cases h
    | cons v l =>
      cases l with
      | nil => cases h
      | cons u l =>
        cases l with
        | nil => cases h
        | cons z l =>
          cases l with
          | cons _ _ => cases h
          | nil =>
            obtain ⟨rfl, rfl, rfl⟩ := rngV_eq h
            rfl
theorem asList_eq {o : Obj} {xs : List Value} {e : Nat} (h : asSeq t_list o = some (xs, e)) : o = lsO xs e := by
  obtain ⟨cn, hb, rfl⟩ := asSeq_eq h
  rw [ty_list hb]; rfl
noncomputable def cmpR (p : Prop) (T : BT) (m i q : Nat) : Option SmR := match q % 256 with
  | 0 => some ⟨.bool false, T, m, i, q / 256, [], [¬ p]⟩
  | _ + 1 => some ⟨.bool true, T, m, i, q / 256, [], [p]⟩
noncomputable def intR (t₀ : Nat) (z : Int) (T : BT) (m i q : Nat) (cs : List Prop) : Option SmR := some ⟨.int z (t₀ + i), T, m, i + 1, q, [], cs⟩
noncomputable def smCmp (k : Nat) (x y : Int) (T : BT) (m i q : Nat) : Option SmR := match Nat.beq k k_lt with
  | true => cmpR (x < y) T m i q
  | false => match Nat.beq k k_gt with
    | true => cmpR (x > y) T m i q
    | false => match Nat.beq k k_ge with
      | true => cmpR (x ≥ y) T m i q
      | false => match Nat.beq k k_eq with
        | true => cmpR (x = y) T m i q
        | false => none
noncomputable def smallI (x : Int) : Bool := Nat.ble x.natAbs 1000000
noncomputable def smAri (t₀ : Nat) (k : Nat) (x y : Int) (T : BT) (m i q : Nat) : Option SmR := match Nat.beq k k_mul with
  | true => match smallI x with
    | true => intR t₀ (x * y) T m i q []
    | false => none
  | false => match Nat.beq k k_fdiv with
    | true => match smallI y with
      | true => match Nat.beq y.natAbs 0 with
        | false => intR t₀ (Int.fdiv x y) T m i q []
        | true => none
      | false => none
    | false => match Nat.beq k k_fmod with
      | true => match Nat.beq y.natAbs 0 with
        | false => intR t₀ (Int.fmod x y) T m i q []
        | true => none
      | false => match Nat.beq k k_rsh with
        | true => match x, y with
          | .ofNat a, .ofNat b => match Nat.ble b 8 with
            | true => intR t₀ (.ofNat (a / 2 ^ b)) T m i q []
            | false => none
          | _, _ => none
        | false => match Nat.beq k k_pow with
          | true => match x, y with
            | .ofNat a, .ofNat b => match Nat.ble 2 a with
              | true => match Nat.ble a 10 with
                | true => match Nat.ble b 10 with
                  | true => intR t₀ (.ofNat (a ^ b)) T m i q []
                  | false => none
                | false => none
              | false => none
            | _, _ => none
          | false => none
noncomputable def smMul (t₀ : Nat) (k : Nat) (x y : Int) (T : BT) (m i q : Nat) : Option SmR := match Nat.beq k k_mul with
  | true => intR t₀ (x * y) T m i q [-(2 ^ 63) < x ∧ x < 2 ^ 63]
  | false => match Nat.beq k k_fdiv with
    | true => intR t₀ (Int.fdiv x y) T m i q [y ≠ 0 ∧ -(2 ^ 63) < y ∧ y < 2 ^ 63]
    | false => none
/-- the result is told: a digit -/
noncomputable def toldR (t₀ : Nat) (x y : Int) (n : Nat) (T : BT) (m i q : Nat) : Option SmR := intR t₀ (.ofNat n) T m i (q / 256) [Int.fmod x y = .ofNat n]
noncomputable def smTold (t₀ : Nat) (k : Nat) (x y : Int) (T : BT) (m i q : Nat) : Option SmR := match Nat.beq k k_fmod with
  | true => match Nat.beq y.natAbs 0 with
    | false => match Nat.beq (q % 256) 0 with
      | true => toldR t₀ x y 0 T m i q
      | false => match Nat.beq (q % 256) 1 with
        | true => toldR t₀ x y 1 T m i q
        | false => match Nat.beq (q % 256) 2 with
          | true => toldR t₀ x y 2 T m i q
          | false => toldR t₀ x y 3 T m i q
    | true => none
  | false => none
noncomputable def nthV : List Value → Nat → Option Value
  | [], _ => none
  | a :: _, 0 => some a
  | _ :: l, n + 1 => nthV l n
noncomputable def smNext (V : RV) (gv : List Value) (k : Nat) (a : Nat) (T : BT) (m i q : Nat) : Option SmR := match Nat.beq k k_lnext with
  | true => match T.get (q % 256) with
    | some oi => match pairRI (asFields t_listit oi) with
      | some (l, x, _) => match T.get (q / 256 % 256) with
        | some ol => match asSeq t_list ol with
          | some (xs, _) => match nthV gv (q / 65536 % 256) with
            | some v => some ⟨v, T.set (q % 256) (fun _ => itO l (x + 1) 0), m, i, q / 16777216, [(a, adr V (q % 256)), (l, adr V (q / 256 % 256))], [xs[x.toNat]? = some v]⟩
            | none => none
          | none => none
        | none => none
      | _ => none
    | none => none
  | false => none
noncomputable def smApp (V : RV) (k : Nat) (a : Nat) (v : Value) (T : BT) (m i q : Nat) : Option SmR := match Nat.beq k k_append with
  | true => match T.get (q % 256) with
    | some ol => match asSeq t_list ol with
      | some (xs, e) => some ⟨.none, T.set (q % 256) (fun _ => lsO (xs ++ [v]) (e + 1)), m, i, q / 256, [(a, adr V (q % 256))], [xs.length ≤ 100000]⟩
      | none => none
    | none => none
  | false => none
noncomputable def smLen (V : RV) (k : Nat) (a : Nat) (T : BT) (m i q : Nat) : Option SmR := match Nat.beq k k_len with
  | true => match T.get (q % 256) with
    | some ol => match asSeq t_list ol with
      | some (xs, _) => some ⟨.int (.ofNat xs.length) (V.t₀ + (i + 1)), T, m, i + 2, q / 256, [(a, adr V (q % 256))], [xs.length ≤ 100000]⟩
      | none => none
    | none => none
  | false => none
noncomputable def ItemAt (xs : List Value) (x : Int) (v : Value) : Prop := (0 ≤ x ∧ xs[x.toNat]? = some v) ∨ (x < 0 ∧ 0 ≤ x + xs.length ∧ xs[(x + xs.length).toNat]? = some v)
noncomputable def smGet (V : RV) (gv : List Value) (k : Nat) (a : Nat) (x : Int) (T : BT) (m i q : Nat) : Option SmR := match Nat.beq k k_lget with
  | true => match T.get (q % 256) with
    | some ol => match asSeq t_list ol with
      | some (xs, _) => match nthV gv (q / 256 % 256) with
        | some v => some ⟨v, T, m, i, q / 65536, [(a, adr V (q % 256))], [ItemAt xs x v ∧ -100000 ≤ x ∧ x ≤ 100000 ∧ xs.length ≤ 100000]⟩
        | none => none
      | none => none
    | none => none
  | false => none
noncomputable def smIns (V : RV) (k : Nat) (a : Nat) (x : Int) (v : Value) (T : BT) (m i q : Nat) : Option SmR := match Nat.beq k k_linsert with
  | true => match T.get (q % 256) with
    | some ol => match asSeq t_list ol with
      | some (xs, e) => some ⟨.none, T.set (q % 256) (fun _ => lsO (xs.take x.toNat ++ v :: xs.drop x.toNat) (e + 1)), m, i, q / 256, [(a, adr V (q % 256))], [0 ≤ x ∧ x ≤ xs.length ∧ xs.length ≤ 100000]⟩
      | none => none
    | none => none
  | false => none
noncomputable def smRit (V : RV) (k : Nat) (a : Nat) (T : BT) (m i q : Nat) : Option SmR := match Nat.beq k k_riter with
  | true => match T.get (q % 256) with
    | some o => match rngI (asFields t_range o) with
      | some (n, _, _, _) => match (T.ins (V.p + m) (riO 0 n 1)).get (V.p + m) with
        | some _ => some ⟨.ref (V.B + m), T.ins (V.p + m) (riO 0 n 1), m + 1, i, q / 256, [(a, adr V (q % 256))], [0 ≤ n ∧ n ≤ 100000]⟩
        | none => none
      | _ => none
    | none => none
  | false => none
noncomputable def occN (l r : List Nat) : Nat := (Builtin.Str.occurrences ⟨⟨l⟩⟩ ⟨⟨r⟩⟩ 0 l.length (l.length + 1)).length
noncomputable def smSAdd (t₀ : Nat) (k : Nat) (l r : List Nat) (T : BT) (m i q : Nat) : Option SmR := match Nat.beq k k_sadd with
  | true => some ⟨.str ⟨⟨l ++ r⟩⟩ (t₀ + i), T, m, i + 1, q, [], [l ≠ [] ∧ r ≠ [] ∧ (l ++ r).length ≤ 100000]⟩
  | false => none
noncomputable def smSAdd0 (k : Nat) (l r : List Nat) (t : Nat) (T : BT) (m i q : Nat) : Option SmR := match Nat.beq k k_sadd with
  | true => match r with
    | [] => some ⟨.str ⟨⟨l⟩⟩ t, T, m, i, q, [], [l ≠ []]⟩
    | _ :: _ => none
  | false => none
noncomputable def occL (x y : List Nat) : List Nat := Builtin.Str.occurrences ⟨⟨x⟩⟩ ⟨⟨y⟩⟩ 0 x.length (x.length + 1)
noncomputable def smRepl (t₀ : Nat) (k : Nat) (x y z : List Nat) (t u v : Nat) (T : BT) (m i q : Nat) : Option SmR := match Nat.beq k k_srepl with
  | true => match (occL x y).isEmpty || (y.length == 0 && z.length == 0) with
    | true => some ⟨.str ⟨⟨x⟩⟩ t, T, m, i, q, [], []⟩
    | false => match (⟨⟨y⟩⟩ : Str) == ⟨⟨z⟩⟩ with
      | true => none
      | false => match Builtin.Str.tooLong (x.length + (occL x y).length * z.length) with
        | true => none
        | false => match Nat.ble (Builtin.Str.glued ⟨⟨z⟩⟩ (Builtin.Str.partsBetween ⟨⟨x⟩⟩ (occL x y) y.length)).length 100000 with
          | false => none
          | true => some ⟨.str (Builtin.Str.glued ⟨⟨z⟩⟩ (Builtin.Str.partsBetween ⟨⟨x⟩⟩ (occL x y) y.length)) (t₀ + i), T, m, i + 1, q, [], [u ≠ 0 ∧ v ≠ 0 ∧ u ≠ v]⟩
  | false => none
noncomputable def smSCnt (t₀ : Nat) (k : Nat) (l r : List Nat) (T : BT) (m i q : Nat) : Option SmR := match Nat.beq k k_scount with
  | true => some ⟨.int (.ofNat (occN l r)) (t₀ + i), T, m, i + 1, q, [], []⟩
  | false => none
noncomputable def smPop (V : RV) (gv : List Value) (k : Nat) (a : Nat) (T : BT) (m i q : Nat) : Option SmR := match Nat.beq k k_lpop with
  | true => match T.get (q % 256) with
    | some ol => match asSeq t_list ol with
      | some (xs, e) => match nthV gv (q / 256 % 256) with
        | some v => some ⟨v, T.set (q % 256) (fun _ => lsO xs.dropLast (e + 1)), m, i, q / 65536, [(a, adr V (q % 256))], [xs.getLast? = some v ∧ xs.length ≤ 100000]⟩
        | none => none
      | none => none
    | none => none
  | false => none
noncomputable def smRev (V : RV) (k : Nat) (a : Nat) (T : BT) (m i q : Nat) : Option SmR := match Nat.beq k k_lrev with
  | true => match T.get (q % 256) with
    | some ol => match asSeq t_list ol with
      | some (xs, e) => some ⟨.none, T.set (q % 256) (fun _ => lsO xs.reverse e), m, i, q / 256, [(a, adr V (q % 256))], [xs.length ≤ 100000]⟩
      | none => none
    | none => none
  | false => none
noncomputable def smI (V : RV) (n k : Nat) (x : Int) (pos : List Value) (T : BT) (m i q : Nat) : Option SmR := match pos with
  | [] => none
  | v :: r => match r with
    | [] => match v with
      | .int y _ => match n with
        | 0 => smCmp k x y T m i q
        | 1 => smAri V.t₀ k x y T m i q
        | 2 => smMul V.t₀ k x y T m i q
        | 3 => smTold V.t₀ k x y T m i q
        | _ + 4 => none
      | _ => none
    | _ :: _ => none
noncomputable def smA (V : RV) (gv : List Value) (n k a : Nat) (pos : List Value) (T : BT) (m i q : Nat) : Option SmR := match pos with
  | [] => match n with
    | 0 => smNext V gv k a T m i q
    | 1 => smLen V k a T m i q
    | 2 => smRit V k a T m i q
    | 3 => smPop V gv k a T m i q
    | 4 => smRev V k a T m i q
    | _ + 5 => none
  | v :: r => match r with
    | [] => match n with
      | 0 => smApp V k a v T m i q
      | 1 => match v with
        | .int x _ => smGet V gv k a x T m i q
        | _ => none
      | _ + 2 => none
    | u :: r => match r with
      | [] => match n with
        | 0 => match v with
          | .int x _ => smIns V k a x u T m i q
          | _ => none
        | _ + 1 => none
      | _ :: _ => none
noncomputable def smT (V : RV) (n k : Nat) (l : List Nat) (t : Nat) (pos : List Value) (T : BT) (m i q : Nat) : Option SmR := match pos with
  | [] => none
  | v :: r => match v with
    | .str ⟨⟨y⟩⟩ u => match r with
      | [] => match n with
        | 0 => smSAdd V.t₀ k l y T m i q
        | 1 => smSCnt V.t₀ k l y T m i q
        | 2 => smSAdd0 k l y t T m i q
        | _ + 3 => none
      | z :: r => match r with
        | [] => match z with
          | .str ⟨⟨z⟩⟩ v => match n with
            | 0 => smRepl V.t₀ k l y z t u v T m i q
            | _ + 1 => none
          | _ => none
        | _ :: _ => none
    | _ => none
noncomputable def smDo (V : RV) (gv : List Value) (n k : Nat) (pos : List Value) (T : BT) (m i q : Nat) : Option SmR := match pos with
  | [] => none
  | v :: r => match v with
    | .int x _ => smI V n k x r T m i q
    | .ref a => smA V gv n k a r T m i q
    | .str ⟨⟨l⟩⟩ t => smT V n k l t r T m i q
    | _ => none
noncomputable def smAll (V : RV) (gv : List Value) (n : Nat) (c : Code) (T : BT) (m i q : Nat) : Option SmR := match c with
  | .call f ⟨pos, kw⟩ => match kw with
    | [] => match f with
      | .builtin id => smDo V gv n (S.codeS id) pos T m i q
      | _ => none
    | _ :: _ => none
  | _ => none

theorem sm_of_call {prog : Program} {w : World} {A : Around} {f : Value} {pos : List Value} {Q : Result → Shared → Prop} {s : Shared}
    (h : wpAny (model prog w) A (call f pos) (fun v s' => Q (.ok (.ret v)) s') (fun _ _ => False) s) : ∀ (Γ : Ctx) (p : Pos), Γ.In A → wpCode (model prog w) (Γ.enter (.call f ⟨pos, []⟩) none p) Q p s := by
  intro Γ p hΓ
  have z := h Γ p hΓ
  unfold PySem.call at z
  rw [Sem.wp_runValue] at z
  refine wpCode_mono (fun r s' hr => ?_) z
  cases r with
  | error e => exact hr.elim
  | ok fl => cases fl <;> first | exact hr | exact hr.elim
section
variable {V : RV} {w : World} {h₀ h : Heap} {T : BT} {m : Nat}
theorem Rep.put (O : V.Ok w h₀) (D : Rep V h₀ h T m) {j : Nat} {o o' : Obj} {h' : Heap} (e : T.get j = some o) (hs : Heap.SameBut (adr V j) h h') (he : h'.get? (adr V j) = some o') : Rep V h₀ h' (T.set j fun _ => o') m := by
  have z := D.own _ _ e
  refine ⟨by rw [hs.1, D.size], fun i o₂ e' => ?_, fun b o₂ e' q => ?_⟩
  · rw [BT.get_set] at e'
    by_cases hi : i = j
    · subst hi
      rw [if_pos rfl, e] at e'
      cases e'
      exact ⟨z.1, he⟩
    · rw [if_neg hi] at e'
      have y := D.own i o₂ e'
      exact ⟨y.1, (hs.2 _ fun x => hi (adr_inj O x)).trans y.2⟩
  · refine (hs.2 b fun x => ?_).trans (D.keep b o₂ e' q)
    subst x
    rcases Nat.lt_or_ge j V.p with hj | hj
    · exact q (adr_low O hj)
    · have h1 : adr V j < V.B := O.size ▸ Heap.lt_size e'
      have h2 := adr_high O hj
      exact absurd h1 (by rw [h2]; exact Nat.not_lt.mpr (Nat.le_add_right ..))
end
section
variable {prog : Program} {w : World} {A : Around} {h : Heap} {g : Array GenState} {d : Drawn} {t : Nat} {os : OsState} {Q : Value → Shared → Prop} {E : Value → Shared → Prop}
theorem call_lnext {it l : Nat} {x : Int} {u : Nat} {xs : List Value} {e : Nat} {v : Value} (hi : h.get? it = some (itO l x u)) (hl : h.get? l = some (lsO xs e)) (hv : xs[x.toNat]? = some v)
    (hq : Q v ⟨h.update it (Obj.mapFields fun y => y.setIfInBounds 1 (rawInt (x + 1))), g, d, t, os⟩) :
    wpAny (model prog w) A (call (.builtin "list_iterator.__next__") [.ref it]) Q E ⟨h, g, d, t, os⟩ := by
  have hT : (⟨h, g, d, t, os⟩ : Shared).TypeIs (.ref it) "list_iterator" := ⟨_, hi, rfl⟩
  refine wpAny_call_entry slot_listiter_next hT entry_listiter_next ?_ (args_listiter_next _)
  show wpAny _ _ (field (.ref it) 0 >>= _) _ _ _
  refine wpAny_bind (wpAny_field hi rfl (x := .ref l) rfl ?_)
  show wpAny _ _ (if (Value.ref l == Value.none) = true then _ else _) _ _ _
  rw [if_neg (show ¬ ((Value.ref l == Value.none) = true) from Bool.false_ne_true)]
  show wpAny _ _ (field (.ref it) 1 >>= _) _ _ _
  refine wpAny_bind (wpAny_field hi rfl (x := .int x u) rfl ?_)
  show wpAny _ _ (seqItems? (.ref l) >>= _) _ _ _
  refine wpAny_bind (wpAny_seqItems hl rfl ?_)
  have hv' : (⟨xs⟩ : Array Value)[x.toNat]? = some v := by rw [← hv]; simp
  simp only [hv']
  refine wpAny_bind (wpAny_setField hi rfl (by simp) (wpAny_pure ⟨v, rfl, ?_⟩))
  exact hq
theorem call_lget {l : Nat} {xs : List Value} {e : Nat} {x : Int} {u : Nat} {v : Value} (hl : h.get? l = some (lsO xs e)) (hv : ItemAt xs x v) (h1 : -100000 ≤ x) (h2 : x ≤ 100000) (h3 : xs.length ≤ 100000) (hq : Q v ⟨h, g, d, t, os⟩) :
    wpAny (model prog w) A (call (.builtin "list.__getitem__") [.ref l, .int x u]) Q E ⟨h, g, d, t, os⟩ := by
  have hL : (⟨h, g, d, t, os⟩ : Shared).heap.IsList l ⟨xs⟩ := ⟨_, hl, rfl, e, rfl⟩
  refine wpAny_call_entry slot_list_getitem hL.typeIs entry_list_getitem ?_ (args_list_getitem _ _)
  show wpAny _ _ (Builtin.List.listSubscript? (.int x u) >>= _) _ _ _
  rcases hv with ⟨h0, hx⟩ | ⟨h0, hn, hx⟩
  · refine wpAny_bind (wpAny_listSubscript_int (fitsIndex_of h0 (by (first | lia | omega))) ?_)
    obtain ⟨j, rfl⟩ := Int.eq_ofNat_of_zero_le h0
    have hx' : (⟨xs⟩ : Array Value)[j]? = some v := by rw [← hx]; simp
    show wpAny _ _ ((seqItemAt l j >>= fun r => pure (r.map (j, ·))) >>= _) _ _ _
    refine wpAny_bind (wpAny_bind (wpAny_seqItemAt hl rfl (wpAny_pure ?_)))
    rw [hx']
    exact wpAny_bind (wpAny_pure (wpAny_pure ⟨v, rfl, hq⟩))
  · refine wpAny_bind (wpAny_listSubscript_int (fitsIndex_neg h0 (by (first | lia | omega))) ?_)
    have hsz : ((⟨xs⟩ : Array Value).size : Int) = xs.length := by simp
    have hidx := seqIndex_neg (k := x) (n := (⟨xs⟩ : Array Value).size) h0 (by rw [hsz]; (first | lia | omega))
    have hx' : (⟨xs⟩ : Array Value)[(x + (⟨xs⟩ : Array Value).size).toNat]? = some v := by rw [hsz, ← hx]; simp
    obtain ⟨j, rfl⟩ : ∃ j : Nat, x = Int.negSucc j := by
      cases x with
      | ofNat n => exact absurd h0 (Int.not_lt.mpr (Int.natCast_nonneg n))
      | negSucc n => exact ⟨n, rfl⟩
    show wpAny _ _ ((Builtin.List.listItems (.ref l) >>= fun xs => pure ((seqIndex? (Int.negSucc j) xs.size).bind fun i => xs[i]?.map (i, ·))) >>= _) _ _ _
    refine wpAny_bind (wpAny_bind ?_)
    show wpAny _ _ (seqItems? (.ref l) >>= _) _ _ _
    refine wpAny_bind (wpAny_seqItems hl rfl (wpAny_pure (wpAny_pure ?_)))
    rw [hidx]
    simp only [Option.bind_some, hx', Option.map_some]
    exact wpAny_bind (wpAny_pure (wpAny_pure ⟨v, rfl, hq⟩))
end
section
variable {V : RV} {w : World} {h₀ : Heap} {h : Heap} {g : Array GenState} {d : Drawn} {os : OsState} {A : Around} {Q : Result → Shared → Prop} {T : BT} {m i q : Nat} {r : SmR}
theorem cmp_ok {B : Builtin} {nm : Str} {id : String} {x y : Int} {t u : Nat} {p : Prop} [Decidable p] (slot : Slot "int" nm id) (entry : entryFor table id = some B) (args : argsOk id ⟨[.int x t, .int y u], []⟩)
    (gv : Gives (B ⟨[.int x t, .int y u], []⟩) (.val (Value.bool (decide p)))) (e : cmpR p T m i q = some r) (hc : ∀ z ∈ r.cs, z) (D : Rep V h₀ h T m)
    (x' : ∀ h', Rep V h₀ h' r.T r.m → Q (.ok (.ret r.v)) ⟨h', g, d, V.t₀ + r.i, os⟩) : wpAny (model V.prog w) A (call (.builtin id) [.int x t, .int y u]) (fun v s' => Q (.ok (.ret v)) s') (fun _ _ => False) ⟨h, g, d, V.t₀ + i, os⟩ := by
  refine call_gives slot (typeIs_int _ _ _) entry args gv ?_
  unfold cmpR at e
  split at e
  · cases e
    have : ¬ p := hc _ (.head _)
    show Q (.ok (.ret (.bool (decide p)))) _
    rw [decide_eq_false this]; exact x' h D
  · cases e
    have : p := hc _ (.head _)
    show Q (.ok (.ret (.bool (decide p)))) _
    rw [decide_eq_true this]; exact x' h D
theorem ari_ok {B : Builtin} {nm : Str} {id : String} {x y z : Int} {t u : Nat} {cs : List Prop} (slot : Slot "int" nm id) (entry : entryFor table id = some B) (args : argsOk id ⟨[.int x t, .int y u], []⟩)
    (gv : Gives (B ⟨[.int x t, .int y u], []⟩) (.int z)) (e : intR V.t₀ z T m i q cs = some r) (D : Rep V h₀ h T m)
    (x' : ∀ h', Rep V h₀ h' r.T r.m → Q (.ok (.ret r.v)) ⟨h', g, d, V.t₀ + r.i, os⟩) : wpAny (model V.prog w) A (call (.builtin id) [.int x t, .int y u]) (fun v s' => Q (.ok (.ret v)) s') (fun _ _ => False) ⟨h, g, d, V.t₀ + i, os⟩ := by
  refine call_gives slot (typeIs_int _ _ _) entry args gv ?_
  cases e
  exact x' h D

noncomputable abbrev Cont (V : RV) (h₀ : Heap) (g : Array GenState) (d : Drawn) (os : OsState) (Q : Result → Shared → Prop) (r : SmR) : Prop := ∀ h', Rep V h₀ h' r.T r.m → Q (.ok (.ret r.v)) ⟨h', g, d, V.t₀ + r.i, os⟩
noncomputable abbrev Done (V : RV) (w : World) (h : Heap) (g : Array GenState) (d : Drawn) (os : OsState) (A : Around) (Q : Result → Shared → Prop) (i : Nat) (id : String) (pos : List Value) : Prop :=
  wpAny (model V.prog w) A (call (.builtin id) pos) (fun v s' => Q (.ok (.ret v)) s') (fun _ _ => False) ⟨h, g, d, V.t₀ + i, os⟩
theorem smCmp_ok {id : String} {x y : Int} {t u : Nat} (e : smCmp (S.codeS id) x y T m i q = some r) (hc : ∀ z ∈ r.cs, z) (D : Rep V h₀ h T m) (x' : Cont V h₀ g d os Q r) : Done V w h g d os A Q i id [.int x t, .int y u] := by
  unfold smCmp at e
  split at e
  · rename_i hk; cases id_lt hk
    exact cmp_ok slot_int_lt entry_int_lt (args_int_lt _ _) (AutoIntG1.int___lt___int_int_0 _ _ _ _) e hc D x'
  · split at e
    · rename_i hk; cases id_gt hk
      exact cmp_ok F.slot_int_gt F.entry_int_gt (F.args_int_gt_2 _ _) (AutoIntG4.int___gt___int_int_0 _ _ _ _) e hc D x'
    · split at e
      · rename_i hk; cases id_ge hk
        exact cmp_ok PyProof.Rows.slot_int_ge PyProof.Rows.entry_int_ge (PyProof.Rows.args_int_ge _ _) (AutoIntG9.int___ge___int_int_0 _ _ _ _) e hc D x'
      · split at e
        · rename_i hk; cases id_eq hk
          refine cmp_ok (p := x = y) slot_int_eq entry_int_eq (args_int_eq _ _) ?_ e hc D x'
          have z := AutoIntG7.int___eq___int_int_0 x t y u
          have hb : (x == y) = decide (x = y) := by by_cases h : x = y <;> simp [h]
          simp only [hb] at z
          exact z
        · cases e
theorem small_bits {x : Int} (h : smallI x = true) : Builtin.Int.intBits x ≤ 64 := by
  have : x.natAbs ≤ 1000000 := Nat.le_of_ble_eq_true h
  exact intBits_le_64 (by (first | lia | omega)) (by (first | lia | omega))
theorem no_pylong {x y : Int} (h1 : -(2 ^ 63) < y) (h2 : y < 2 ^ 63) : ¬ (Builtin.divisionGoesByPylong x y) = true := by
  have hl : y.natAbs.log2 < 63 := by
    by_cases hz : y.natAbs = 0
    · rw [hz]; decide
    · exact (Nat.log2_lt hz).mpr (by (first | lia | omega))
  unfold Builtin.divisionGoesByPylong
  have : ¬ ((if y = 0 then 0 else y.natAbs.log2 / 30 + 1) > 300) := by split <;> (first | lia | omega)
  simp only [beq_iff_eq, Bool.and_eq_true, decide_eq_true_eq, not_and]
  intro hh; exact absurd hh this
theorem gives_rsh (a b : Nat) {t u : Nat} : Gives (Builtin.«int.__rshift__» ⟨[.int (.ofNat a) t, .int (.ofNat b) u], []⟩) (.int (.ofNat (a / 2 ^ b))) := by
  by_cases hb : (Int.ofNat b) ≥ ((Builtin.Int.intBits (.ofNat a) : Nat) : Int)
  · have z := AutoIntG9.int___rshift___int_int_1 (.ofNat a) t (.ofNat b) u (by simp) hb
    have hlt : a < 2 ^ b := by
      unfold Builtin.Int.intBits at hb
      by_cases ha : a = 0
      · subst ha; exact Nat.two_pow_pos b
      · have h1 : ¬ ((Int.ofNat a == 0) = true) := by simp [ha]
        rw [if_neg h1] at hb
        have h2 : a.log2 + 1 ≤ b := by
          have : (Int.ofNat a).natAbs = a := rfl
          rw [this] at hb
          have hb' : ((a.log2 + 1 : Nat) : Int) ≤ (b : Int) := hb
          (first | lia | omega)
        exact Nat.lt_of_lt_of_le Nat.lt_log2_self (Nat.pow_le_pow_right (by decide) h2)
    rw [Nat.div_eq_of_lt hlt]
    have : (if (Int.ofNat a) < 0 then (-1 : Int) else 0) = 0 := if_neg (by simp)
    rw [this] at z
    exact z
  · have z := AutoIntG0.int___rshift___int_int_2 (.ofNat a) t (.ofNat b) u (by simp) hb
    have : (Int.ofNat a).fdiv (2 ^ (Int.ofNat b).toNat) = .ofNat (a / 2 ^ b) := by
      have e : ((2 : Int) ^ (Int.ofNat b).toNat) = ((2 ^ b : Nat) : Int) := by simp
      rw [e]
      show Int.fdiv (a : Int) ((2 ^ b : Nat) : Int) = _
      rw [Int.fdiv_eq_ediv_of_nonneg _ (Int.natCast_nonneg _)]
      rfl
    rw [this] at z
    exact z
theorem gives_pow (a b : Nat) {t u : Nat} (h2 : 2 ≤ a) (h3 : a ≤ 10) (h4 : b ≤ 10) : Gives (Builtin.«int.__pow__» ⟨[.int (.ofNat a) t, .int (.ofNat b) u], []⟩) (.int (.ofNat (a ^ b))) := by
  by_cases hb : b = 0
  · subst hb
    exact AutoIntG9.int___pow___int_int_0 (.ofNat a) t (.ofNat 0) u (by simp) rfl
  · have hbits : Builtin.Int.intBits (.ofNat a) ≤ 64 := intBits_le_64 (by show -(2 ^ 64) < (a : Int); (first | lia | omega)) (by show (a : Int) < 2 ^ 64; (first | lia | omega))
    have z := AutoIntG2.int___pow___int_int_4 (.ofNat a) t (.ofNat b) u (by simp) (by simpa using hb) (by simp; (first | lia | omega)) (by simp) (by
      unfold Builtin.Int.intTooBig bitsLine
      have : ((Builtin.Int.intBits (.ofNat a) : Nat) : Int) * (Int.ofNat b) ≤ 64 * 10 := by
        have h1 : ((Builtin.Int.intBits (.ofNat a) : Nat) : Int) ≤ 64 := by (first | lia | omega)
        have h2 : (Int.ofNat b) ≤ 10 := by show (b : Int) ≤ 10; (first | lia | omega)
        exact Int.mul_le_mul h1 h2 (by simp) (by decide)
      simp only [decide_eq_true_eq]
      (first | lia | omega))
    have e : (Int.ofNat a) ^ (Int.ofNat b).toNat = .ofNat (a ^ b) := by simp
    rw [e] at z
    exact z
theorem smAri_ok {id : String} {x y : Int} {t u : Nat} (e : smAri V.t₀ (S.codeS id) x y T m i q = some r) (D : Rep V h₀ h T m) (x' : Cont V h₀ g d os Q r) : Done V w h g d os A Q i id [.int x t, .int y u] := by
  unfold smAri at e
  split at e
  · rename_i hk; cases id_mul hk
    split at e
    · rename_i hs
      exact ari_ok PyProof.Rows.slot_int_mul PyProof.Rows.entry_int_mul (PyProof.Rows.args_int_mul _ _) (AutoIntG1.int___mul___int_int_0 _ _ _ _ (.of_left (small_bits hs))) e D x'
    · cases e
  · split at e
    · rename_i hk; cases id_fdiv hk
      split at e
      · rename_i hs
        split at e
        · rename_i hz
          have h1 : y.natAbs ≤ 1000000 := Nat.le_of_ble_eq_true hs
          have h0 : y ≠ 0 := by intro z; subst z; cases hz
          exact ari_ok PyProof.Rows.slot_int_floordiv PyProof.Rows.entry_int_floordiv (PyProof.Rows.args_int_floordiv _ _) (AutoIntG4.int___floordiv___int_int_1 _ _ _ _ (by simpa using h0) (no_pylong (by (first | lia | omega)) (by (first | lia | omega)))) e D x'
        · cases e
      · cases e
    · split at e
      · rename_i hk; cases id_fmod hk
        split at e
        · rename_i hz
          have h0 : y ≠ 0 := by intro z; subst z; cases hz
          exact ari_ok PyProof.Rows.slot_int_mod PyProof.Rows.entry_int_mod (PyProof.Rows.args_int_mod _ _) (AutoIntG6.int___mod___int_int_1 _ _ _ _ (by simpa using h0)) e D x'
        · cases e
      · split at e
        · rename_i hk; cases id_rsh hk
          split at e
          · rename_i a b
            split at e
            · rename_i hb
              refine ari_ok PyProof.Rows.slot_int_rshift PyProof.Rows.entry_int_rshift (PyProof.Rows.args_int_rshift _ _) ?_ e D x'
              exact gives_rsh a b
            · cases e
          · cases e
        · split at e
          · rename_i hk; cases id_pow hk
            split at e
            · rename_i a b
              split at e
              · rename_i h2
                split at e
                · rename_i h3
                  split at e
                  · rename_i h4
                    refine ari_ok PyProof.Rows.slot_int_pow PyProof.Rows.entry_int_pow (PyProof.Rows.args_int_pow _ _) ?_ e D x'
                    exact gives_pow a b (Nat.le_of_ble_eq_true h2) (Nat.le_of_ble_eq_true h3) (Nat.le_of_ble_eq_true h4)
                  · cases e
                · cases e
              · cases e
            · cases e
          · cases e
theorem smMul_ok {id : String} {x y : Int} {t u : Nat} (e : smMul V.t₀ (S.codeS id) x y T m i q = some r) (hc : ∀ z ∈ r.cs, z) (D : Rep V h₀ h T m) (x' : Cont V h₀ g d os Q r) : Done V w h g d os A Q i id [.int x t, .int y u] := by
  unfold smMul at e
  split at e
  · rename_i hk; cases id_mul hk
    have c : -(2 ^ 63) < x ∧ x < 2 ^ 63 := by
      have e' := e
      unfold intR at e'
      cases e'
      exact hc _ (.head _)
    exact ari_ok PyProof.Rows.slot_int_mul PyProof.Rows.entry_int_mul (PyProof.Rows.args_int_mul _ _) (AutoIntG1.int___mul___int_int_0 _ _ _ _ (.of_left (intBits_le_64 (by (first | lia | omega)) (by (first | lia | omega))))) e D x'
  · split at e
    · rename_i hk; cases id_fdiv hk
      have c : y ≠ 0 ∧ -(2 ^ 63) < y ∧ y < 2 ^ 63 := by
        have e' := e
        unfold intR at e'
        cases e'
        exact hc _ (.head _)
      exact ari_ok PyProof.Rows.slot_int_floordiv PyProof.Rows.entry_int_floordiv (PyProof.Rows.args_int_floordiv _ _) (AutoIntG4.int___floordiv___int_int_1 _ _ _ _ (by simpa using c.1) (no_pylong c.2.1 c.2.2)) e D x'
    · cases e
theorem smTold_ok {id : String} {x y : Int} {t u : Nat} (e : smTold V.t₀ (S.codeS id) x y T m i q = some r) (hc : ∀ z ∈ r.cs, z) (D : Rep V h₀ h T m) (x' : Cont V h₀ g d os Q r) : Done V w h g d os A Q i id [.int x t, .int y u] := by
  unfold smTold at e
  split at e
  · rename_i hk; cases id_fmod hk
    split at e
    · rename_i hz
      have h0 : y ≠ 0 := by intro z; subst z; cases hz
      have key : ∀ n, toldR V.t₀ x y n T m i q = some r → Done V w h g d os A Q i "int.__mod__" [.int x t, .int y u] := by
        intro n e
        have c : Int.fmod x y = .ofNat n := by
          have e' := e
          unfold toldR intR at e'
          cases e'
          exact hc _ (.head _)
        have z := AutoIntG6.int___mod___int_int_1 x t y u (by simpa using h0)
        rw [c] at z
        exact ari_ok PyProof.Rows.slot_int_mod PyProof.Rows.entry_int_mod (PyProof.Rows.args_int_mod _ _) z e D x'
      split at e
      · exact key _ e
      · split at e
        · exact key _ e
        · split at e <;> exact key _ e
    · cases e
  · cases e
theorem smNext_ok (O : V.Ok w h₀) {id : String} {a : Nat} (e : smNext V gv (S.codeS id) a T m i q = some r) (he : ∀ z ∈ r.es, z.1 = z.2) (hc : ∀ z ∈ r.cs, z) (D : Rep V h₀ h T m) (x' : Cont V h₀ g d os Q r) : Done V w h g d os A Q i id [.ref a] := by
  unfold smNext at e
  split at e
  · rename_i hk; cases id_lnext hk
    split at e
    · rename_i oi hoi
      split at e
      · rename_i l x u hf
        split at e
        · rename_i ol hol
          split at e
          · rename_i xs ep hs
            split at e
            · rename_i v hv
              cases e
              have ea : a = adr V (q % 256) := he _ (.head _)
              have el : l = adr V (q / 256 % 256) := he _ (.tail _ (.head _))
              have cx : xs[x.toNat]? = some v := hc _ (.head _)
              obtain ⟨cn, hb, rfl⟩ := asFields_eq (pairRI_eq hf)
              have hi := (D.own _ _ hoi).2
              rw [ty_listit hb, ← ea] at hi
              have hl := (D.own _ _ hol).2
              rw [asList_eq hs, ← el] at hl
              refine call_lnext hi hl cx (x' _ ?_)
              have hs' : Heap.SameBut (adr V (q % 256)) h (h.update a (Obj.mapFields fun y => y.setIfInBounds 1 (rawInt (x + 1)))) := ea ▸ Heap.SameBut.update ..
              refine D.put O hoi hs' ?_
              rw [← ea]
              exact Heap.get?_update_self _ hi rfl
            · cases e
          · cases e
        · cases e
      · cases e
    · cases e
  · cases e
theorem smApp_ok (O : V.Ok w h₀) {id : String} {a : Nat} {v : Value} (e : smApp V (S.codeS id) a v T m i q = some r) (he : ∀ z ∈ r.es, z.1 = z.2) (hc : ∀ z ∈ r.cs, z) (D : Rep V h₀ h T m) (x' : Cont V h₀ g d os Q r) : Done V w h g d os A Q i id [.ref a, v] := by
  unfold smApp at e
  split at e
  · rename_i hk; cases id_append hk
    split at e
    · rename_i ol hol
      split at e
      · rename_i xs ep hs
        cases e
        have ea : a = adr V (q % 256) := he _ (.head _)
        have cl : xs.length ≤ 100000 := hc _ (.head _)
        have hl := (D.own _ _ hol).2
        rw [asList_eq hs, ← ea] at hl
        refine call_meets F.slot_list_append ⟨_, hl, rfl⟩ F.entry_list_append (by exact args_list_append _ _) (AutoListH.list_append_list_val_0 a ⟨xs⟩ ep v (by show xs.length ≤ sizeLine; rw [sizeLine_eq]; (first | lia | omega))) ⟨hl, x' _ ?_⟩
        have hs' : Heap.SameBut (adr V (q % 256)) h (h.update a (Obj.mapSeq fun y => y.push v)) := ea ▸ Heap.SameBut.update ..
        refine D.put O hol hs' ?_
        rw [← ea, Heap.get?_update_self _ hl rfl]
        show some (Obj.mapSeq (fun y => y.push v) (lsO xs ep)) = some (lsO (xs ++ [v]) (ep + 1))
        simp [Obj.mapSeq, lsO]
      · cases e
    · cases e
  · cases e
theorem smLen_ok {id : String} {a : Nat} (e : smLen V (S.codeS id) a T m i q = some r) (he : ∀ z ∈ r.es, z.1 = z.2) (hc : ∀ z ∈ r.cs, z) (D : Rep V h₀ h T m) (x' : Cont V h₀ g d os Q r) : Done V w h g d os A Q i id [.ref a] := by
  unfold smLen at e
  split at e
  · rename_i hk; cases id_len hk
    split at e
    · rename_i ol hol
      split at e
      · rename_i xs ep hs
        cases e
        have ea : a = adr V (q % 256) := he _ (.head _)
        have cl : xs.length ≤ 100000 := hc _ (.head _)
        have hl := (D.own _ _ hol).2
        rw [asList_eq hs, ← ea] at hl
        have hL : h.IsList a ⟨xs⟩ := ⟨_, hl, rfl, ep, rfl⟩
        refine Calls.call_len_list (items := ⟨xs⟩) hL (by show ((xs.length : Nat) : Int) < 2 ^ 63; (first | lia | omega)) ?_
        exact x' _ D
      · cases e
    · cases e
  · cases e
theorem smGet_ok {id : String} {a : Nat} {x : Int} {u : Nat} (e : smGet V gv (S.codeS id) a x T m i q = some r) (he : ∀ z ∈ r.es, z.1 = z.2) (hc : ∀ z ∈ r.cs, z) (D : Rep V h₀ h T m) (x' : Cont V h₀ g d os Q r) : Done V w h g d os A Q i id [.ref a, .int x u] := by
  unfold smGet at e
  split at e
  · rename_i hk; cases id_lget hk
    split at e
    · rename_i ol hol
      split at e
      · rename_i xs ep hs
        split at e
        · rename_i v hv
          cases e
          have ea : a = adr V (q % 256) := he _ (.head _)
          have cl : ItemAt xs x v ∧ -100000 ≤ x ∧ x ≤ 100000 ∧ xs.length ≤ 100000 := hc _ (.head _)
          have hl := (D.own _ _ hol).2
          rw [asList_eq hs, ← ea] at hl
          exact call_lget hl cl.1 cl.2.1 cl.2.2.1 cl.2.2.2 (x' _ D)
        · cases e
      · cases e
    · cases e
  · cases e
theorem mapSeq_to {f : Array Value → Array Value} {xs ys : List Value} {ep : Nat} (hf : f ⟨xs⟩ = ⟨ys⟩) (hn : ys.length ≠ xs.length) : Obj.mapSeq f (lsO xs ep) = lsO ys (ep + 1) := by
  show (⟨.type "list", none, .seq (f ⟨xs⟩) (if (f ⟨xs⟩).size == (⟨xs⟩ : Array Value).size then ep else ep + 1), #[]⟩ : Obj) = _
  rw [hf]
  have hb : ((⟨ys⟩ : Array Value).size == (⟨xs⟩ : Array Value).size) = false := by
    show (ys.length == xs.length) = false
    simpa using hn
  rw [hb]
  rfl
theorem inserted (xs : List Value) (v : Value) (x : Int) (ep : Nat) (h0 : 0 ≤ x) (h1 : x ≤ xs.length) : Obj.mapSeq (fun xs => have k := if x < 0 then (x + ((xs.size : Nat) : Int)).toNat else min x.toNat xs.size; (xs.extract 0 k).push v ++ xs.extract k) (lsO xs ep) = lsO (xs.take x.toNat ++ v :: xs.drop x.toNat) (ep + 1) := by
  have hk : (if x < 0 then (x + (((⟨xs⟩ : Array Value).size : Nat) : Int)).toNat else min x.toNat (⟨xs⟩ : Array Value).size) = x.toNat := by
    rw [if_neg (by (first | lia | omega))]
    show min x.toNat xs.length = _
    (first | lia | omega)
  have hy : ((⟨xs⟩ : Array Value).extract 0 x.toNat).push v ++ (⟨xs⟩ : Array Value).extract x.toNat = ⟨xs.take x.toNat ++ v :: xs.drop x.toNat⟩ := by
    apply Array.ext'
    simp only [Array.toList_append, Array.toList_push, List.extract_toArray, List.size_toArray, List.append_assoc, List.singleton_append]
    simp
    exact List.take_of_length_le (by simp)
  refine mapSeq_to ?_ (by simp; (first | lia | omega))
  show ((⟨xs⟩ : Array Value).extract 0 (if x < 0 then (x + (((⟨xs⟩ : Array Value).size : Nat) : Int)).toNat else min x.toNat (⟨xs⟩ : Array Value).size)).push v ++ (⟨xs⟩ : Array Value).extract (if x < 0 then (x + (((⟨xs⟩ : Array Value).size : Nat) : Int)).toNat else min x.toNat (⟨xs⟩ : Array Value).size) = _
  rw [hk, hy]
theorem smIns_ok (O : V.Ok w h₀) {id : String} {a : Nat} {x : Int} {u : Nat} {v : Value} (e : smIns V (S.codeS id) a x v T m i q = some r) (he : ∀ z ∈ r.es, z.1 = z.2) (hc : ∀ z ∈ r.cs, z) (D : Rep V h₀ h T m) (x' : Cont V h₀ g d os Q r) : Done V w h g d os A Q i id [.ref a, .int x u, v] := by
  unfold smIns at e
  split at e
  · rename_i hk; cases id_linsert hk
    split at e
    · rename_i ol hol
      split at e
      · rename_i xs ep hs
        cases e
        have ea : a = adr V (q % 256) := he _ (.head _)
        have cl : 0 ≤ x ∧ x ≤ xs.length ∧ xs.length ≤ 100000 := hc _ (.head _)
        have hl := (D.own _ _ hol).2
        rw [asList_eq hs, ← ea] at hl
        refine call_meets F.slot_list_insert ⟨_, hl, rfl⟩ F.entry_list_insert (F.args_list_insert_3 _ _ _) (AutoListH.list_insert_list_int_val_1 a ⟨xs⟩ ep x u v (by rw [fitsIndex_of cl.1 (by (first | lia | omega))]; simp) (by show xs.length ≤ sizeLine; rw [sizeLine_eq]; (first | lia | omega))) ⟨hl, x' _ ?_⟩
        refine D.put O hol (ea ▸ Heap.SameBut.update ..) ?_
        rw [← ea, Heap.get?_update_self _ hl rfl]
        exact congrArg some (inserted xs v x ep cl.1 cl.2.1)
      · cases e
    · cases e
  · cases e
theorem range_size {n : Int} (h : 0 ≤ n) : Builtin.Range.rangeSize 0 n 1 = n := by
  unfold Builtin.Range.rangeSize
  rw [if_pos (by decide)]
  split <;> (first | lia | omega)
theorem range_small {n : Int} (h : 0 ≤ n) (h' : n ≤ 100000) : (Builtin.Range.rangeFitsLong 0 && Builtin.Range.rangeFitsLong n && Builtin.Range.rangeFitsLong 1 && Builtin.Range.rangeFitsLong (Builtin.Range.rangeSize 0 n 1) && (Builtin.Range.rangeSize 0 n 1 == 0 || if (1 : Int) > 0 then Builtin.Range.rangeFitsLong (n + (1 - 1)) else Builtin.Range.rangeFitsLong (n + (1 + 1)))) = true := by
  have f : ∀ k : Int, 0 ≤ k → k ≤ 100000 → Builtin.Range.rangeFitsLong k = true := fun k h1 h2 => by
    unfold Builtin.Range.rangeFitsLong
    rw [decide_eq_true (by (first | lia | omega)), decide_eq_true (by (first | lia | omega))]; rfl
  rw [range_size h, f 0 (by decide) (by decide), f n h h', f 1 (by decide) (by decide), if_pos (by decide), f (n + (1 - 1)) (by (first | lia | omega)) (by (first | lia | omega))]
  simp
theorem smRit_ok (O : V.Ok w h₀) {id : String} {a : Nat} (e : smRit V (S.codeS id) a T m i q = some r) (he : ∀ z ∈ r.es, z.1 = z.2) (hc : ∀ z ∈ r.cs, z) (D : Rep V h₀ h T m) (x' : Cont V h₀ g d os Q r) : Done V w h g d os A Q i id [.ref a] := by
  unfold smRit at e
  split at e
  · rename_i hk; cases id_riter hk
    split at e
    · rename_i o ho
      split at e
      · rename_i n t1 t2 t3 hf
        split at e
        · rename_i o' ho'
          cases e
          have ea : a = adr V (q % 256) := he _ (.head _)
          have cl : 0 ≤ n ∧ n ≤ 100000 := hc _ (.head _)
          obtain ⟨cn, hb, rfl⟩ := asFields_eq (rngI_eq hf)
          have hl := (D.own _ _ ho).2
          rw [ty_range hb, ← ea] at hl
          have hsz : Builtin.Range.rangeSize 0 n 1 = n := range_size cl.1
          have hsmall : (Builtin.Range.rangeFitsLong 0 && Builtin.Range.rangeFitsLong n && Builtin.Range.rangeFitsLong 1 && Builtin.Range.rangeFitsLong (Builtin.Range.rangeSize 0 n 1) && (Builtin.Range.rangeSize 0 n 1 == 0 || if (1 : Int) > 0 then Builtin.Range.rangeFitsLong (n + (1 - 1)) else Builtin.Range.rangeFitsLong (n + (1 + 1)))) = true := range_small cl.1 cl.2
          refine call_meets F.slot_range_iter ⟨_, hl, rfl⟩ F.entry_range_iter (F.args_range_iter_1 _) (AutoRange.range___iter___range_1 a 0 n 1 t1 t2 t3 (by rw [hsmall]; simp)) ⟨hl, ?_⟩
          show Q (.ok (.ret (.ref h.objs.size))) _
          rw [hsmall, hsz, D.size]
          exact x' _ (D.alloc O (o := riO 0 n 1) rfl (by rw [ho']; rfl))
        · cases e
      · cases e
    · cases e
  · cases e
theorem smSAdd_ok {id : String} {l r' : List Nat} {t u : Nat} (e : smSAdd V.t₀ (S.codeS id) l r' T m i q = some r) (hc : ∀ z ∈ r.cs, z) (D : Rep V h₀ h T m) (x' : Cont V h₀ g d os Q r) : Done V w h g d os A Q i id [.str ⟨⟨l⟩⟩ t, .str ⟨⟨r'⟩⟩ u] := by
  unfold smSAdd at e
  split at e
  · rename_i hk; cases id_sadd hk
    cases e
    have cl : l ≠ [] ∧ r' ≠ [] ∧ (l ++ r').length ≤ 100000 := hc _ (.head _)
    have h1 : ((⟨⟨l⟩⟩ : Str).length == 0) = false := by
      show (l.length == 0) = false
      cases l with | nil => exact absurd rfl cl.1 | cons => rfl
    have h2 : ((⟨⟨r'⟩⟩ : Str).length == 0) = false := by
      show (r'.length == 0) = false
      cases r' with | nil => exact absurd rfl cl.2.1 | cons => rfl
    have hg := gives_str_add ⟨⟨l⟩⟩ ⟨⟨r'⟩⟩ t u
    rw [h1, h2, if_neg Bool.false_ne_true, if_neg Bool.false_ne_true] at hg
    have ha : ((⟨⟨l⟩⟩ : Str) ++ (⟨⟨r'⟩⟩ : Str)) = ⟨⟨l ++ r'⟩⟩ := by
      show (⟨(⟨l⟩ : Array Nat) ++ (⟨r'⟩ : Array Nat)⟩ : Str) = _
      simp
    refine call_gives F.slot_str_add (typeIs_str _ _ _) F.entry_str_add (F.args_str_add_2 _ _) hg ?_
    rw [ha]
    exact ⟨by show (l ++ r').length ≤ sizeLine; rw [sizeLine_eq]; (first | lia | omega), x' h D⟩
  · cases e
theorem smSAdd0_ok {id : String} {l r' : List Nat} {t u : Nat} (e : smSAdd0 (S.codeS id) l r' t T m i q = some r) (hc : ∀ z ∈ r.cs, z) (D : Rep V h₀ h T m) (x' : Cont V h₀ g d os Q r) : Done V w h g d os A Q i id [.str ⟨⟨l⟩⟩ t, .str ⟨⟨r'⟩⟩ u] := by
  unfold smSAdd0 at e
  split at e
  · rename_i hk; cases id_sadd hk
    split at e
    · cases e
      have cl : l ≠ [] := hc _ (.head _)
      have h1 : ((⟨⟨l⟩⟩ : Str).length == 0) = false := by
        show (l.length == 0) = false
        cases l with | nil => exact absurd rfl cl | cons => rfl
      have hg := gives_str_add ⟨⟨l⟩⟩ ⟨⟨[]⟩⟩ t u
      rw [h1, if_neg Bool.false_ne_true, show ((⟨⟨[]⟩⟩ : Str).length == 0) = true from rfl, if_pos rfl] at hg
      exact call_gives F.slot_str_add (typeIs_str _ _ _) F.entry_str_add (F.args_str_add_2 _ _) hg (x' h D)
    · cases e
  · cases e
theorem smRepl_ok {id : String} {x y z : List Nat} {t u v : Nat} (e : smRepl V.t₀ (S.codeS id) x y z t u v T m i q = some r) (hc : ∀ z ∈ r.cs, z) (D : Rep V h₀ h T m) (x' : Cont V h₀ g d os Q r) : Done V w h g d os A Q i id [.str ⟨⟨x⟩⟩ t, .str ⟨⟨y⟩⟩ u, .str ⟨⟨z⟩⟩ v] := by
  unfold smRepl at e
  split at e
  · rename_i hk; cases id_srepl hk
    split at e
    · rename_i hb
      cases e
      have hg := gives_str_replace ⟨⟨x⟩⟩ ⟨⟨y⟩⟩ ⟨⟨z⟩⟩ t u v (fun hn => by
        have hb' : ((Builtin.Str.occurrences ⟨⟨x⟩⟩ ⟨⟨y⟩⟩ 0 x.length (x.length + 1)).isEmpty || (y.length == 0 && z.length == 0)) = true := hb
        have hn' : ((Builtin.Str.occurrences ⟨⟨x⟩⟩ ⟨⟨y⟩⟩ 0 x.length (x.length + 1)).isEmpty || (y.length == 0 && z.length == 0)) = false := hn
        rw [hb'] at hn'; exact absurd hn' (by simp))
      rw [if_pos (show ((Builtin.Str.occurrences ⟨⟨x⟩⟩ ⟨⟨y⟩⟩ 0 (⟨⟨x⟩⟩ : Str).length ((⟨⟨x⟩⟩ : Str).length + 1)).isEmpty || ((⟨⟨y⟩⟩ : Str).length == 0 && (⟨⟨z⟩⟩ : Str).length == 0)) = true from hb)] at hg
      exact call_gives F.slot_str_replace (typeIs_str _ _ _) F.entry_str_replace (F.args_str_replace_3 _ _ _) hg (x' h D)
    · rename_i hb
      split at e
      · cases e
      · rename_i hyz
        split at e
        · cases e
        · rename_i hl
          split at e
          · cases e
          rename_i hle
          cases e
          have cc : u ≠ 0 ∧ v ≠ 0 ∧ u ≠ v := hc _ (.head _)
          have hg := gives_str_replace ⟨⟨x⟩⟩ ⟨⟨y⟩⟩ ⟨⟨z⟩⟩ t u v (fun _ => ⟨by simp [cc.1, cc.2.1], by simp [cc.2.2], hyz, hl⟩)
          have hb' : ¬ ((Builtin.Str.occurrences ⟨⟨x⟩⟩ ⟨⟨y⟩⟩ 0 (⟨⟨x⟩⟩ : Str).length ((⟨⟨x⟩⟩ : Str).length + 1)).isEmpty || ((⟨⟨y⟩⟩ : Str).length == 0 && (⟨⟨z⟩⟩ : Str).length == 0)) = true := by
            rw [show ((Builtin.Str.occurrences ⟨⟨x⟩⟩ ⟨⟨y⟩⟩ 0 (⟨⟨x⟩⟩ : Str).length ((⟨⟨x⟩⟩ : Str).length + 1)).isEmpty || ((⟨⟨y⟩⟩ : Str).length == 0 && (⟨⟨z⟩⟩ : Str).length == 0)) = false from hb]
            exact Bool.false_ne_true
          rw [if_neg hb'] at hg
          refine call_gives F.slot_str_replace (typeIs_str _ _ _) F.entry_str_replace (F.args_str_replace_3 _ _ _) hg ?_
          exact ⟨by show (Builtin.Str.glued ⟨⟨z⟩⟩ (Builtin.Str.partsBetween ⟨⟨x⟩⟩ (occL x y) y.length)).length ≤ sizeLine; rw [sizeLine_eq]; have := Nat.le_of_ble_eq_true hle; (first | lia | omega), x' h D⟩
  · cases e
theorem smSCnt_ok {id : String} {l r' : List Nat} {t u : Nat} (e : smSCnt V.t₀ (S.codeS id) l r' T m i q = some r) (D : Rep V h₀ h T m) (x' : Cont V h₀ g d os Q r) : Done V w h g d os A Q i id [.str ⟨⟨l⟩⟩ t, .str ⟨⟨r'⟩⟩ u] := by
  unfold smSCnt at e
  split at e
  · rename_i hk; cases id_scount hk
    cases e
    exact call_gives F.slot_str_count (typeIs_str _ _ _) F.entry_str_count (F.args_str_count_2 _ _) (gives_str_count ⟨⟨l⟩⟩ ⟨⟨r'⟩⟩ t u) (x' h D)
  · cases e
theorem smPop_ok (O : V.Ok w h₀) {id : String} {a : Nat} (e : smPop V gv (S.codeS id) a T m i q = some r) (he : ∀ z ∈ r.es, z.1 = z.2) (hc : ∀ z ∈ r.cs, z) (D : Rep V h₀ h T m) (x' : Cont V h₀ g d os Q r) : Done V w h g d os A Q i id [.ref a] := by
  unfold smPop at e
  split at e
  · rename_i hk; cases id_lpop hk
    split at e
    · rename_i ol hol
      split at e
      · rename_i xs ep hs
        split at e
        · rename_i v hv
          cases e
          have ea : a = adr V (q % 256) := he _ (.head _)
          obtain ⟨cv, cl⟩ : xs.getLast? = some v ∧ xs.length ≤ 100000 := hc _ (.head _)
          have hl := (D.own _ _ hol).2
          rw [asList_eq hs, ← ea] at hl
          have hne : xs ≠ [] := by intro z; subst z; cases cv
          have hlen : 0 < xs.length := List.length_pos_iff.mpr hne
          have hy : (⟨xs⟩ : Array Value)[(⟨xs⟩ : Array Value).size - 1]? = some v := by
            rw [List.getLast?_eq_getElem?] at cv
            simpa using cv
          refine call_meets F.slot_list_pop ⟨_, hl, rfl⟩ F.entry_list_pop (F.args_list_pop_1 _) (MeetsSeq.list_pop_last a ⟨xs⟩ ep v hy (by show xs.length ≤ sizeLine; rw [sizeLine_eq]; (first | lia | omega))) ⟨hl, x' _ ?_⟩
          have hs' : Heap.SameBut (adr V (q % 256)) h (h.update a (Obj.mapSeq fun y => y.eraseIdxIfInBounds ((⟨xs⟩ : Array Value).size - 1))) := ea ▸ Heap.SameBut.update ..
          refine D.put O hol hs' ?_
          have hm : Obj.mapSeq (fun y => y.eraseIdxIfInBounds ((⟨xs⟩ : Array Value).size - 1)) (lsO xs ep) = lsO xs.dropLast (ep + 1) := by
            refine mapSeq_to ?_ (by rw [List.length_dropLast]; (first | lia | omega))
            have hi : (⟨xs⟩ : Array Value).size - 1 < (⟨xs⟩ : Array Value).size := by show xs.length - 1 < xs.length; (first | lia | omega)
            rw [Array.eraseIdxIfInBounds, dif_pos hi]
            simp only [List.eraseIdx_toArray]
            have key : ∀ (l : List Value), l.eraseIdx (l.length - 1) = l.dropLast := by
              intro l
              induction l with
              | nil => rfl
              | cons y l ih =>
                cases l with
                | nil => rfl
                | cons z l => simpa using ih
            exact congrArg Array.mk (key xs)
          rw [← ea, Heap.get?_update_self _ hl (by rw [hm]; rfl), hm]
        · cases e
      · cases e
    · cases e
  · cases e
theorem smRev_ok (O : V.Ok w h₀) {id : String} {a : Nat} (e : smRev V (S.codeS id) a T m i q = some r) (he : ∀ z ∈ r.es, z.1 = z.2) (hc : ∀ z ∈ r.cs, z) (D : Rep V h₀ h T m) (x' : Cont V h₀ g d os Q r) : Done V w h g d os A Q i id [.ref a] := by
  unfold smRev at e
  split at e
  · rename_i hk; cases id_lrev hk
    split at e
    · rename_i ol hol
      split at e
      · rename_i xs ep hs
        cases e
        have ea : a = adr V (q % 256) := he _ (.head _)
        have cl : xs.length ≤ 100000 := hc _ (.head _)
        have hl := (D.own _ _ hol).2
        rw [asList_eq hs, ← ea] at hl
        refine call_meets F.slot_list_reverse ⟨_, hl, rfl⟩ F.entry_list_reverse (F.args_list_reverse_1 _) (AutoListH.list_reverse_list_0 a ⟨xs⟩ ep (by show xs.length ≤ sizeLine; rw [sizeLine_eq]; (first | lia | omega))) ⟨hl, x' _ ?_⟩
        have hs' : Heap.SameBut (adr V (q % 256)) h (h.update a (Obj.mapSeq fun y => y.reverse)) := ea ▸ Heap.SameBut.update ..
        refine D.put O hol hs' ?_
        have hm : Obj.mapSeq (fun y => y.reverse) (lsO xs ep) = lsO xs.reverse ep := by
          show (⟨.type "list", none, .seq ((⟨xs⟩ : Array Value).reverse) (if ((⟨xs⟩ : Array Value).reverse).size == (⟨xs⟩ : Array Value).size then ep else ep + 1), #[]⟩ : Obj) = _
          simp [lsO]
        rw [← ea, Heap.get?_update_self _ hl (by rw [hm]; rfl), hm]
      · cases e
    · cases e
  · cases e
theorem smI_ok {id : String} {x : Int} {t n : Nat} {l : List Value} (e : smI V n (S.codeS id) x l T m i q = some r) (hc : ∀ z ∈ r.cs, z) (D : Rep V h₀ h T m) (x' : Cont V h₀ g d os Q r) : Done V w h g d os A Q i id (.int x t :: l) := by
  cases l with
  | nil => cases e
  | cons v l =>
    cases l with
    | cons _ _ => cases e
    | nil =>
      cases v with
      | int y u => exact match n, e with
        | 0, e => smCmp_ok e hc D x'
        | 1, e => smAri_ok e D x'
        | 2, e => smMul_ok e hc D x'
        | 3, e => smTold_ok e hc D x'
        | _ + 4, e => nomatch e
      | _ => cases e
theorem smA_ok (O : V.Ok w h₀) {id : String} {a n : Nat} {l : List Value} (e : smA V gv n (S.codeS id) a l T m i q = some r) (he : ∀ z ∈ r.es, z.1 = z.2) (hc : ∀ z ∈ r.cs, z) (D : Rep V h₀ h T m) (x' : Cont V h₀ g d os Q r) : Done V w h g d os A Q i id (.ref a :: l) := by
  cases l with
  | nil => exact match n, e with
    | 0, e => smNext_ok O e he hc D x'
    | 1, e => smLen_ok e he hc D x'
    | 2, e => smRit_ok O e he hc D x'
    | 3, e => smPop_ok O e he hc D x'
    | 4, e => smRev_ok O e he hc D x'
    | _ + 5, e => nomatch e
  | cons v l =>
    cases l with
    | nil =>
      cases n with
      | zero => exact smApp_ok O e he hc D x'
      | succ n =>
        cases n with
        | zero =>
          cases v with
          | int x _ => exact smGet_ok e he hc D x'
          | _ => cases e
        | succ n => cases e
    | cons u l =>
      cases l with
      | cons _ _ => cases e
      | nil =>
        cases n with
        | zero =>
          cases v with
          | int x _ => exact smIns_ok O e he hc D x'
          | _ => cases e
        | succ n => cases e
theorem smT_ok {id : String} {x : List Nat} {t n : Nat} {l : List Value} (e : smT V n (S.codeS id) x t l T m i q = some r) (hc : ∀ z ∈ r.cs, z) (D : Rep V h₀ h T m) (x' : Cont V h₀ g d os Q r) : Done V w h g d os A Q i id (.str ⟨⟨x⟩⟩ t :: l) := by
  cases l with
  | nil => cases e
  | cons v l =>
    cases v with
    | str y u =>
      cases l with
      | nil => exact match n, e with
        | 0, e => smSAdd_ok e hc D x'
        | 1, e => smSCnt_ok e D x'
        | 2, e => smSAdd0_ok e hc D x'
        | _ + 3, e => nomatch e
      | cons z l =>
        cases l with
        | cons _ _ => cases e
        | nil =>
          cases z with
          | str z v =>
            cases n with
            | zero => exact smRepl_ok e hc D x'
            | succ n => cases e
          | _ => cases e
    | _ => cases e
theorem smAll_ok (O : V.Ok w h₀) {n : Nat} {c' : Code} (e : smAll V gv n c' T m i q = some r) (he : ∀ z ∈ r.es, z.1 = z.2) (hc : ∀ z ∈ r.cs, z) (D : Rep V h₀ h T m) (x' : Cont V h₀ g d os Q r) : ∀ (Γ : Ctx) (p : Pos), Γ.In A → wpCode (model V.prog w) (Γ.enter c' none p) Q p ⟨h, g, d, V.t₀ + i, os⟩ := by
  cases c' with
  | call f as =>
    obtain ⟨pos, kw⟩ := as
    cases kw with
    | cons _ _ => cases e
    | nil =>
      cases f with
      | builtin id =>
        refine sm_of_call ?_
        cases pos with
        | nil => cases e
        | cons v l =>
          cases v with
          | int x t => exact smI_ok e hc D x'
          | ref a => exact smA_ok O e he hc D x'
          | str s t => exact smT_ok e hc D x'
          | _ => cases e
      | _ => cases e
  | _ => cases e
end
noncomputable def mkV (P : Params) (prog : Program) (top : Nat → Option Obj) (gv : List Value) (ps : List Nat) (p B t₀ : Nat) : RV :=
  ⟨P, prog, top, ps, p, B, t₀, smAll ⟨P, prog, top, ps, p, B, t₀, fun _ _ _ _ _ _ => none⟩ gv⟩
theorem mkV_sm {P : Params} {prog : Program} {top : Nat → Option Obj} {gv : List Value} {ps : List Nat} {p B t₀ : Nat} {w : World} {h₀ : Heap} (O : (mkV P prog top gv ps p B t₀).Ok w h₀) : SmOk (mkV P prog top gv ps p B t₀) w h₀ := by
  intro n c' T m i q r h g d os A Q e he hc D _ x' Γ pp hΓ
  have O' : RV.Ok ⟨P, prog, top, ps, p, B, t₀, fun _ _ _ _ _ _ => none⟩ w h₀ := ⟨O.par, O.size, O.plen, O.nodup, O.lt, O.top⟩
  exact smAll_ok O' e he hc ⟨D.size, D.own, D.keep⟩ (fun h' D' => x' h' ⟨D'.size, D'.own, D'.keep⟩) Γ pp hΓ
end
end Mine

end
section
open PySem PySem.W PySem.W.X PyProof.Rows
set_option maxRecDepth 100000
set_option Elab.async false
set_option maxHeartbeats 2000000
set_option genInjectivity false
set_option genSizeOfSpec false
namespace Mine
noncomputable section
/-! the world's rows that the text asks -/
noncomputable def row1 : Nat := 10139888712337904147300001983332972444938612
noncomputable def row2 : Nat := 41713534423588440486387129778652049616807117621888181212357554279
noncomputable def row3 : Nat := 2510650655181157320538776789020469319833841985448949215332
noncomputable def setRows (P : Params) (b1 b2 b3 : Bool) : Params := { P with followText := fun s => match Nat.beq (S.codeS s) row1 with
  | true => b1
  | false => match Nat.beq (S.codeS s) row2 with
    | true => b2
    | false => match Nat.beq (S.codeS s) row3 with
      | true => b3
      | false => P.followText s }
theorem setRows_is (P : Params) : setRows P (P.followText "special-get-raises") (P.followText "for-iterable-display-folded") (P.followText "comprehension-iter-twice") = P := by
  have : (fun s => match Nat.beq (S.codeS s) row1 with
      | true => P.followText "special-get-raises"
      | false => match Nat.beq (S.codeS s) row2 with
        | true => P.followText "for-iterable-display-folded"
        | false => match Nat.beq (S.codeS s) row3 with
          | true => P.followText "comprehension-iter-twice"
          | false => P.followText s) = P.followText := by
    funext s
    split
    · rename_i h; rw [id_of h (x := "special-get-raises") (by decide +kernel)]
    · split
      · rename_i h; rw [id_of h (x := "for-iterable-display-folded") (by decide +kernel)]
      · split
        · rename_i h; rw [id_of h (x := "comprehension-iter-twice") (by decide +kernel)]
        · rfl
  unfold setRows
  rw [this]
/-! frames and dicts by str keys, their hashes and tokens any -/
noncomputable abbrev Vs := List (List Nat × Value)
noncomputable def entF (aux : Nat → Int × Nat) : Nat → Vs → List DictEntry
  | _, [] => []
  | n, (nm, v) :: r => ⟨(aux n).1, .str ⟨⟨nm⟩⟩ (aux n).2, v⟩ :: entF aux (n + 1) r
noncomputable def dicF (cn : String) (vs : Vs) (aux : Nat → Int × Nat) (ep : Nat) : Obj := { cls := .type cn, dict := none, data := .dict ⟨entF aux 0 vs⟩ ep, slots := #[] }
noncomputable def IsDic (h : Heap) (a : Nat) (cn : String) (vs : Vs) : Prop := ∃ aux ep, h.get? a = some (dicF cn vs aux ep)
noncomputable def viewEs : List DictEntry → Option Vs
  | [] => some []
  | ⟨_, key, v⟩ :: r => match key with
    | .str ⟨⟨nm⟩⟩ _ => match viewEs r with
      | some l => some ((nm, v) :: l)
      | none => none
    | _ => none
noncomputable def t_frame : Nat := 439938610023
noncomputable def t_dict : Nat := 1969515109
theorem ty_frame {id : String} (h : Nat.beq (S.codeS id) t_frame = true) : id = "frame" := id_of h (by decide +kernel)
theorem ty_dict {id : String} (h : Nat.beq (S.codeS id) t_dict = true) : id = "dict" := id_of h (by decide +kernel)
noncomputable def viewB (cn : String) (vs : Vs) : Option (Bool × Vs) := match Nat.beq (S.codeS cn) t_frame with
  | true => some (true, vs)
  | false => match Nat.beq (S.codeS cn) t_dict with
    | true => some (false, vs)
    | false => none
noncomputable def viewD (o : Obj) : Option (Bool × Vs) := match o with
  | ⟨.type cn, none, .dict ⟨es⟩ _, ⟨[]⟩⟩ => match viewEs es with
    | some vs => viewB cn vs
    | none => none
  | _ => none
noncomputable def dicN : Bool → String
  | true => "frame"
  | false => "dict"
theorem viewB_eq {cn : String} {vs vs' : Vs} {b : Bool} (h : viewB cn vs = some (b, vs')) : cn = dicN b ∧ vs = vs' := by
  unfold viewB at h
  cases h1 : Nat.beq (S.codeS cn) t_frame with
  | true => rw [h1] at h; cases h; exact ⟨ty_frame h1, rfl⟩
  | false =>
    cases h2 : Nat.beq (S.codeS cn) t_dict with
    | true => rw [h1, h2] at h; cases h; exact ⟨ty_dict h2, rfl⟩
    | false => rw [h1, h2] at h; cases h
theorem viewEs_eq : ∀ (es : List DictEntry) (vs : Vs), viewEs es = some vs → ∃ aux : Nat → Int × Nat, ∀ n, entF (fun k => aux (k - n)) n vs = es
  | [], vs, e => by cases e; exact ⟨fun _ => (0, 0), fun _ => rfl⟩
  | ⟨hs, key, v⟩ :: r, vs, e => by
    cases key with
    | str nm t =>
      obtain ⟨⟨nm⟩⟩ := nm
      have e : (match viewEs r with | some l => some ((nm, v) :: l) | none => none) = some vs := e
      cases hl : viewEs r with
      | none => rw [hl] at e; cases e
      | some l =>
        rw [hl] at e
        cases e
        obtain ⟨aux, ha⟩ := viewEs_eq r l hl
        refine ⟨fun k => match k with | 0 => (hs, t) | k + 1 => aux k, fun n => ?_⟩
        have hz : n - n = 0 := Nat.sub_self n
        show (⟨((fun k => (match k - n with | 0 => (hs, t) | k + 1 => aux k : Int × Nat)) n).1, .str ⟨⟨nm⟩⟩ ((fun k => (match k - n with | 0 => (hs, t) | k + 1 => aux k : Int × Nat)) n).2, v⟩ : DictEntry) :: entF _ (n + 1) l = _
        rw [← ha (n + 1)]
        simp only [hz]
        congr 1
        have key : ∀ (l : Vs) (j : Nat), n + 1 ≤ j → entF (fun k => (match k - n with | 0 => (hs, t) | k + 1 => aux k : Int × Nat)) j l = entF (fun k => aux (k - (n + 1))) j l := by
          intro l
          induction l with
          | nil => intro j _; rfl
          | cons x l ih =>
            intro j hj
            obtain ⟨y, z⟩ := x
            have h1 : j - n = (j - (n + 1)) + 1 := by (first | lia | omega)
            simp only [entF, h1]
            rw [ih (j + 1) (by (first | lia | omega))]
        exact key l (n + 1) (Nat.le_refl _)
    | _ => cases e
theorem viewD_eq {o : Obj} {b : Bool} {vs : Vs} (e : viewD o = some (b, vs)) : ∃ aux ep, o = dicF (dicN b) vs aux ep := by
  obtain ⟨c, d, dt, sl⟩ := o
  cases c with
  | type cn =>
    cases d with
    | some _ => cases e
    | none =>
      cases dt with
      | dict es ep =>
        obtain ⟨es⟩ := es
        obtain ⟨sl⟩ := sl
        cases sl with
        | cons _ _ => cases e
        | nil =>
          have e : (match viewEs es with | some vs => viewB cn vs | none => none) = some (b, vs) := e
          cases hv : viewEs es with
          | none => rw [hv] at e; cases e
          | some vs' =>
            rw [hv] at e
            obtain ⟨rfl, rfl⟩ := viewB_eq e
            obtain ⟨aux, ha⟩ := viewEs_eq _ _ hv
            refine ⟨fun k => aux (k - 0), ep, ?_⟩
            show _ = (⟨.type (dicN b), none, .dict ⟨entF (fun k => aux (k - 0)) 0 vs'⟩ ep, #[]⟩ : Obj)
            rw [ha 0]
      | _ => cases e
  | _ => cases e
/-! from a run told to a contract -/
noncomputable def btGo : BT → Nat → List Obj → Option BT
  | T, _, [] => some T
  | T, m, o :: os => match (T.ins m o).get m with
    | some _ => btGo (T.ins m o) (m + 1) os
    | none => none
noncomputable def btOf (os : List Obj) : BT := match btGo .nil 0 os with
  | some T => T
  | none => .nil
theorem btGo_get : ∀ (os : List Obj) (T : BT) (m : Nat) (T' : BT), btGo T m os = some T' → ∀ j o, T'.get j = some o → T.get j = some o ∨ (m ≤ j ∧ os[j - m]? = some o)
  | [], T, m, T', e, j, o, h => by cases e; exact .inl h
  | x :: os, T, m, T', e, j, o, h => by
    unfold btGo at e
    split at e
    · rename_i o' ho'
      rcases btGo_get os _ _ _ e j o h with h1 | ⟨h1, h2⟩
      · rw [BT.get_ins x T m (by rw [ho']; rfl)] at h1
        by_cases hj : j = m
        · subst hj
          rw [if_pos rfl] at h1
          cases h1
          exact .inr ⟨Nat.le_refl _, by simp⟩
        · rw [if_neg hj] at h1
          exact .inl h1
      · refine .inr ⟨by (first | lia | omega), ?_⟩
        have : j - m = (j - (m + 1)) + 1 := by (first | lia | omega)
        rw [this]
        simpa using h2
    · cases e
theorem btOf_get {os : List Obj} {j : Nat} {o : Obj} (h : (btOf os).get j = some o) : os[j]? = some o := by
  unfold btOf at h
  split at h
  · rename_i T hT
    rcases btGo_get os _ _ _ hT j o h with h1 | ⟨_, h2⟩
    · cases h1
    · simpa using h2
  · cases h
noncomputable abbrev Led := List (Nat × Obj)
noncomputable def TopOk (top : Nat → Option Obj) (h : Heap) : Prop := ∀ a o, top a = some o → h.get? a = some o
noncomputable def TopSep (top : Nat → Option Obj) : Prop := ∀ a o, top a = some o → a < 143 ∧ a ≠ 97 ∧ a ≠ 139
structure Pre (top : Nat → Option Obj) (h : Heap) (L : Led) : Prop where
  top : TopOk top h
  has : ∀ p ∈ L, h.get? p.1 = some p.2
  nd : (L.map (·.1)).Nodup
  low : ∀ p ∈ L, p.1 = 97 ∨ p.1 = 139 ∨ 143 ≤ p.1
noncomputable def vOf (P : Params) (top : Nat → Option Obj) (gv : List Value) (L : Led) (B t₀ : Nat) : RV := mkV P PySem.Challenge.pw_qu0021_01 top gv (L.map (·.1)) L.length B t₀
section
variable {top : Nat → Option Obj} {h : Heap} {L : Led} {P : Params} {gv : List Value} {t₀ : Nat} {w : World}
theorem Pre.ok (p : Pre top h L) (sep : TopSep top) (hP : P = w.params) : (vOf P top gv L h.objs.size t₀).Ok w h := by
  refine ⟨hP, rfl, List.length_map .., p.nd, fun a ha => ?_, fun a o e => ⟨p.top a o e, fun ha => ?_⟩⟩
  · obtain ⟨x, hx, rfl⟩ := List.mem_map.mp ha
    exact Heap.lt_size (p.has x hx)
  · obtain ⟨x, hx, rfl⟩ := List.mem_map.mp ha
    have := sep _ _ e
    have := p.low x hx
    (first | lia | omega)
theorem Pre.rep (p : Pre top h L) : Rep (vOf P top gv L h.objs.size t₀) h h (btOf (L.map (·.2))) 0 := by
  refine ⟨rfl, fun j o e => ?_, fun _ _ e _ => e⟩
  have hj := btOf_get e
  rw [List.getElem?_map] at hj
  cases hL : L[j]? with
  | none => rw [hL] at hj; cases hj
  | some x =>
    rw [hL] at hj
    cases hj
    obtain ⟨hlt, hx⟩ := List.getElem?_eq_some_iff.mp hL
    refine ⟨hlt, ?_⟩
    have : adr (vOf P top gv L h.objs.size t₀) j = x.1 := by
      unfold adr
      show (match nthA (L.map (·.1)) j with | some a => a | none => _) = _
      rw [nthA_is, List.getElem?_map, hL]; rfl
    rw [this]
    exact p.has x (List.mem_of_getElem? hL)
end
inductive Ob where
  | fin (r : Result)
  | call (c : Code)
  | again (c : Code)
  | bad (n : Nat)
noncomputable def isBase : RK → Bool
  | .base => true
  | .ret .. => false
theorem isBase_eq {κ : RK} (h : isBase κ = true) : κ = .base := by cases κ <;> first | rfl | cases h
noncomputable def seen (V : RV) (s : RS) (js : List Nat) : List (Nat × Option Obj) := js.map fun j => (adr V j, s.T.get j)
noncomputable def seenD (V : RV) (s : RS) (js : List Nat) : List (Nat × Option (Bool × Vs)) := js.map fun j => (adr V j, match s.T.get j with | some o => viewD o | none => none)
structure Tale where
  ob : Ob
  d : Nat
  m : Nat
  i : Nat
  base : Bool
  F : List (Nat × Option Obj)
  G : List (Nat × Option (Bool × Vs))
  cs : List Prop
  e : List Nat
noncomputable def RO.tale (V : RV) (js ks : List Nat) : RO → Tale
  | .fin r s => ⟨.fin r, s.d, s.m, s.i, isBase s.κ, seen V s js, seenD V s ks, s.cs, s.es.map (·.1)⟩
  | .call c _ s => ⟨.call c, s.d, s.m, s.i, isBase s.κ, seen V s js, seenD V s ks, s.cs, s.es.map (·.1)⟩
  | .again c s => ⟨.again c, s.d, s.m, s.i, isBase s.κ, seen V s js, seenD V s ks, s.cs, s.es.map (·.1)⟩
  | .bad n => ⟨.bad n, 0, 0, 0, true, [], [], [], []⟩
noncomputable def RO.eR (o : RO) : List Nat := o.es.map (·.2)
@[reducible] noncomputable def IsT (p : Tale × Tale) : Prop := p.1 = p.2
@[reducible] noncomputable def toldp (V : RV) (o : RO) (js ks : List Nat) (ob : Ob) (d m i : Nat) (b : Bool) (F : List (Nat × Option Obj)) (G : List (Nat × Option (Bool × Vs))) (cs : List Prop) : Tale × Tale := (o.tale V js ks, ⟨ob, d, m, i, b, F, G, cs, o.eR⟩)
@[reducible] noncomputable def told (V : RV) (o : RO) (js ks : List Nat) (ob : Ob) (d m i : Nat) (b : Bool) (F : List (Nat × Option Obj)) (G : List (Nat × Option (Bool × Vs))) (cs : List Prop) : Prop := IsT (toldp V o js ks ob d m i b F G cs)
noncomputable def startC (c : Code) (T : BT) (q : Nat) : RS := ⟨c, .base, 0, denZ c, T, 0, 0, q, [], []⟩
@[reducible] noncomputable def toldLp (P : Params) (top : Nat → Option Obj) (gv : List Value) (L : Led) (B t₀ n : Nat) (c : Code) (q : Nat) (js ks : List Nat) (ob : Ob) (d m i : Nat) (b : Bool) (F : List (Nat × Option Obj)) (G : List (Nat × Option (Bool × Vs))) (cs : List Prop) : Tale × Tale := toldp (vOf P top gv L B t₀) (runQ (vOf P top gv L B t₀) n (startC c (btOf (L.map (·.2))) q)) js ks ob d m i b F G cs
@[reducible] noncomputable def toldL (P : Params) (top : Nat → Option Obj) (gv : List Value) (L : Led) (B t₀ n : Nat) (c : Code) (q : Nat) (js ks : List Nat) (ob : Ob) (d m i : Nat) (b : Bool) (F : List (Nat × Option Obj)) (G : List (Nat × Option (Bool × Vs))) (cs : List Prop) : Prop := IsT (toldLp P top gv L B t₀ n c q js ks ob d m i b F G cs)
noncomputable def RO.resume (o : RO) (r : Result) (T : BT) (q : Nat) : RS := match o with
  | .call _ k s => ⟨s.c, s.κ, s.d, k r, T, 0, 0, q, [], []⟩
  | _ => ⟨.builtin "mine" {}, .base, 0, .unsupported "mine", T, 0, 0, q, [], []⟩
noncomputable def HasO (h : Heap) (F : List (Nat × Option Obj)) : Prop := ∀ p ∈ F, ∀ o, p.2 = some o → h.get? p.1 = some o
noncomputable def HasD (h : Heap) (G : List (Nat × Option (Bool × Vs))) : Prop := ∀ p ∈ G, ∀ b vs, p.2 = some (b, vs) → IsDic h p.1 (dicN b) vs
/-- what a heap is behind a run -/
structure Behind (h₀ h : Heap) (L : Led) (m : Nat) (F : List (Nat × Option Obj)) (G : List (Nat × Option (Bool × Vs))) : Prop where
  size : h.objs.size = h₀.objs.size + m
  has : HasO h F
  dic : HasD h G
  keep : ∀ b o, h₀.get? b = some o → b ∉ L.map (·.1) → h.get? b = some o
/-- a plain change: only these addresses may be other -/
structure Chg (h h' : Heap) (ls : List Nat) : Prop where
  size : h.objs.size ≤ h'.objs.size
  keep : ∀ b o, h.get? b = some o → b ∉ ls → h'.get? b = some o
theorem Behind.chg {h₀ h : Heap} {L : Led} {m : Nat} {F : List (Nat × Option Obj)} {G : List (Nat × Option (Bool × Vs))} (b : Behind h₀ h L m F G) : Chg h₀ h (L.map (·.1)) := ⟨by rw [b.size]; (first | lia | omega), b.keep⟩
theorem Behind.at {h₀ h : Heap} {L : Led} {m : Nat} {F : List (Nat × Option Obj)} {G : List (Nat × Option (Bool × Vs))} (b : Behind h₀ h L m F G) (k : Nat) {a : Nat} {o : Obj} (e : F[k]? = some (a, some o)) : h.get? a = some o := b.has _ (List.mem_of_getElem? e) o rfl
theorem Behind.dicAt {h₀ h : Heap} {L : Led} {m : Nat} {F : List (Nat × Option Obj)} {G : List (Nat × Option (Bool × Vs))} (b : Behind h₀ h L m F G) (k : Nat) {a : Nat} {bb : Bool} {vs : Vs} (e : G[k]? = some (a, some (bb, vs))) : IsDic h a (dicN bb) vs := b.dic _ (List.mem_of_getElem? e) bb vs rfl
theorem TopOk.chg {top : Nat → Option Obj} {h h' : Heap} {ls : List Nat} (t : TopOk top h) (sep : TopSep top) (c : Chg h h' ls) (low : ∀ a ∈ ls, a = 97 ∨ a = 139 ∨ 143 ≤ a) : TopOk top h' := fun a o e => c.keep a o (t a o e) fun ha => by have := sep a o e; have := low a ha; (first | lia | omega)
noncomputable def AllC : List Prop → Prop
  | [] => True
  | p :: r => p ∧ AllC r
theorem allC : ∀ {cs : List Prop}, AllC cs → ∀ x ∈ cs, x
  | [], _, _, hm => nomatch hm
  | p :: r, ⟨h1, h2⟩, x, hm => by
    rcases List.mem_cons.mp hm with rfl | hm
    · exact h1
    · exact allC h2 x hm
theorem map_eq_all {es : List (Nat × Nat)} (h : es.map (·.1) = es.map (·.2)) : ∀ e ∈ es, e.1 = e.2 := by
  induction es with
  | nil => intro _ hm; cases hm
  | cons x es ih =>
    rw [List.map_cons, List.map_cons] at h
    injection h with h1 h2
    intro e he
    rcases List.mem_cons.mp he with rfl | he
    · exact h1
    · exact ih h2 e he
section
variable {top : Nat → Option Obj} {h : Heap} {L : Led} {P : Params} {gv : List Value} {t₀ : Nat} {w : World} {A : Around} {R : Result → Shared → Prop} {g : Array GenState} {dr : Drawn} {os : OsState}
noncomputable abbrev Md (w : World) : Model := model PySem.Challenge.pw_qu0021_01 w
noncomputable abbrev GoalP (w : World) (A : Around) (R : Result → Shared → Prop) (κ : RK) (c : Code) (t : Sem PySem.Fin) (s : Shared) : Prop := Goal PySem.Challenge.pw_qu0021_01 w A R κ c t s
noncomputable abbrev finP (w : World) (A : Around) (R : Result → Shared → Prop) (κ : RK) : Result → Shared → Prop := RK.fin PySem.Challenge.pw_qu0021_01 w A R κ
theorem behind_of {m : Nat} {js ks : List Nat} {F : List (Nat × Option Obj)} {G : List (Nat × Option (Bool × Vs))} {s : RS} {h' : Heap} (D : Rep (vOf P top gv L h.objs.size t₀) h h' s.T s.m) (hF : seen (vOf P top gv L h.objs.size t₀) s js = F) (hG : seenD (vOf P top gv L h.objs.size t₀) s ks = G) (hm : s.m = m) : Behind h h' L m F G := by
  subst hF hG hm
  refine ⟨D.size, fun p hp o e => ?_, fun p hp b vs e => ?_, fun b o e q => D.keep b o e q⟩
  · obtain ⟨j, _, rfl⟩ := List.mem_map.mp hp
    exact (D.own _ _ e).2
  · obtain ⟨j, _, rfl⟩ := List.mem_map.mp hp
    dsimp only at e
    split at e
    · rename_i o ho
      obtain ⟨aux, ep, hx⟩ := viewD_eq e
      exact ⟨aux, ep, by rw [← hx]; exact (D.own _ _ ho).2⟩
    · cases e
/-- a run that comes to its end -/
theorem run_goal (p : Pre top h L) (sep : TopSep top) (hP : P = w.params) (a : ARoom A) {n : Nat} {js ks : List Nat} {s : RS} {tl : Tale} (I : Inv s) (hT : s.T = btOf (L.map (·.2))) (hm : s.m = 0) (hi : s.i = 0)
    (H : (runQ (vOf P top gv L h.objs.size t₀) n s).tale (vOf P top gv L h.objs.size t₀) js ks = tl) (hE : tl.e = (runQ (vOf P top gv L h.objs.size t₀) n s).eR) (hc : ∀ x ∈ tl.cs, x)
    (X : match tl.ob with
      | .fin r => ∀ h', Behind h h' L tl.m tl.F tl.G → R r ⟨h', g, dr, t₀ + tl.i, os⟩
      | .call c' => ∀ h' k s', runQ (vOf P top gv L h.objs.size t₀) n s = .call c' k s' → Inv s' → s'.d = tl.d → Behind h h' L tl.m tl.F tl.G → CallsTo (Md w) ((s'.κ.aro A).under s'.c) c' (finP w A R (.ret s'.c k s'.κ)) ⟨h', g, dr, t₀ + tl.i, os⟩
      | .again c' => tl.base = true ∧ ∀ h', Behind h h' L tl.m tl.F tl.G → codeAny (Md w) A c' R ⟨h', g, dr, t₀ + tl.i, os⟩
      | .bad _ => False) :
    GoalP w A R s.κ s.c s.t ⟨h, g, dr, t₀, os⟩ := by
  have O := p.ok (gv := gv) (t₀ := t₀) sep hP
  have D := p.rep (P := P) (gv := gv) (t₀ := t₀)
  have S := run_sound (A₀ := A) (R₀ := R) (g := g) (dr := dr) (os := os) O (mkV_sm O) a n s I
  subst H
  cases e : runQ (vOf P top gv L h.objs.size t₀) n s with
  | bad k => rw [e] at X; exact X.elim
  | fin r s' =>
    rw [e] at S X hE hc
    have z := S (fun h' D' => X h' (behind_of D' rfl rfl rfl))
    have y := z.2.2 (map_eq_all hE) hc h (by rw [hT, hm]; exact D)
    rw [hi] at y
    exact y
  | call c' k s' =>
    rw [e] at S X hE hc
    have z := S (fun h' D' I' => X h' k s' rfl I' rfl (behind_of D' rfl rfl rfl))
    have y := z.2.2 (map_eq_all hE) hc h (by rw [hT, hm]; exact D)
    rw [hi] at y
    exact y
  | again c' s' =>
    rw [e] at S X hE hc
    have hb : s'.κ = .base := isBase_eq X.1
    have hO : OutOk (vOf P top gv L h.objs.size t₀) w h A R g dr os (.again c' s') := by
      intro h' D' _
      have := X.2 h' (behind_of D' rfl rfl rfl)
      show codeAny _ (s'.κ.aro A) c' (RK.fin _ w A R s'.κ) _
      rw [hb]
      exact this
    have z := S hO
    have y := z.2.2 (map_eq_all hE) hc h (by rw [hT, hm]; exact D)
    rw [hi] at y
    exact y
theorem start_inv {c : Code} {T : BT} {q : Nat} (hk : okCode c = true) : Inv (startC c T q) := ⟨rfl, (ok_weight hk).1, (ok_weight hk).2, Nat.zero_le _⟩
theorem code_of_goal {c : Code} {s : Shared} (a : ARoom A) (hk : okCode c = true) (x : GoalP w A R .base c (denZ c) s) : codeAny (Md w) A c R s :=
  y_code _ _ _ _ _ _ (goal_den (V := vOf w.params (fun _ => none) [] [] 0 0) (κ := .base) (d := 0) a rfl (by decide) (ok_weight hk).1 x)
structure Rm (A : Around) (n : Nat) : Prop where
  depth : A.depth ≤ n
  units : A.units ≤ 10 * n
  handled : A.handled = none
theorem Rm.mono {A : Around} {n m : Nat} (a : Rm A n) (h : n ≤ m) : Rm A m := ⟨Nat.le_trans a.depth h, Nat.le_trans a.units (by (first | lia | omega)), a.handled⟩
theorem Rm.room {A : Around} {n : Nat} (a : Rm A n) (h : n ≤ 400) : ARoom A := ⟨by have := a.depth; (first | lia | omega), by have := a.units; (first | lia | omega), a.handled⟩
theorem Rm.inner {A : Around} {n : Nat} (a : Rm A n) {s : RS} (I : Inv s) : Rm ((s.κ.aro A).under s.c) (n + 5 * (s.d + 1)) := by
  have b := RK.bounds (A₀ := A) I.wf
  have h1 := a.depth
  have h2 := a.units
  have h3 := I.wt
  have h4 := I.cu
  refine ⟨?_, ?_, b.2.2.trans a.handled⟩
  · show (s.κ.aro A).depth + s.c.weight ≤ _
    (first | lia | omega)
  · show (s.κ.aro A).units + s.c.cUnits ≤ _
    (first | lia | omega)
@[reducible] noncomputable def toldGp (P : Params) (top : Nat → Option Obj) (gv : List Value) (L : Led) (B t₀ n : Nat) (s : RS) (js ks : List Nat) (ob : Ob) (d m i : Nat) (b : Bool) (F : List (Nat × Option Obj)) (G : List (Nat × Option (Bool × Vs))) (cs : List Prop) : Tale × Tale := toldp (vOf P top gv L B t₀) (runQ (vOf P top gv L B t₀) n s) js ks ob d m i b F G cs
@[reducible] noncomputable def toldG (P : Params) (top : Nat → Option Obj) (gv : List Value) (L : Led) (B t₀ n : Nat) (s : RS) (js ks : List Nat) (ob : Ob) (d m i : Nat) (b : Bool) (F : List (Nat × Option Obj)) (G : List (Nat × Option (Bool × Vs))) (cs : List Prop) : Prop := IsT (toldGp P top gv L B t₀ n s js ks ob d m i b F G cs)
/-- what is left to show behind a call where a run has stopped -/
noncomputable def Resume (o : RO) (w : World) (A : Around) (R : Result → Shared → Prop) (r : Result) (s : Shared) : Prop := match o with
  | .call _ k s₀ => Inv s₀ → GoalP w A R s₀.κ s₀.c (k r) s
  | _ => True
theorem resume_goal {o : RO} {r : Result} {T : BT} {q : Nat} {s : Shared} (X : Inv (o.resume r T q) → GoalP w A R (o.resume r T q).κ (o.resume r T q).c (o.resume r T q).t s) : Resume o w A R r s := by
  cases o with
  | call c k s₀ => intro I; exact X ⟨I.wf, I.wt, I.cu, I.dl⟩
  | _ => trivial
section
variable {js ks : List Nat} {n d m i nr : Nat} {b : Bool} {F : List (Nat × Option Obj)} {G : List (Nat × Option (Bool × Vs))} {cs : List Prop} {c c' : Code} {r r' : Result} {q : Nat} {o : RO} {s : RS}
theorem goal_fin (p : Pre top h L) (sep : TopSep top) (hP : P = w.params) (a : ARoom A) (I : Inv s) (hT : s.T = btOf (L.map (·.2))) (hm : s.m = 0) (hi : s.i = 0)
    (H : toldG P top gv L h.objs.size t₀ n s js ks (.fin r) d m i b F G cs) (hc : AllC cs) (X : ∀ h', Behind h h' L m F G → R r ⟨h', g, dr, t₀ + i, os⟩) : GoalP w A R s.κ s.c s.t ⟨h, g, dr, t₀, os⟩ :=
  run_goal (tl := ⟨.fin r, d, m, i, b, F, G, cs, _⟩) p sep hP a I hT hm hi H rfl (allC hc) X
theorem goal_again (p : Pre top h L) (sep : TopSep top) (hP : P = w.params) (a : ARoom A) (I : Inv s) (hT : s.T = btOf (L.map (·.2))) (hm : s.m = 0) (hi : s.i = 0)
    (H : toldG P top gv L h.objs.size t₀ n s js ks (.again c') d m i true F G cs) (hc : AllC cs) (X : ∀ h', Behind h h' L m F G → codeAny (Md w) A c' R ⟨h', g, dr, t₀ + i, os⟩) : GoalP w A R s.κ s.c s.t ⟨h, g, dr, t₀, os⟩ :=
  run_goal (tl := ⟨.again c', d, m, i, true, F, G, cs, _⟩) p sep hP a I hT hm hi H rfl (allC hc) ⟨rfl, X⟩
theorem goal_stop (p : Pre top h L) (sep : TopSep top) (hP : P = w.params) (a : Rm A nr) (ha : nr ≤ 400) (I : Inv s) (hT : s.T = btOf (L.map (·.2))) (hm : s.m = 0) (hi : s.i = 0)
    (H : toldG P top gv L h.objs.size t₀ n s js ks (.call c') d m i b F G cs) (hc : AllC cs)
    (X : ∀ h', Behind h h' L m F G → ∀ A', Rm A' (nr + 5 * (d + 1)) → CallsTo (Md w) A' c' (Resume (runQ (vOf P top gv L h.objs.size t₀) n s) w A R) ⟨h', g, dr, t₀ + i, os⟩) : GoalP w A R s.κ s.c s.t ⟨h, g, dr, t₀, os⟩ := by
  refine run_goal (tl := ⟨.call c', d, m, i, b, F, G, cs, _⟩) p sep hP (a.room ha) I hT hm hi H rfl (allC hc) ?_
  intro h' k s' e I' hd B
  have hd' : s'.d = d := hd
  subst hd'
  refine (X h' B _ (a.inner I')).mono fun r s'' hg => ?_
  rw [e] at hg
  exact hg I'
theorem code_fin (p : Pre top h L) (sep : TopSep top) (hP : P = w.params) (a : Rm A nr) (ha : nr ≤ 400) (hk : okCode c = true) (H : toldL P top gv L h.objs.size t₀ n c q js ks (.fin r) d m i b F G cs) (hc : AllC cs)
    (X : ∀ h', Behind h h' L m F G → R r ⟨h', g, dr, t₀ + i, os⟩) : codeAny (Md w) A c R ⟨h, g, dr, t₀, os⟩ :=
  code_of_goal (a.room ha) hk (goal_fin p sep hP (a.room ha) (start_inv hk) rfl rfl rfl H hc X)
theorem code_again (p : Pre top h L) (sep : TopSep top) (hP : P = w.params) (a : Rm A nr) (ha : nr ≤ 400) (hk : okCode c = true) (H : toldL P top gv L h.objs.size t₀ n c q js ks (.again c') d m i true F G cs) (hc : AllC cs)
    (X : ∀ h', Behind h h' L m F G → codeAny (Md w) A c' R ⟨h', g, dr, t₀ + i, os⟩) : codeAny (Md w) A c R ⟨h, g, dr, t₀, os⟩ :=
  code_of_goal (a.room ha) hk (goal_again p sep hP (a.room ha) (start_inv hk) rfl rfl rfl H hc X)
theorem code_stop (p : Pre top h L) (sep : TopSep top) (hP : P = w.params) (a : Rm A nr) (ha : nr ≤ 400) (hk : okCode c = true) (H : toldL P top gv L h.objs.size t₀ n c q js ks (.call c') d m i b F G cs) (hc : AllC cs)
    (X : ∀ h', Behind h h' L m F G → ∀ A', Rm A' (nr + 5 * (d + 1)) → codeAny (Md w) A' c' (Resume (runQ (vOf P top gv L h.objs.size t₀) n (startC c (btOf (L.map (·.2))) q)) w A R) ⟨h', g, dr, t₀ + i, os⟩) : codeAny (Md w) A c R ⟨h, g, dr, t₀, os⟩ :=
  code_of_goal (a.room ha) hk (goal_stop p sep hP a ha (start_inv hk) rfl rfl rfl H hc fun h' B A' a' => callsTo (X h' B A' a'))
theorem code_stopW (p : Pre top h L) (sep : TopSep top) (hP : P = w.params) (a : Rm A nr) (ha : nr ≤ 400) (hk : okCode c = true) (H : toldL P top gv L h.objs.size t₀ n c q js ks (.call c') d m i b F G cs) (hc : AllC cs)
    (X : ∀ h', Behind h h' L m F G → ∀ A', Rm A' (nr + 5 * (d + 1)) → CallsTo (Md w) A' c' (Resume (runQ (vOf P top gv L h.objs.size t₀) n (startC c (btOf (L.map (·.2))) q)) w A R) ⟨h', g, dr, t₀ + i, os⟩) : codeAny (Md w) A c R ⟨h, g, dr, t₀, os⟩ :=
  code_of_goal (a.room ha) hk (goal_stop p sep hP a ha (start_inv hk) rfl rfl rfl H hc X)
theorem resT {o : RO} {r : Result} {T : BT} {q : Nat} : (o.resume r T q).T = T ∧ (o.resume r T q).m = 0 ∧ (o.resume r T q).i = 0 := by cases o <;> exact ⟨rfl, rfl, rfl⟩
theorem res_fin (p : Pre top h L) (sep : TopSep top) (hP : P = w.params) (a : Rm A nr) (ha : nr ≤ 400) (H : toldG P top gv L h.objs.size t₀ n (o.resume r (btOf (L.map (·.2))) q) js ks (.fin r') d m i b F G cs) (hc : AllC cs)
    (X : ∀ h', Behind h h' L m F G → R r' ⟨h', g, dr, t₀ + i, os⟩) : Resume o w A R r ⟨h, g, dr, t₀, os⟩ :=
  resume_goal (T := btOf (L.map (·.2))) (q := q) fun I => goal_fin p sep hP (a.room ha) I resT.1 resT.2.1 resT.2.2 H hc X
theorem res_again (p : Pre top h L) (sep : TopSep top) (hP : P = w.params) (a : Rm A nr) (ha : nr ≤ 400) (H : toldG P top gv L h.objs.size t₀ n (o.resume r (btOf (L.map (·.2))) q) js ks (.again c') d m i true F G cs) (hc : AllC cs)
    (X : ∀ h', Behind h h' L m F G → codeAny (Md w) A c' R ⟨h', g, dr, t₀ + i, os⟩) : Resume o w A R r ⟨h, g, dr, t₀, os⟩ :=
  resume_goal (T := btOf (L.map (·.2))) (q := q) fun I => goal_again p sep hP (a.room ha) I resT.1 resT.2.1 resT.2.2 H hc X
theorem res_stop (p : Pre top h L) (sep : TopSep top) (hP : P = w.params) (a : Rm A nr) (ha : nr ≤ 400) (H : toldG P top gv L h.objs.size t₀ n (o.resume r (btOf (L.map (·.2))) q) js ks (.call c') d m i b F G cs) (hc : AllC cs)
    (X : ∀ h', Behind h h' L m F G → ∀ A', Rm A' (nr + 5 * (d + 1)) → codeAny (Md w) A' c' (Resume (runQ (vOf P top gv L h.objs.size t₀) n (o.resume r (btOf (L.map (·.2))) q)) w A R) ⟨h', g, dr, t₀ + i, os⟩) : Resume o w A R r ⟨h, g, dr, t₀, os⟩ :=
  resume_goal (T := btOf (L.map (·.2))) (q := q) fun I => goal_stop p sep hP a ha I resT.1 resT.2.1 resT.2.2 H hc fun h' B A' a' => callsTo (X h' B A' a')
theorem res_stopW (p : Pre top h L) (sep : TopSep top) (hP : P = w.params) (a : Rm A nr) (ha : nr ≤ 400) (H : toldG P top gv L h.objs.size t₀ n (o.resume r (btOf (L.map (·.2))) q) js ks (.call c') d m i b F G cs) (hc : AllC cs)
    (X : ∀ h', Behind h h' L m F G → ∀ A', Rm A' (nr + 5 * (d + 1)) → CallsTo (Md w) A' c' (Resume (runQ (vOf P top gv L h.objs.size t₀) n (o.resume r (btOf (L.map (·.2))) q)) w A R) ⟨h', g, dr, t₀ + i, os⟩) : Resume o w A R r ⟨h, g, dr, t₀, os⟩ :=
  resume_goal (T := btOf (L.map (·.2))) (q := q) fun I => goal_stop p sep hP a ha I resT.1 resT.2.1 resT.2.2 H hc X
end
end
end
end Mine

end
section
open PySem PySem.W PySem.W.X PyProof.Rows
set_option Elab.async false
set_option maxHeartbeats 2000000
set_option genInjectivity false
set_option genSizeOfSpec false
namespace Mine
/-! rising addresses: small proofs that two of them differ -/
/-- each above the one ahead of it, the first above `f` -/
noncomputable def Asc : Nat → List Nat → Prop
  | _, [] => True
  | f, a :: l => f < a ∧ Asc a l
theorem Asc.above : ∀ {l : List Nat} {f : Nat}, Asc f l → ∀ {i a : Nat}, l[i]? = some a → f < a
  | b :: l, f, s, 0, a, e => by cases e; exact s.1
  | b :: l, f, s, i + 1, a, e => Nat.lt_trans s.1 (Asc.above (l := l) s.2 (i := i) e)
  | [], _, _, i, a, e => by cases i <;> cases e
theorem Asc.lt : ∀ {l : List Nat} {f : Nat}, Asc f l → ∀ {i j a b : Nat}, l[i]? = some a → l[j]? = some b → i < j → a < b
  | _ :: l, _, s, 0, j + 1, a, b, ea, eb, _ => by cases ea; exact s.2.above (i := j) eb
  | _ :: l, _, s, i + 1, j + 1, a, b, ea, eb, h => Asc.lt (l := l) s.2 (i := i) (j := j) ea eb (Nat.lt_of_succ_lt_succ h)
  | [], _, _, i, _, _, _, e, _, _ => by cases i <;> cases e
  | _ :: _, _, _, _, 0, _, _, _, _, h => absurd h (Nat.not_lt_zero _)
/-- the place of an address -/
structure Ix (ms : List Nat) (a i : Nat) : Prop where
  e : ms[i]? = some a
theorem ix0 {l : List Nat} {a : Nat} : Ix (a :: l) a 0 := ⟨rfl⟩
theorem ixs {l : List Nat} {a b i : Nat} (h : Ix l a i) : Ix (b :: l) a (i + 1) := ⟨h.e⟩
theorem Asc.lti {l : List Nat} {f i j a b : Nat} (s : Asc f l) (ha : Ix l a i) (hb : Ix l b j) (d : Nat.blt i j = true) : a < b := s.lt ha.e hb.e (Nat.lt_of_succ_le (Nat.le_of_ble_eq_true d))
/-- the places of a list of addresses -/
inductive Ixs (ms : List Nat) : List Nat → List Nat → Prop where
  | nil : Ixs ms [] []
  | cons {a i : Nat} {l is : List Nat} (h : Ix ms a i) (t : Ixs ms l is) : Ixs ms (a :: l) (i :: is)
noncomputable def nin (i : Nat) : List Nat → Bool
  | [] => true
  | j :: l => match Nat.beq i j with
    | true => false
    | false => nin i l
noncomputable def dif : List Nat → Bool
  | [] => true
  | i :: l => match nin i l with
    | true => dif l
    | false => false
/-- what may stand in a ledger -/
noncomputable def Low (l : List Nat) : Prop := ∀ a ∈ l, a = 97 ∨ a = 139 ∨ 143 ≤ a
/-- addresses that differ, and may stand in a ledger -/
structure Ds (ms : List Nat) : Prop where
  nd : ms.Nodup
  low : Low ms
theorem Asc.all : ∀ {l : List Nat} {f : Nat}, Asc f l → ∀ a ∈ l, f < a
  | b :: l, f, s, a, hm => (List.mem_cons.mp hm).elim (fun e => by subst e; exact s.1) fun h => Nat.lt_trans s.1 (Asc.all (l := l) s.2 a h)
  | [], _, _, _, hm => nomatch hm
theorem Asc.nmem {l : List Nat} {f : Nat} (s : Asc f l) : f ∉ l := fun h => Nat.lt_irrefl _ (s.all f h)
theorem Asc.nds : ∀ {l : List Nat} {f : Nat}, Asc f l → l.Nodup
  | [], _, _ => List.nodup_nil
  | _ :: l, _, s => List.nodup_cons.mpr ⟨s.2.nmem, Asc.nds (l := l) s.2⟩
theorem Asc.ds {l : List Nat} {f : Nat} (s : Asc f l) (hf : 142 ≤ f) : Ds l := ⟨s.nds, fun a h => .inr (.inr (Nat.lt_of_le_of_lt hf (s.all a h)))⟩
theorem Ds.cons {l : List Nat} {a : Nat} (s : Ds l) (hn : a ∉ l) (hl : a = 97 ∨ a = 139 ∨ 143 ≤ a) : Ds (a :: l) :=
  ⟨List.nodup_cons.mpr ⟨hn, s.nd⟩, fun b h => (List.mem_cons.mp h).elim (fun e => e ▸ hl) (s.low b)⟩
theorem Asc.app {b : Nat} {l ms : List Nat} (s : Asc b l) (hb : 143 ≤ b) (d : Ds ms) (o : ∀ a ∈ ms, a < b) : Ds (b :: l ++ ms) := by
  have hl : ∀ c ∈ b :: l, b ≤ c := fun c hc => (List.mem_cons.mp hc).elim (fun e => e ▸ Nat.le_refl _) fun h => Nat.le_of_lt (s.all c h)
  refine ⟨List.nodup_append.mpr ⟨List.nodup_cons.mpr ⟨s.nmem, s.nds⟩, d.nd, fun c hc a ha e => ?_⟩, fun a ha => ?_⟩
  · exact Nat.lt_irrefl _ (Nat.lt_of_le_of_lt (hl c hc) (e ▸ o a ha))
  · rcases List.mem_append.mp ha with h | h
    · exact .inr (.inr (Nat.le_trans hb (hl a h)))
    · exact d.low a h
theorem nodup_at : ∀ {ms : List Nat}, ms.Nodup → ∀ {i j a : Nat}, ms[i]? = some a → ms[j]? = some a → i = j
  | [], _, i, _, _, e, _ => by cases i <;> cases e
  | b :: l, s, 0, 0, a, _, _ => rfl
  | b :: l, s, 0, j + 1, a, e, e' => by cases e; exact absurd (List.mem_of_getElem? (l := l) (i := j) e') (List.nodup_cons.mp s).1
  | b :: l, s, i + 1, 0, a, e, e' => by cases e'; exact absurd (List.mem_of_getElem? (l := l) (i := i) e) (List.nodup_cons.mp s).1
  | b :: l, s, i + 1, j + 1, a, e, e' => congrArg (· + 1) (nodup_at (List.nodup_cons.mp s).2 (i := i) (j := j) e e')
theorem Ds.ne {ms : List Nat} {i j a b : Nat} (s : Ds ms) (ha : Ix ms a i) (hb : Ix ms b j) (d : Nat.beq i j = false) : a ≠ b := fun e => by
  subst e
  have q := nodup_at s.nd ha.e hb.e
  subst q
  rw [Nat.beq_refl] at d
  cases d
theorem Ds.notin {ms : List Nat} {i a : Nat} (s : Ds ms) (ha : Ix ms a i) : ∀ {l is : List Nat}, Ixs ms l is → nin i is = true → a ∉ l
  | _, _, .nil, _ => List.not_mem_nil
  | _, _, .cons (i := j) h t, d => by
    unfold nin at d
    cases hq : Nat.beq i j with
    | true => rw [hq] at d; cases d
    | false =>
      rw [hq] at d
      exact fun hm => (List.mem_cons.mp hm).elim (s.ne ha h hq) (s.notin ha t d)
theorem Ds.nodup {ms : List Nat} (s : Ds ms) : ∀ {l is : List Nat}, Ixs ms l is → dif is = true → l.Nodup
  | _, _, .nil, _ => List.nodup_nil
  | _, _, .cons (i := i) (is := is) h t, d => by
    unfold dif at d
    cases hq : nin i is with
    | false => rw [hq] at d; cases d
    | true =>
      rw [hq] at d
      exact List.nodup_cons.mpr ⟨s.notin h t hq, s.nodup t d⟩
theorem Ds.lows {ms : List Nat} (s : Ds ms) : ∀ {l is : List Nat}, Ixs ms l is → Low l
  | _, _, .nil => fun _ h => nomatch h
  | _, _, .cons h t => fun a hm => (List.mem_cons.mp hm).elim (fun e => by subst e; exact s.low _ (List.mem_of_getElem? h.e)) (s.lows t a)
/-- a ledger whose objects stand -/
noncomputable def HasL (h : Heap) : Led → Prop
  | [] => True
  | (a, o) :: l => h.get? a = some o ∧ HasL h l
theorem HasL.has {h : Heap} : ∀ {L : Led}, HasL h L → ∀ p ∈ L, h.get? p.1 = some p.2
  | [], _, _, hm => nomatch hm
  | (_, _) :: _, ⟨h1, h2⟩, p, hm => by
    rcases List.mem_cons.mp hm with rfl | hm
    · exact h1
    · exact h2.has p hm
theorem Ds.pre {top : Nat → Option Obj} {h : Heap} {L : Led} {ms is : List Nat} (s : Ds ms) (T : TopOk top h) (H : HasL h L) (x : Ixs ms (L.map (·.1)) is) (d : dif is = true) : Pre top h L :=
  ⟨T, H.has, s.nodup x d, fun p hp => s.lows x p.1 (List.mem_map_of_mem hp)⟩
/-- fewer addresses: each is named still, or holds the same object, or is new -/
inductive Cut (h h' : Heap) (out : List Nat) : List Nat → Prop where
  | nil : Cut h h' out []
  | kept {a i : Nat} {l : List Nat} (e : Ix out a i) (t : Cut h h' out l) : Cut h h' out (a :: l)
  | same {a : Nat} {o : Obj} {l : List Nat} (h1 : h.get? a = some o) (h2 : h'.get? a = some o) (t : Cut h h' out l) : Cut h h' out (a :: l)
  | fresh {a : Nat} {l : List Nat} (hn : h.objs.size ≤ a) (t : Cut h h' out l) : Cut h h' out (a :: l)
theorem Chg.cut {h h' : Heap} {ls out : List Nat} (c : Chg h h' ls) (k : Cut h h' out ls) : Chg h h' out := by
  refine ⟨c.size, fun b o hb hn => ?_⟩
  have key : ∀ {ls : List Nat}, Cut h h' out ls → b ∈ ls → h'.get? b = some o := by
    intro ls k
    induction k with
    | nil => exact fun hm => nomatch hm
    | kept e t ih => exact fun hm => (List.mem_cons.mp hm).elim (fun q => by subst q; exact absurd (List.mem_of_getElem? e.e) hn) ih
    | same h1 h2 t ih => exact fun hm => (List.mem_cons.mp hm).elim (fun q => by subst q; rw [h1] at hb; cases hb; exact h2) ih
    | fresh hs t ih => exact fun hm => (List.mem_cons.mp hm).elim (fun q => by subst q; exact absurd (Heap.lt_size hb) (Nat.not_lt.mpr hs)) ih
  exact if hm : b ∈ ls then key k hm else c.keep b o hb hm
end Mine

end
section
open PySem PySem.W
namespace Mine
noncomputable def topOf (kt : Params → X.KT) (P : Params) (a : Nat) : Option Obj := match Nat.beq a 97 with
  | true => none
  | false => match Nat.beq a 139 with
    | true => none
    | false => (kt P).get a
noncomputable def zTop : Params → Nat → Option Obj := topOf ktop
end Mine

end
section
open PySem PySem.W PySem.W.X PyProof.Rows
set_option maxRecDepth 100000
set_option Elab.async false
set_option maxHeartbeats 2000000
set_option genInjectivity false
set_option genSizeOfSpec false
namespace Mine
noncomputable section
noncomputable def q_hr1 : Nat := 6032103405776749914417218930792428887728272970802441732147686888351916217003846697843995013012426927031600421616117015315160127674969174766586699901830759886254660810774401485153809670956377285145771760607060798260653462061913816881851572623392605295852982564980423992020196908989196201631483381034557183902223564800
noncomputable def q_hr2 : Nat := 315926890149247090160113366609641655649785770171503468202097556721074561857270193411377337845262943087865613295345844226177931140852544022798097055086294384065683015245543404776782751062186721239458949503094397108385338186612832214522683641020184019021634573762758093882873921799308007657700187033216297840018976826710734774938175596873752770571082638557766012844176873480465958615967527688195564659734836871866330801862375238464537181173034972403457640143956253736960
noncomputable def q_hr3a : Nat := 461727667229984926475893110813187935289848731539608900802298776671816191773441365395501240798875100002545247885578722225513042399226455142230895386285448322421830313134007301149737498630306634942196031636055297523680829098807381650843949415522896394428843047189125425365593163966907643523437614790152048133848727984262447635778218386569376459228109211434193481883358941592112981716370284336723788907082057489396139543133283454681507446364439846605628088078466661688034435373023281601550528988543246301219064138301440
noncomputable def q_hr3b : Nat := 7746504806293578788230177513024789638951814776366031084282739872758821361680448850575249745150740109764302173549897507781433023148980470835518453769114404162108690278796877436966194357820358560658370337100933114499058384849776784350645521637301385754953896432790273599841022824445594260350093385294117507612037054188436334916567289181073607752014249848632888894028780225381009505349086964526613622244985437067026063995180718344414095549095253179463153558959893677872545992612837568916880576942078889322833381860740620746752
noncomputable def q_hr4a : Nat := 64634507187273847948624691667752863325221914670850366724170889707956990923913074572387860160323779227445165277755235687340911117710115226727261367248496011110645372500338806167268206470584568090622383582358123881975629552242366944852643059369105337822608287249940784282639763671573613418885460447332479660970351356677089000867827545281578747084643670958719880238365364436717098340777832043537682387278564031224377462229810184472714356857361459594380434985575843925294089481611107873342848534881051392810630160657483443076244605955232179329246229878454347205228028732099531552160859957232670790608709272198880946159616
noncomputable def q_hr4b : Nat := 7746504806293578788230177513024789638951814776366031084282739872758821361680448850575249745150740109764302173549897507781433023148980470835518453769114404162108690278796877436966194357820358560658370337100933114499058384849776784350645521637301385754953896432790273599841022824445594260350093385294117507612037054188436334916567289181073607752014249848632888894028780225381009505349086964526613622244985437067026063995180718344414095549095253179463153558959893677872545992612837568916880576942078889322833381860740620746752
/-! heapreplace -/
noncomputable def hrCall (l : Nat) (e : Int) (te : Nat) : Code := .call (.ref 21) ⟨[.ref l, .int e te], []⟩
noncomputable abbrev ivs (xs : List (Int × Nat)) : List Value := xs.map fun x => .int x.1 x.2
@[reducible] noncomputable def hrRun_p (top : Nat → Option Obj) (P : Params) (l ep : Nat) (xs ys : List (Int × Nat)) (e : Int) (te q m i : Nat) (r : Int × Nat) (cs : List Prop) := fun B t₀ => (toldLp P top [] [(l, lsO (ivs xs) ep)] B t₀ 800 (hrCall l e te) q [0] [] (.fin (.ok (.ret (.int r.1 r.2)))) 0 m i true [(l, some (lsO (ivs ys) ep))] [] cs : Tale × Tale)
@[reducible] noncomputable def hrRun (top : Nat → Option Obj) (P : Params) (l ep : Nat) (xs ys : List (Int × Nat)) (e : Int) (te q m i : Nat) (r : Int × Nat) (cs : List Prop) : Prop := ∀ B t₀, IsT (hrRun_p top P l ep xs ys e te q m i r cs B t₀)
@[reducible] noncomputable def HrRuns_r1 (P : Params) (top : Nat → Option Obj) : Prop := ∀ l ep a e te, hrRun top P l ep [a] [(e, te)] e te q_hr1 3 22 a []
@[reducible] noncomputable def HrRuns_r2 (P : Params) (top : Nat → Option Obj) : Prop := ∀ l ep a b e te, hrRun top P l ep [a, b] [b, (e, te)] e te q_hr2 3 37 a [¬ e < b.1]
@[reducible] noncomputable def HrRuns_r3a (P : Params) (top : Nat → Option Obj) : Prop := ∀ l ep a b c e te, hrRun top P l ep [a, b, c] [b, (e, te), c] e te q_hr3a 3 37 a [¬ e < b.1, b.1 < c.1]
@[reducible] noncomputable def HrRuns_r3b (P : Params) (top : Nat → Option Obj) : Prop := ∀ l ep a b c e te, hrRun top P l ep [a, b, c] [c, b, (e, te)] e te q_hr3b 3 38 a [¬ e < c.1, ¬ b.1 < c.1]
@[reducible] noncomputable def HrRuns_r4a (P : Params) (top : Nat → Option Obj) : Prop := ∀ l ep a b c d e te, hrRun top P l ep [a, b, c, d] [b, d, c, (e, te)] e te q_hr4a 3 46 a [¬ e < d.1, b.1 < c.1]
@[reducible] noncomputable def HrRuns_r4b (P : Params) (top : Nat → Option Obj) : Prop := ∀ l ep a b c d e te, hrRun top P l ep [a, b, c, d] [c, b, (e, te), d] e te q_hr4b 3 38 a [¬ e < c.1, ¬ b.1 < c.1]
structure HrRuns (P : Params) (top : Nat → Option Obj) : Prop where
  r1 : HrRuns_r1 P top
  r2 : HrRuns_r2 P top
  r3a : HrRuns_r3a P top
  r3b : HrRuns_r3b P top
  r4a : HrRuns_r4a P top
  r4b : HrRuns_r4b P top
noncomputable def hrF : List (Int × Nat) → Int × Nat → List (Int × Nat)
  | [_], e => [e]
  | [_, b], e => [b, e]
  | [_, b, c], e => if b.1 < c.1 then [b, e, c] else [c, b, e]
  | [_, b, c, d], e => if b.1 < c.1 then [b, d, c, e] else [c, b, e, d]
  | l, _ => l
theorem pre_one {top : Nat → Option Obj} {h : Heap} {a : Nat} {o : Obj} (t : TopOk top h) (ho : h.get? a = some o) (hl : 143 ≤ a) : Pre top h [(a, o)] :=
  ⟨t, fun p hp => by cases List.mem_singleton.mp hp; exact ho, by simp, fun p hp => by cases List.mem_singleton.mp hp; exact .inr (.inr hl)⟩
section
variable {P : Params} {top : Nat → Option Obj} {w : World} {A : Around} {R : Result → Shared → Prop} {h : Heap} {g : Array GenState} {dr : Drawn} {os : OsState} {t₀ : Nat}
theorem heapreplace_spec (hP : P = w.params) (Z : HrRuns P top) (sep : TopSep top) (T : TopOk top h) {nr : Nat} (a : Rm A nr) (ha : nr ≤ 400) {l ep : Nat} {xs : List (Int × Nat)} {e : Int} {te : Nat} (hl : 143 ≤ l) (ho : h.get? l = some (lsO (ivs xs) ep))
    (hx : ∀ y ∈ xs, y.1 ≤ e) (hn : xs ≠ []) (h4 : xs.length ≤ 4)
    (X : ∀ h' t' (r : Int × Nat), h'.get? l = some (lsO (ivs (hrF xs (e, te))) ep) → Chg h h' [l] → R (.ok (.ret (.int r.1 r.2))) ⟨h', g, dr, t', os⟩) : codeAny (Md w) A (hrCall l e te) R ⟨h, g, dr, t₀, os⟩ := by
  have p := pre_one T ho hl
  have key : ∀ {q m i r ys cs}, hrRun top P l ep xs ys e te q m i r cs → AllC cs → hrF xs (e, te) = ys → codeAny (Md w) A (hrCall l e te) R ⟨h, g, dr, t₀, os⟩ := by
    intro q m i r ys cs H hc hy
    refine code_fin p sep hP a ha rfl (H _ t₀) hc fun h' b => X h' _ r ?_ b.chg
    rw [hy]
    exact b.at 0 rfl
  refine allE4 (p := fun xs => (∀ y ∈ xs, y.1 ≤ e) → (∀ q m i r ys cs, hrRun top P l ep xs ys e te q m i r cs → AllC cs → hrF xs (e, te) = ys → codeAny (Md w) A (hrCall l e te) R ⟨h, g, dr, t₀, os⟩) → codeAny (Md w) A (hrCall l e te) R ⟨h, g, dr, t₀, os⟩) ?_ ?_ ?_ ?_ xs hn h4 hx fun _ _ _ _ _ _ => key
  · exact fun x hx key => key _ _ _ _ _ _ (Z.r1 _ _ _ _ _) trivial rfl
  · exact fun x y hx key => key _ _ _ _ _ _ (Z.r2 _ _ _ _ _ _) ⟨Int.not_lt.mpr (hx y (.tail _ (.head _))), trivial⟩ rfl
  · intro x y z hx key
    have h1 := hx y (.tail _ (.head _))
    have h2 := hx z (.tail _ (.tail _ (.head _)))
    by_cases hb : y.1 < z.1
    · exact key _ _ _ _ _ _ (Z.r3a _ _ _ _ _ _ _) ⟨Int.not_lt.mpr h1, hb, trivial⟩ (if_pos hb)
    · exact key _ _ _ _ _ _ (Z.r3b _ _ _ _ _ _ _) ⟨Int.not_lt.mpr h2, hb, trivial⟩ (if_neg hb)
  · intro x y z u hx key
    have h1 := hx u (.tail _ (.tail _ (.tail _ (.head _))))
    have h2 := hx z (.tail _ (.tail _ (.head _)))
    by_cases hb : y.1 < z.1
    · exact key _ _ _ _ _ _ (Z.r4a _ _ _ _ _ _ _ _) ⟨Int.not_lt.mpr h1, hb, trivial⟩ (if_pos hb)
    · exact key _ _ _ _ _ _ (Z.r4b _ _ _ _ _ _ _ _) ⟨Int.not_lt.mpr h2, hb, trivial⟩ (if_neg hb)
end
end
end Mine

end
section
open PySem PySem.W PySem.W.X PyProof.Rows
set_option maxRecDepth 100000
set_option Elab.async false
set_option maxHeartbeats 2000000
set_option genInjectivity false
set_option genSizeOfSpec false
namespace Mine
noncomputable section
noncomputable def q_bi0 : Nat := 27170985840576924335469529852137503442239515022159055926503994818560
noncomputable def q_biR : Nat := 1
noncomputable def q_biA1 : Nat := 1613264377790694695678424071182386377036443130773390242218498
noncomputable def q_biB1 : Nat := 105726881684167571054619626351069705274326852666473934110584865282
noncomputable def q_biE1 : Nat := 131586
noncomputable def q_biA2 : Nat := 1613264377790694695678424071182386377036443130773390242218498
noncomputable def q_biB2 : Nat := 105726881684167571054619626351069705274326852666473934110584865282
noncomputable def q_biE2 : Nat := 131586
/-! bisect_right -/
/-- called with two arguments, or with lo (its token told) and hi -/
noncomputable def bisCall (a : Nat) (x : Int) (tx : Nat) (mr : Option Nat) : Code := .call (.ref 53) ⟨[.ref a, .int x tx] ++ (match mr with | none => [] | some t => [.int 0 t, .none]), []⟩
noncomputable def vsB (a : Nat) (x : Int) (tx : Nat) (lo : Int) (tlo : Nat) (hi : Int) (thi : Nat) (ex : Vs) : Vs := [([97], .ref a), ([120], .int x tx), ([108, 111], .int lo tlo), ([104, 105], .int hi thi), ([107, 101, 121], .none)] ++ ex
noncomputable abbrev midV (v : Value) : Vs := [([109, 105, 100], v)]
noncomputable def bisO (P : Params) (top : Nat → Option Obj) (B t₀ a : Nat) (xs : List (Int × Nat)) (e : Nat) (x : Int) (tx : Nat) (mr : Option Nat) : RO :=
  runQ (vOf P top [] [(a, lsO (ivs xs) e)] B t₀) 100 (startC (bisCall a x tx mr) (btOf ([(a, lsO (ivs xs) e)].map (·.2))) q_bi0)
noncomputable def bisL (a fr : Nat) (xs : List (Int × Nat)) (e : Nat) (vs : Vs) (aux : Nat → Int × Nat) (ep : Nat) : Led := [(a, lsO (ivs xs) e), (fr, dicF "frame" vs aux ep)]
noncomputable def midOf (lo hi : Int) : Int := (lo + hi).fdiv 2
noncomputable def itemC (xs : List (Int × Nat)) (i y : Int) (ty : Nat) : Prop := ItemAt (ivs xs) i (.int y ty) ∧ -100000 ≤ i ∧ i ≤ 100000 ∧ (ivs xs).length ≤ 100000
@[reducible] noncomputable def BiRuns_entry_p (P : Params) (top : Nat → Option Obj) := fun B t₀ a xs e x tx mr => (toldLp P top [] [(a, lsO (ivs xs) e)] B t₀ 100 (bisCall a x tx mr) q_bi0 [0] [1]
    (.call (loopC top 53 0 B [] .none)) 0 1 9 true [(a, some (lsO (ivs xs) e))] [(B, some (true, vsB a x tx 0 (mr.getD 238) (.ofNat (ivs xs).length) (t₀ + 7) []))] [(ivs xs).length ≤ 100000] : Tale × Tale)
@[reducible] noncomputable def BiRuns_entry (P : Params) (top : Nat → Option Obj) : Prop := ∀ B t₀ a xs e x tx mr, IsT (BiRuns_entry_p P top B t₀ a xs e x tx mr)
@[reducible] noncomputable def BiRuns_turnA_p (P : Params) (top : Nat → Option Obj) := fun B t₀ a fr xs e x tx lo tlo hi thi (ex : Option Value) aux ep y ty => (toldLp P top [.int y ty] (bisL a fr xs e (vsB a x tx lo tlo hi thi ((ex.map midV).getD [])) aux ep) B t₀ 100
    (loopC top 53 0 fr [] .none) q_biA1 [0] [1]
    (.again (loopC top 53 0 fr [] .none)) 0 0 5 true [(a, some (lsO (ivs xs) e))] [(fr, some (true, vsB a x tx lo tlo (midOf lo hi) (t₀ + 2) (midV (.int (midOf lo hi) (t₀ + 2)))))]
    [x < y, itemC xs (midOf lo hi) y ty, lo < hi] : Tale × Tale)
@[reducible] noncomputable def BiRuns_turnA (P : Params) (top : Nat → Option Obj) : Prop := ∀ B t₀ a fr xs e x tx lo tlo hi thi (ex : Option Value) aux ep y ty, IsT (BiRuns_turnA_p P top B t₀ a fr xs e x tx lo tlo hi thi ex aux ep y ty)
@[reducible] noncomputable def BiRuns_turnB_p (P : Params) (top : Nat → Option Obj) := fun B t₀ a fr xs e x tx lo tlo hi thi (ex : Option Value) aux ep y ty => (toldLp P top [.int y ty] (bisL a fr xs e (vsB a x tx lo tlo hi thi ((ex.map midV).getD [])) aux ep) B t₀ 100
    (loopC top 53 0 fr [] .none) q_biB1 [0] [1]
    (.again (loopC top 53 0 fr [] .none)) 0 0 7 true [(a, some (lsO (ivs xs) e))] [(fr, some (true, vsB a x tx (midOf lo hi + 1) (t₀ + 5) hi thi (midV (.int (midOf lo hi) (t₀ + 2)))))]
    [¬ x < y, itemC xs (midOf lo hi) y ty, lo < hi] : Tale × Tale)
@[reducible] noncomputable def BiRuns_turnB (P : Params) (top : Nat → Option Obj) : Prop := ∀ B t₀ a fr xs e x tx lo tlo hi thi (ex : Option Value) aux ep y ty, IsT (BiRuns_turnB_p P top B t₀ a fr xs e x tx lo tlo hi thi ex aux ep y ty)
@[reducible] noncomputable def BiRuns_last_p (P : Params) (top : Nat → Option Obj) := fun B t₀ a fr xs e x tx lo tlo hi thi ex aux ep => (toldLp P top [] (bisL a fr xs e (vsB a x tx lo tlo hi thi ex) aux ep) B t₀ 100
    (loopC top 53 0 fr [] .none) q_biE1 [0, 1] []
    (.fin (.ok .next)) 0 0 0 true [(a, some (lsO (ivs xs) e)), (fr, some (dicF "frame" (vsB a x tx lo tlo hi thi ex) aux ep))] [] [¬ lo < hi] : Tale × Tale)
@[reducible] noncomputable def BiRuns_last (P : Params) (top : Nat → Option Obj) : Prop := ∀ B t₀ a fr xs e x tx lo tlo hi thi ex aux ep, IsT (BiRuns_last_p P top B t₀ a fr xs e x tx lo tlo hi thi ex aux ep)
@[reducible] noncomputable def BiRuns_back_p (P : Params) (top : Nat → Option Obj) := fun B t₀ a xs e x tx mr B2 t2 lo tlo hi thi ex aux ep => (toldGp P top [] [(B, dicF "frame" (vsB a x tx lo tlo hi thi ex) aux ep)] B2 t2 20
    ((bisO P top B t₀ a xs e x tx mr).resume (.ok .next) (btOf ([(B, dicF "frame" (vsB a x tx lo tlo hi thi ex) aux ep)].map (·.2))) q_biR) [] []
    (.fin (.ok (.ret (.int lo tlo)))) 0 0 0 true [] [] [] : Tale × Tale)
@[reducible] noncomputable def BiRuns_back (P : Params) (top : Nat → Option Obj) : Prop := ∀ B t₀ a xs e x tx mr B2 t2 lo tlo hi thi ex aux ep, IsT (BiRuns_back_p P top B t₀ a xs e x tx mr B2 t2 lo tlo hi thi ex aux ep)
structure BiRuns (P : Params) (top : Nat → Option Obj) : Prop where
  entry : BiRuns_entry P top
  turnA : BiRuns_turnA P top
  turnB : BiRuns_turnB P top
  last : BiRuns_last P top
  back : BiRuns_back P top
/-- the place behind the last item that is not greater -/
noncomputable def BisAt (xs : List (Int × Nat)) (x : Int) (p : Nat) : Prop := p ≤ xs.length ∧ (∀ (j : Nat) (y : Int × Nat), j < p → xs[j]? = some y → y.1 ≤ x) ∧ ∀ (j : Nat) (y : Int × Nat), p ≤ j → xs[j]? = some y → x < y.1
noncomputable def Rising (xs : List (Int × Nat)) : Prop := ∀ (i j : Nat) (y z : Int × Nat), i ≤ j → xs[i]? = some y → xs[j]? = some z → y.1 ≤ z.1
theorem ivs_get {xs : List (Int × Nat)} {i : Nat} {y : Int × Nat} (h : xs[i]? = some y) : (ivs xs)[i]? = some (.int y.1 y.2) := by
  rw [List.getElem?_map, h]; rfl
theorem mid_facts {lo hi : Int} (h0 : 0 ≤ lo) (h1 : lo < hi) : lo ≤ midOf lo hi ∧ midOf lo hi < hi := by
  unfold midOf
  rw [Int.fdiv_eq_ediv_of_nonneg _ (by decide)]
  (first | lia | omega)
section
variable {P : Params} {top : Nat → Option Obj} {w : World} {A : Around} {R : Result → Shared → Prop} {h : Heap} {g : Array GenState} {dr : Drawn} {os : OsState} {t₀ : Nat}
theorem pre_two {top : Nat → Option Obj} {h : Heap} {a b : Nat} {o o' : Obj} (t : TopOk top h) (ho : h.get? a = some o) (ho' : h.get? b = some o') (hl : 143 ≤ a) (hl' : 143 ≤ b) (hn : a ≠ b) : Pre top h [(a, o), (b, o')] :=
  ⟨t, fun p hp => by simp only [List.mem_cons, List.not_mem_nil, or_false] at hp; rcases hp with rfl | rfl <;> assumption, by simp [hn], fun p hp => by simp only [List.mem_cons, List.not_mem_nil, or_false] at hp; rcases hp with rfl | rfl <;> exact .inr (.inr (by assumption))⟩
theorem bis_loop (hP : P = w.params) (Z : BiRuns P top) (sep : TopSep top) {nr : Nat} (a : Rm A nr) (ha : nr ≤ 400) {l fr : Nat} {xs : List (Int × Nat)} {e : Nat} {x : Int} {tx : Nat} (hl : 143 ≤ l) (hfr : 143 ≤ fr) (hn : l ≠ fr) (hlen : xs.length ≤ 100000) (hr : Rising xs)
    (X : ∀ h' t' lo tlo hi thi ex, h'.get? l = some (lsO (ivs xs) e) → IsDic h' fr "frame" (vsB l x tx lo tlo hi thi ex) → BisAt xs x lo.toNat → 0 ≤ lo → Chg h h' [fr] → R (.ok .next) ⟨h', g, dr, t', os⟩) :
    ∀ (k : Nat) (h₁ : Heap) (t₁ : Nat) (lo : Int) (tlo : Nat) (hi : Int) (thi : Nat) (ex : Option Value), (hi - lo).toNat = k → 0 ≤ lo → lo ≤ hi → hi ≤ xs.length → (∀ j y, j < lo.toNat → xs[j]? = some y → y.1 ≤ x) → (∀ j y, hi.toNat ≤ j → xs[j]? = some y → x < y.1) →
      TopOk top h₁ → h₁.get? l = some (lsO (ivs xs) e) → IsDic h₁ fr "frame" (vsB l x tx lo tlo hi thi ((ex.map midV).getD [])) → Chg h h₁ [fr] →
      codeAny (Md w) A (loopC top 53 0 fr [] .none) R ⟨h₁, g, dr, t₁, os⟩ := by
  intro k
  induction k using Nat.strongRecOn with
  | ind k ih =>
  intro h₁ t₁ lo tlo hi thi ex hk h0 h1 h2 hlo hhi T ho hd hc
  obtain ⟨aux, ep, hd⟩ := hd
  have p := pre_two T ho hd hl hfr hn
  have low : ∀ a ∈ [l, fr], a = 97 ∨ a = 139 ∨ 143 ≤ a := by simp; (first | lia | omega)
  have okc : okCode (loopC top 53 0 fr [] .none) = true := loopC_cases (p := fun c => okCode c = true) (fun _ _ _ _ => rfl) (fun _ _ _ _ => rfl) (by show (!Nat.beq (S.codeS "mine.loop") callerCode) = true; rw [← S.code_S]; decide +kernel)
  by_cases hb : lo < hi
  · have hm := mid_facts h0 hb
    have hmn : (midOf lo hi).toNat < xs.length := by (first | lia | omega)
    obtain ⟨y, hy⟩ : ∃ y, xs[(midOf lo hi).toNat]? = some y := ⟨_, List.getElem?_eq_getElem hmn⟩
    have hit : itemC xs (midOf lo hi) y.1 y.2 := ⟨.inl ⟨by (first | lia | omega), ivs_get hy⟩, by (first | lia | omega), by (first | lia | omega), by simpa using hlen⟩
    by_cases hx : x < y.1
    · refine code_again p sep hP a ha okc (Z.turnA _ t₁ l fr xs e x tx lo tlo hi thi ex aux ep y.1 y.2) ⟨hx, hit, hb, trivial⟩ fun h' B => ?_
      refine ih _ (by (first | lia | omega)) h' _ lo tlo (midOf lo hi) _ (some _) rfl h0 (by (first | lia | omega)) (by (first | lia | omega)) hlo (fun j z hj hz => ?_) (T.chg sep B.chg low) (B.at 0 rfl) (B.dicAt 0 rfl) ⟨Nat.le_trans hc.size B.chg.size, fun b o ho' hnb => ?_⟩
      · have := hr _ _ _ _ hj hy hz
        (first | lia | omega)
      · by_cases hbl : b = l
        · subst hbl
          have q := hc.keep b o ho' hnb
          rw [ho] at q
          cases q
          exact B.at 0 rfl
        · exact B.keep b o (hc.keep b o ho' hnb) (by simp at hnb ⊢; exact ⟨hbl, hnb⟩)
    · refine code_again p sep hP a ha okc (Z.turnB _ t₁ l fr xs e x tx lo tlo hi thi ex aux ep y.1 y.2) ⟨hx, hit, hb, trivial⟩ fun h' B => ?_
      refine ih _ (by (first | lia | omega)) h' _ (midOf lo hi + 1) _ hi thi (some _) rfl (by (first | lia | omega)) (by (first | lia | omega)) h2 (fun j z hj hz => ?_) hhi (T.chg sep B.chg low) (B.at 0 rfl) (B.dicAt 0 rfl) ⟨Nat.le_trans hc.size B.chg.size, fun b o ho' hnb => ?_⟩
      · have := hr _ _ _ _ (show j ≤ (midOf lo hi).toNat by (first | lia | omega)) hz hy
        (first | lia | omega)
      · by_cases hbl : b = l
        · subst hbl
          have q := hc.keep b o ho' hnb
          rw [ho] at q
          cases q
          exact B.at 0 rfl
        · exact B.keep b o (hc.keep b o ho' hnb) (by simp at hnb ⊢; exact ⟨hbl, hnb⟩)
  · refine code_fin p sep hP a ha okc (Z.last _ t₁ l fr xs e x tx lo tlo hi thi _ aux ep) ⟨hb, trivial⟩ fun h' B => ?_
    have : lo = hi := by (first | lia | omega)
    subst this
    refine X h' _ lo tlo lo thi _ (B.at 0 rfl) ⟨aux, ep, B.at 1 rfl⟩ ⟨by (first | lia | omega), hlo, hhi⟩ h0 ⟨Nat.le_trans hc.size B.chg.size, fun b o ho' hnb => ?_⟩
    by_cases hbl : b = l
    · subst hbl
      have q := hc.keep b o ho' hnb
      rw [ho] at q
      cases q
      exact B.at 0 rfl
    · exact B.keep b o (hc.keep b o ho' hnb) (by simp at hnb ⊢; exact ⟨hbl, hnb⟩)
theorem bisect_spec (hP : P = w.params) (Z : BiRuns P top) (sep : TopSep top) (T : TopOk top h) {nr : Nat} (a : Rm A nr) (ha : nr ≤ 390) {l : Nat} {xs : List (Int × Nat)} {e : Nat} {x : Int} {tx : Nat} {mr : Option Nat} (hl : 143 ≤ l) (hsz : 143 ≤ h.objs.size) (ho : h.get? l = some (lsO (ivs xs) e)) (hlen : xs.length ≤ 100000) (hr : Rising xs)
    (X : ∀ h' t' p tp, BisAt xs x p → Chg h h' [] → R (.ok (.ret (.int p tp))) ⟨h', g, dr, t', os⟩) : codeAny (Md w) A (bisCall l x tx mr) R ⟨h, g, dr, t₀, os⟩ := by
  have hlB : l < h.objs.size := Heap.lt_size ho
  refine code_stop (pre_one T ho hl) sep hP a (by (first | lia | omega)) rfl (Z.entry _ t₀ l xs e x tx mr) ⟨by simpa using hlen, trivial⟩ fun h1 B1 A' a' => ?_
  have T1 : TopOk top h1 := T.chg sep B1.chg (by simp; (first | lia | omega))
  have hd1 := B1.dicAt 0 rfl
  have hlen' : (ivs xs).length = xs.length := by simp
  refine bis_loop (h := h1) (l := l) (fr := h.objs.size) (xs := xs) (e := e) (x := x) (tx := tx) hP Z sep a' (by (first | lia | omega)) hl hsz (by (first | lia | omega)) hlen hr (fun h2 t2 lo tlo hi thi ex ho2 hd2 hb2 h0 c2 => ?_) _ h1 _ 0 _ _ _ none rfl (by decide) (by simp) (by rw [hlen']; simp) (fun j y hj => by simp at hj) (fun j y hj hy => ?_) T1 (B1.at 0 rfl) hd1 ⟨Nat.le_refl _, fun _ _ q _ => q⟩
  · obtain ⟨aux, ep, hd2⟩ := hd2
    have T2 : TopOk top h2 := T1.chg sep c2 (by simp; (first | lia | omega))
    refine res_fin (L := [(h.objs.size, dicF "frame" (vsB l x tx lo tlo hi thi ex) aux ep)]) (pre_one T2 hd2 hsz) sep hP a (by (first | lia | omega)) (Z.back h.objs.size t₀ l xs e x tx mr _ t2 lo tlo hi thi ex aux ep) trivial fun h3 B3 => ?_
    have : lo = (lo.toNat : Int) := by (first | lia | omega)
    rw [this]
    refine X h3 _ lo.toNat tlo hb2 ⟨?_, fun b o hb _ => ?_⟩
    · have s1 := B1.chg.size
      have s2 := c2.size
      have s3 := B3.chg.size
      (first | lia | omega)
    · have hbB : b < h.objs.size := Heap.lt_size hb
      have hb1 : h1.get? b = some o := by
        by_cases hbl : b = l
        · subst hbl
          rw [ho] at hb
          cases hb
          exact B1.at 0 rfl
        · exact B1.keep b o hb (by simpa using hbl)
      exact B3.keep b o (c2.keep b o hb1 (by simpa using Nat.ne_of_lt hbB)) (by simpa using Nat.ne_of_lt hbB)
  · have : j < xs.length := (List.getElem?_eq_some_iff.mp hy).1
    have : (Int.ofNat (ivs xs).length).toNat = xs.length := by rw [hlen']; rfl
    (first | lia | omega)
end
end
end Mine

end
section
open PySem PySem.W PySem.W.X PyProof.Rows
set_option maxRecDepth 100000
set_option Elab.async false
set_option maxHeartbeats 2000000
set_option genInjectivity false
set_option genSizeOfSpec false
namespace Mine
noncomputable section
noncomputable def q_in0 : Nat := 24520679877158393530443003706213085527254667912445689856
noncomputable def q_in1 : Nat := 9481770851653585600770
/-! insort_right -/
noncomputable def insCall (a : Nat) (x : Int) (tx : Nat) : Code := .call (.ref 44) ⟨[.ref a, .int x tx], []⟩
noncomputable def vsI (a : Nat) (x : Int) (tx : Nat) : Vs := [([97], .ref a), ([120], .int x tx), ([108, 111], .int 0 225), ([104, 105], .none), ([107, 101, 121], .none)]
noncomputable def insO (P : Params) (top : Nat → Option Obj) (B t₀ a : Nat) (xs : List (Int × Nat)) (e : Nat) (x : Int) (tx : Nat) : RO :=
  runQ (vOf P top [] [(a, lsO (ivs xs) e)] B t₀) 100 (startC (insCall a x tx) (btOf ([(a, lsO (ivs xs) e)].map (·.2))) q_in0)
noncomputable def insL (a fr : Nat) (xs : List (Int × Nat)) (e : Nat) (x : Int) (tx : Nat) (aux : Nat → Int × Nat) (ep : Nat) : Led := [(a, lsO (ivs xs) e), (fr, dicF "frame" (vsI a x tx) aux ep)]
@[reducible] noncomputable def InRuns_entry_p (P : Params) (top : Nat → Option Obj) := fun B t₀ a xs e x tx => (toldLp P top [] [(a, lsO (ivs xs) e)] B t₀ 100 (insCall a x tx) q_in0 [0] [1]
    (.call (bisCall a x tx (some 225))) 0 1 5 true [(a, some (lsO (ivs xs) e))] [(B, some (true, vsI a x tx))] [] : Tale × Tale)
@[reducible] noncomputable def InRuns_entry (P : Params) (top : Nat → Option Obj) : Prop := ∀ B t₀ a xs e x tx, IsT (InRuns_entry_p P top B t₀ a xs e x tx)
@[reducible] noncomputable def InRuns_back_p (P : Params) (top : Nat → Option Obj) := fun B t₀ a xs e x tx B2 t2 aux ep p tp => (toldGp P top [] (insL a B xs e x tx aux ep) B2 t2 100
    ((insO P top B t₀ a xs e x tx).resume (.ok (.ret (.int p tp))) (btOf ((insL a B xs e x tx aux ep).map (·.2))) q_in1) [0] []
    (.fin (.ok (.ret .none))) 0 0 1 true [(a, some (lsO ((ivs xs).take p.toNat ++ .int x tx :: (ivs xs).drop p.toNat) (e + 1)))] [] [0 ≤ p ∧ p ≤ (ivs xs).length ∧ (ivs xs).length ≤ 100000] : Tale × Tale)
@[reducible] noncomputable def InRuns_back (P : Params) (top : Nat → Option Obj) : Prop := ∀ B t₀ a xs e x tx B2 t2 aux ep p tp, IsT (InRuns_back_p P top B t₀ a xs e x tx B2 t2 aux ep p tp)
structure InRuns (P : Params) (top : Nat → Option Obj) : Prop where
  entry : InRuns_entry P top
  back : InRuns_back P top
section
variable {P : Params} {top : Nat → Option Obj} {w : World} {A : Around} {R : Result → Shared → Prop} {h : Heap} {g : Array GenState} {dr : Drawn} {os : OsState} {t₀ : Nat}
theorem insort_spec (hP : P = w.params) (Y : BiRuns P top) (Z : InRuns P top) (sep : TopSep top) (T : TopOk top h) {nr : Nat} (a : Rm A nr) (ha : nr ≤ 380) {l : Nat} {xs : List (Int × Nat)} {e : Nat} {x : Int} {tx : Nat} (hl : 143 ≤ l) (hsz : 143 ≤ h.objs.size) (ho : h.get? l = some (lsO (ivs xs) e)) (hlen : xs.length ≤ 100000) (hr : Rising xs) (hx : ∀ y ∈ xs, y.1 ≤ x)
    (X : ∀ h' t', h'.get? l = some (lsO (ivs (xs ++ [(x, tx)])) (e + 1)) → Chg h h' [l] → R (.ok (.ret .none)) ⟨h', g, dr, t', os⟩) : codeAny (Md w) A (insCall l x tx) R ⟨h, g, dr, t₀, os⟩ := by
  have hlB : l < h.objs.size := Heap.lt_size ho
  refine code_stop (pre_one T ho hl) sep hP a (by (first | lia | omega)) rfl (Z.entry _ t₀ l xs e x tx) trivial fun h1 B1 A' a' => ?_
  have T1 : TopOk top h1 := T.chg sep B1.chg (by simp; (first | lia | omega))
  have s1 := B1.chg.size
  have hd1 := B1.dicAt 0 rfl
  refine bisect_spec hP Y sep T1 a' (by (first | lia | omega)) hl (by (first | lia | omega)) (B1.at 0 rfl) hlen hr fun h2 t2 p tp hb c2 => ?_
  have hp : p = xs.length := by
    rcases Nat.lt_or_ge p xs.length with hlt | hge
    · have q := hb.2.2 p _ (Nat.le_refl _) (List.getElem?_eq_getElem hlt)
      have := hx _ (List.getElem_mem hlt)
      (first | lia | omega)
    · have := hb.1; (first | lia | omega)
  subst hp
  obtain ⟨aux, ep, hd1⟩ := hd1
  have T2 : TopOk top h2 := T1.chg sep c2 (by simp)
  have ho2 : h2.get? l = some (lsO (ivs xs) e) := c2.keep _ _ (B1.at 0 rfl) (by simp)
  have hd2 := c2.keep _ _ hd1 (by simp)
  refine res_fin (L := insL l h.objs.size xs e x tx aux ep) (pre_two T2 ho2 hd2 hl hsz (by (first | lia | omega))) sep hP a (by (first | lia | omega)) (Z.back h.objs.size t₀ l xs e x tx _ t2 aux ep _ tp) ⟨by simp; (first | lia | omega), trivial⟩ fun h3 B3 => ?_
  have s3 := B3.chg.size
  have s2 := c2.size
  refine X h3 _ ?_ ⟨by (first | lia | omega), fun b o hb' hn => ?_⟩
  · have q := B3.at 0 rfl
    have e1 : (ivs xs).take (Int.toNat (xs.length : Int)) ++ Value.int x tx :: (ivs xs).drop (Int.toNat (xs.length : Int)) = ivs (xs ++ [(x, tx)]) := by
      have : Int.toNat (xs.length : Int) = (ivs xs).length := by simp
      rw [this, List.take_length, List.drop_length]
      simp
    rw [e1] at q
    exact q
  · have hbB : b < h.objs.size := Heap.lt_size hb'
    have hbl : b ≠ l := by simpa using hn
    exact B3.keep b o (c2.keep b o (B1.keep b o hb' (by simpa using hbl)) (by simp)) (show b ∉ [l, h.objs.size] by simpa using ⟨hbl, Nat.ne_of_lt hbB⟩)
end
end
end Mine

end
section
set_option Elab.async false
set_option maxHeartbeats 2000000
set_option genInjectivity false
set_option genSizeOfSpec false
namespace Mine
/-! what a desk makes of the hours -/
noncomputable def lastZ (c : Nat) (D : List Int) : Int := if c ≤ D.length then (D[D.length - c]?).getD 0 else 0
noncomputable def deskGo (c : Nat) (s : Int) : List Int → List Int → List Int
  | D, [] => D
  | D, h :: r => deskGo c s (D ++ [max h (lastZ c D) + s]) r
noncomputable def Up (D : List Int) : Prop := ∀ (i j : Nat) (x y : Int), i ≤ j → D[i]? = some x → D[j]? = some y → x ≤ y
structure DeskOk (c : Nat) (s : Int) (D : List Int) (p : Int) : Prop where
  up : Up D
  nn : ∀ x ∈ D, 0 ≤ x
  nx : ∀ h, p ≤ h → ∀ y ∈ D, y ≤ max h (lastZ c D) + s
theorem lastZ_nn {c : Nat} {D : List Int} (nn : ∀ x ∈ D, 0 ≤ x) : 0 ≤ lastZ c D := by
  unfold lastZ
  split
  · cases e : D[D.length - c]? with
    | none => simp
    | some x => exact nn x (List.mem_of_getElem? e)
  · exact Int.le_refl _
theorem lastZ_mono {c : Nat} {D : List Int} {d : Int} (hc : 1 ≤ c) (up : Up D) (nn : ∀ x ∈ D, 0 ≤ x) (hd : ∀ y ∈ D, y ≤ d) (h0 : 0 ≤ d) : lastZ c D ≤ lastZ c (D ++ [d]) := by
  unfold lastZ
  have hl : (D ++ [d]).length = D.length + 1 := by simp
  rw [hl]
  by_cases h : c ≤ D.length
  · rw [if_pos h, if_pos (by (first | lia | omega))]
    have h1 : D.length - c < D.length := by (first | lia | omega)
    rw [List.getElem?_eq_getElem h1]
    by_cases h2 : c = 1
    · subst h2
      rw [Nat.add_sub_cancel, List.getElem?_append_right (Nat.le_refl _)]
      simp only [Nat.sub_self, List.getElem?_cons_zero, Option.getD_some]
      exact hd _ (List.getElem_mem _)
    · have h3 : D.length + 1 - c < D.length := by (first | lia | omega)
      rw [List.getElem?_append_left h3, List.getElem?_eq_getElem h3]
      exact up (D.length - c) (D.length + 1 - c) _ _ (by (first | lia | omega)) (List.getElem?_eq_getElem h1) (List.getElem?_eq_getElem h3)
  · rw [if_neg h]
    have z := lastZ_nn (c := c) (D := D ++ [d]) (fun x hx => by rcases List.mem_append.mp hx with hx | hx; exact nn x hx; simp at hx; (first | lia | omega))
    unfold lastZ at z
    rw [hl] at z
    exact z
theorem up_snoc {D : List Int} {d : Int} (up : Up D) (hd : ∀ y ∈ D, y ≤ d) : Up (D ++ [d]) := by
  intro i j x y hij hx hy
  rcases Nat.lt_or_ge j D.length with hj | hj
  · rw [List.getElem?_append_left hj] at hy
    rw [List.getElem?_append_left (by (first | lia | omega))] at hx
    exact up i j x y hij hx hy
  · rw [List.getElem?_append_right hj] at hy
    have hy' : y = d := by
      cases hk : j - D.length with
      | zero => rw [hk] at hy; simpa using hy.symm
      | succ n => rw [hk] at hy; simp at hy
    subst hy'
    rcases Nat.lt_or_ge i D.length with hi | hi
    · rw [List.getElem?_append_left hi] at hx
      exact hd x (List.mem_of_getElem? hx)
    · rw [List.getElem?_append_right hi] at hx
      cases hk : i - D.length with
      | zero => rw [hk] at hx; simp at hx; (first | lia | omega)
      | succ n => rw [hk] at hx; simp at hx
theorem DeskOk.step {c : Nat} {s : Int} {D : List Int} {p h : Int} (o : DeskOk c s D p) (hc : 1 ≤ c) (hs : 0 ≤ s) (hp : p ≤ h) (h0 : 0 ≤ h) : DeskOk c s (D ++ [max h (lastZ c D) + s]) h := by
  have hd := o.nx h hp
  have d0 : 0 ≤ max h (lastZ c D) + s := by have := Int.le_max_left h (lastZ c D); (first | lia | omega)
  have hm := lastZ_mono hc o.up o.nn hd d0
  refine ⟨up_snoc o.up hd, fun x hx => ?_, fun k hk y hy => ?_⟩
  · rcases List.mem_append.mp hx with hx | hx
    · exact o.nn x hx
    · simp at hx; (first | lia | omega)
  · have h1 : max h (lastZ c D) ≤ max k (lastZ c (D ++ [max h (lastZ c D) + s])) := by (first | lia | omega)
    rcases List.mem_append.mp hy with hy | hy
    · have := hd y hy; (first | lia | omega)
    · simp at hy; (first | lia | omega)
theorem DeskOk.nil (c : Nat) (s p : Int) : DeskOk c s [] p := ⟨fun _ _ _ _ _ h => by simp at h, fun _ h => by simp at h, fun _ _ _ h => by simp at h⟩
theorem deskGo_length {c : Nat} {s : Int} : ∀ (hs D : List Int), (deskGo c s D hs).length = D.length + hs.length
  | [], D => rfl
  | h :: r, D => by simp [deskGo, deskGo_length r]; (first | lia | omega)
theorem deskGo_ok {c : Nat} {s : Int} (hc : 1 ≤ c) (hs : 0 ≤ s) : ∀ (hs' D : List Int) (p : Int), DeskOk c s D p → 0 ≤ p → Up (p :: hs') → ∃ p', DeskOk c s (deskGo c s D hs') p'
  | [], D, p, o, _, _ => ⟨p, o⟩
  | h :: r, D, p, o, h0, u => by
    have hp : p ≤ h := u 0 1 _ _ (by decide) rfl rfl
    refine deskGo_ok hc hs r _ h (o.step hc hs hp (by (first | lia | omega))) (by (first | lia | omega)) ?_
    intro i j x y hij hx hy
    exact u (i + 1) (j + 1) x y (by (first | lia | omega)) (by simpa using hx) (by simpa using hy)
end Mine

end
section
set_option Elab.async false
set_option maxHeartbeats 2000000
set_option genInjectivity false
set_option genSizeOfSpec false
namespace Mine
/-! the heap of the clerks' hours -/
noncomputable def win (c : Nat) (D : List Int) : List Int := (List.replicate c 0 ++ D).drop D.length
theorem win_snoc {c : Nat} {D : List Int} {e : Int} : win c (D ++ [e]) = (win c D ++ [e]).tail := by
  unfold win
  rw [List.length_append, ← List.append_assoc, ← List.drop_one]
  show ((List.replicate c 0 ++ D) ++ [e]).drop (D.length + 1) = _
  rw [← List.drop_drop, List.drop_append_of_le_length (by simp)]
theorem win_nil {c : Nat} : win c [] = List.replicate c 0 := by simp [win]
theorem win_head {c : Nat} {D : List Int} (hc : 1 ≤ c) : (win c D).head? = some (lastZ c D) := by
  unfold win lastZ
  rw [List.head?_drop]
  split
  · rename_i h
    rw [List.getElem?_append_right (by simpa using h), List.length_replicate, List.getElem?_eq_getElem (by (first | lia | omega))]
    simp
  · rename_i h
    rw [List.getElem?_append_left (by simp; (first | lia | omega)), List.getElem?_replicate, if_pos (by (first | lia | omega))]
theorem win_mem {c : Nat} {D : List Int} : ∀ y ∈ win c D, y = 0 ∨ y ∈ D := fun y hy => by
  have := List.mem_of_mem_drop hy
  rcases List.mem_append.mp this with h | h
  · exact .inl (List.eq_of_mem_replicate h)
  · exact .inr h
inductive HpOk : List Int → List Int → Prop where
  | one (w0 : Int) : HpOk [w0] [w0]
  | two {w0 w1 : Int} (h : w0 ≤ w1) : HpOk [w0, w1] [w0, w1]
  | three {w0 w1 w2 : Int} (h : w0 ≤ w1) (h' : w1 ≤ w2) : HpOk [w0, w1, w2] [w0, w1, w2]
  | three' {w0 w1 w2 : Int} (h : w0 ≤ w1) (h' : w1 ≤ w2) : HpOk [w0, w1, w2] [w0, w2, w1]
  | four {w0 w1 w2 w3 : Int} (h : w0 ≤ w1) (h' : w1 ≤ w2) (h'' : w2 ≤ w3) : HpOk [w0, w1, w2, w3] [w0, w1, w2, w3]
  | four' {w0 w1 w2 w3 : Int} (h : w0 ≤ w1) (h' : w1 ≤ w2) (h'' : w2 ≤ w3) : HpOk [w0, w1, w2, w3] [w0, w1, w3, w2]
  | four'' {w0 w1 w2 w3 : Int} (h : w0 ≤ w1) (h' : w1 ≤ w2) (h'' : w2 ≤ w3) : HpOk [w0, w1, w2, w3] [w0, w2, w1, w3]
theorem HpOk.perm {W F : List Int} (h : HpOk W F) : F.Perm W := by
  cases h with
  | three' _ _ => exact .cons _ (.swap _ _ _)
  | four' _ _ _ => exact .cons _ (.cons _ (.swap _ _ _))
  | four'' _ _ _ => exact .cons _ (.swap _ _ _)
  | _ => exact .refl _
theorem HpOk.head {W F : List Int} (h : HpOk W F) : F.head? = W.head? ∧ 1 ≤ W.length ∧ W.length ≤ 4 := by
  cases h <;> exact ⟨rfl, Nat.le_of_ble_eq_true rfl, Nat.le_of_ble_eq_true rfl⟩
theorem HpOk.facts {W F : List Int} (h : HpOk W F) : F.head? = W.head? ∧ (∀ y ∈ F, y ∈ W) ∧ F.length = W.length ∧ 1 ≤ W.length ∧ W.length ≤ 4 :=
  ⟨h.head.1, fun _ hy => h.perm.mem_iff.mp hy, h.perm.length_eq, h.head.2⟩
theorem map1 {F : List (Int × Nat)} {w : Int} {l : List Int} (h : F.map (·.1) = w :: l) : ∃ a G, F = a :: G ∧ a.1 = w ∧ G.map (·.1) = l := by
  cases F with
  | nil => cases h
  | cons a G => injection h with h1 h2; exact ⟨a, G, rfl, h1, h2⟩
theorem map0 {F : List (Int × Nat)} (h : F.map (·.1) = []) : F = [] := List.map_eq_nil_iff.mp h
theorem hp3 {a b c : Int × Nat} {e : Int × Nat} {p : List Int → Prop} (h1 : b.1 < c.1 → p [b.1, e.1, c.1]) (h2 : c.1 ≤ b.1 → p [c.1, b.1, e.1]) : p ((hrF [a, b, c] e).map (·.1)) := by
  show p (List.map (·.1) (if b.1 < c.1 then [b, e, c] else [c, b, e]))
  by_cases q : b.1 < c.1
  · rw [if_pos q]; exact h1 q
  · rw [if_neg q]; exact h2 (Int.not_lt.mp q)
theorem hp4 {a b c d : Int × Nat} {e : Int × Nat} {p : List Int → Prop} (h1 : b.1 < c.1 → p [b.1, d.1, c.1, e.1]) (h2 : c.1 ≤ b.1 → p [c.1, b.1, e.1, d.1]) : p ((hrF [a, b, c, d] e).map (·.1)) := by
  show p (List.map (·.1) (if b.1 < c.1 then [b, d, c, e] else [c, b, e, d]))
  by_cases q : b.1 < c.1
  · rw [if_pos q]; exact h1 q
  · rw [if_neg q]; exact h2 (Int.not_lt.mp q)
theorem HpOk.step {W : List Int} {F : List (Int × Nat)} {e : Int} {te : Nat} (h : HpOk W (F.map (·.1))) (he : ∀ y ∈ W, y ≤ e) : HpOk (W ++ [e]).tail ((hrF F (e, te)).map (·.1)) := by
  generalize hG : F.map (·.1) = G at h
  cases h with
  | one w0 =>
    obtain ⟨a, G1, rfl, rfl, g1⟩ := map1 hG
    obtain rfl := map0 g1
    exact .one e
  | two h =>
    obtain ⟨a, G1, rfl, rfl, g1⟩ := map1 hG
    obtain ⟨b, G2, rfl, rfl, g2⟩ := map1 g1
    obtain rfl := map0 g2
    exact .two (he _ (.tail _ (.head _)))
  | three h h' =>
    obtain ⟨a, G1, rfl, rfl, g1⟩ := map1 hG
    obtain ⟨b, G2, rfl, rfl, g2⟩ := map1 g1
    obtain ⟨c, G3, rfl, rfl, g3⟩ := map1 g2
    obtain rfl := map0 g3
    have he := he c.1 (.tail _ (.tail _ (.head _)))
    refine hp3 (p := HpOk _) (fun _ => .three' h' he) fun q => ?_
    have q := Int.le_antisymm h' q
    rw [q]
    exact .three (Int.le_refl _) he
  | three' h h' =>
    obtain ⟨a, G1, rfl, rfl, g1⟩ := map1 hG
    obtain ⟨b, G2, rfl, rfl, g2⟩ := map1 g1
    obtain ⟨c, G3, rfl, rfl, g3⟩ := map1 g2
    obtain rfl := map0 g3
    have he := he b.1 (.tail _ (.tail _ (.head _)))
    exact hp3 (p := HpOk _) (fun q => absurd h' (Int.not_le.mpr q)) fun _ => .three h' he
  | four h h' h'' =>
    obtain ⟨a, G1, rfl, rfl, g1⟩ := map1 hG
    obtain ⟨b, G2, rfl, rfl, g2⟩ := map1 g1
    obtain ⟨c, G3, rfl, rfl, g3⟩ := map1 g2
    obtain ⟨d, G4, rfl, rfl, g4⟩ := map1 g3
    obtain rfl := map0 g4
    have he := he d.1 (.tail _ (.tail _ (.tail _ (.head _))))
    refine hp4 (p := HpOk _) (fun _ => .four'' h' h'' he) fun q => ?_
    have q := Int.le_antisymm h' q
    rw [q]
    exact .four' (Int.le_refl _) h'' he
  | four' h h' h'' =>
    obtain ⟨a, G1, rfl, rfl, g1⟩ := map1 hG
    obtain ⟨b, G2, rfl, rfl, g2⟩ := map1 g1
    obtain ⟨c, G3, rfl, rfl, g3⟩ := map1 g2
    obtain ⟨d, G4, rfl, rfl, g4⟩ := map1 g3
    obtain rfl := map0 g4
    have he := he c.1 (.tail _ (.tail _ (.tail _ (.head _))))
    refine hp4 (p := HpOk _) (fun _ => .four h' h'' he) fun q => ?_
    have q1 := Int.le_antisymm (Int.le_trans h' h'') q
    have q2 := Int.le_antisymm h'' (q1 ▸ h')
    rw [q2, q1]
    exact .four' (Int.le_refl _) (Int.le_refl _) he
  | four'' h h' h'' =>
    obtain ⟨a, G1, rfl, rfl, g1⟩ := map1 hG
    obtain ⟨b, G2, rfl, rfl, g2⟩ := map1 g1
    obtain ⟨c, G3, rfl, rfl, g3⟩ := map1 g2
    obtain ⟨d, G4, rfl, rfl, g4⟩ := map1 g3
    obtain rfl := map0 g4
    have he := he d.1 (.tail _ (.tail _ (.tail _ (.head _))))
    exact hp4 (p := HpOk _) (fun q => absurd h' (Int.not_le.mpr q)) fun _ => .four' h' h'' he
theorem HpOk.start {c : Nat} (h1 : 1 ≤ c) (h4 : c ≤ 4) : HpOk (List.replicate c 0) (List.replicate c 0) :=
  all14 (p := fun c => HpOk (List.replicate c 0) (List.replicate c 0)) (.one 0) (.two (Int.le_refl _)) (.three (Int.le_refl _) (Int.le_refl _)) (.four (Int.le_refl _) (Int.le_refl _) (Int.le_refl _)) c h1 h4
end Mine

end
section
open PySem PySem.W PySem.W.X PyProof.Rows
set_option maxRecDepth 100000
set_option Elab.async false
set_option maxHeartbeats 2000000
set_option genInjectivity false
set_option genSizeOfSpec false
namespace Mine
noncomputable section
/-! jobs, and what a desk makes of them -/
noncomputable abbrev Job := (Int × Nat) × (Str × Nat)
noncomputable def tuO (j : Job) : Obj := { cls := .type "tuple", dict := none, data := .seq ⟨[.int j.1.1 j.1.2, .str j.2.1 j.2.2]⟩ 0, slots := #[] }
noncomputable abbrev rfs (ts : List Nat) : List Value := ts.map Value.ref
noncomputable abbrev hrs (js : List Job) : List Int := js.map (·.1.1)
noncomputable abbrev nms (js : List Job) : List Str := js.map (·.2.1)
structure Jobs (h : Heap) (l : Nat) (ts : List Nat) (js : List Job) (e : Nat) : Prop where
  list : h.get? l = some (lsO (rfs ts) e)
  low : 143 ≤ l
  len : ts.length = js.length
  tup : ∀ (k t : Nat) (j : Job), ts[k]? = some t → js[k]? = some j → h.get? t = some (tuO j) ∧ 143 ≤ t
theorem Jobs.chg {h h' : Heap} {l : Nat} {ts : List Nat} {js : List Job} {e : Nat} {ls : List Nat} (J : Jobs h l ts js e) (c : Chg h h' ls) (hl : l ∉ ls) (ht : ∀ t ∈ ts, t ∉ ls) : Jobs h' l ts js e :=
  ⟨c.keep _ _ J.list hl, J.low, J.len, fun k t j h1 h2 => ⟨c.keep _ _ (J.tup k t j h1 h2).1 (ht t (List.mem_of_getElem? h1)), (J.tup k t j h1 h2).2⟩⟩
theorem Jobs.lt {h : Heap} {l : Nat} {ts : List Nat} {js : List Job} {e : Nat} (J : Jobs h l ts js e) : ∀ t ∈ ts, t < h.objs.size := fun t ht => by
  obtain ⟨k, hk, rfl⟩ := List.getElem_of_mem ht
  have hk' : k < js.length := J.len ▸ hk
  exact Heap.lt_size (J.tup k _ _ (List.getElem?_eq_getElem hk) (List.getElem?_eq_getElem hk')).1
theorem Chg.trans {h h1 h2 : Heap} {l1 l2 : List Nat} (c1 : Chg h h1 l1) (c2 : Chg h1 h2 l2) : Chg h h2 (l1 ++ l2) :=
  ⟨Nat.le_trans c1.size c2.size, fun b o hb hn => c2.keep b o (c1.keep b o hb fun x => hn (List.mem_append.mpr (.inl x))) fun x => hn (List.mem_append.mpr (.inr x))⟩
theorem Chg.drop {h h' : Heap} {ls ls' : List Nat} (c : Chg h h' ls) (same : ∀ a ∈ ls, a ∉ ls' → ∀ o, h.get? a = some o → h'.get? a = some o) : Chg h h' ls' :=
  ⟨c.size, fun b o hb hn => if hm : b ∈ ls then same b hm hn o hb else c.keep b o hb hm⟩
theorem Chg.none {h h' : Heap} {ls : List Nat} (c : Chg h h' ls) (hb : ∀ a ∈ ls, h.objs.size ≤ a) : Chg h h' [] :=
  c.drop fun a ha _ o ho => by have h1 := hb a ha; have h2 : a < h.objs.size := Heap.lt_size ho; (first | lia | omega)
theorem Chg.refl (h : Heap) : Chg h h [] := ⟨Nat.le_refl _, fun _ _ hb _ => hb⟩
/-- the same object still -/
theorem same_of {h h' : Heap} {a : Nat} {o : Obj} (h1 : h.get? a = some o) (h2 : h'.get? a = some o) : ∀ o', h.get? a = some o' → h'.get? a = some o' := fun o' e => by rw [h1] at e; cases e; exact h2
/-- a list of one more -/
theorem Jobs.snoc {h : Heap} {l : Nat} {ts : List Nat} {js : List Job} {e t : Nat} {j : Job} {e' : Nat} (J : Jobs h l ts js e) {h' : Heap} (hl : h'.get? l = some (lsO (rfs (ts ++ [t])) e')) (keep : ∀ t ∈ ts, ∀ o, h.get? t = some o → h'.get? t = some o) (ht : h'.get? t = some (tuO j)) (hl' : 143 ≤ t) : Jobs h' l (ts ++ [t]) (js ++ [j]) e' := by
  refine ⟨hl, J.low, by simp [J.len], fun k t' j' h1 h2 => ?_⟩
  have hlen := J.len
  rcases Nat.lt_or_ge k ts.length with hk | hk
  · rw [List.getElem?_append_left hk] at h1
    rw [List.getElem?_append_left (by (first | lia | omega))] at h2
    have z := J.tup k t' j' h1 h2
    exact ⟨keep t' (List.mem_of_getElem? h1) _ z.1, z.2⟩
  · rw [List.getElem?_append_right hk] at h1
    rw [List.getElem?_append_right (by (first | lia | omega)), ← hlen] at h2
    cases hd : k - ts.length with
    | zero => rw [hd] at h1 h2; simp at h1 h2; subst h1 h2; exact ⟨ht, hl'⟩
    | succ n => rw [hd] at h1; simp at h1
/-! the end of a for loop over a list -/
noncomputable def q_end : Nat := 18908057074422956294146
@[reducible] noncomputable def endRun_p (P : Params) (top : Nat → Option Obj) (xs : List Value) := fun B t₀ t b env l it e => (toldLp P top [] [(l, lsO xs e), (it, itO l (.ofNat xs.length) 0)] B t₀ 50 (.forLoop t (.ref it) b [] env) q_end [0] [] (.fin (.ok .next)) 0 2 0 true [(l, some (lsO xs e))] [] [] : Tale × Tale)
@[reducible] noncomputable def endRun (P : Params) (top : Nat → Option Obj) (xs : List Value) : Prop := ∀ B t₀ t b env l it e, IsT (endRun_p P top xs B t₀ t b env l it e)
@[reducible] noncomputable def EnRuns_e4 (P : Params) (top : Nat → Option Obj) : Prop := ∀ a b c d, endRun P top [a, b, c, d]
@[reducible] noncomputable def EnRuns_e5 (P : Params) (top : Nat → Option Obj) : Prop := ∀ a b c d e, endRun P top [a, b, c, d, e]
@[reducible] noncomputable def EnRuns_e6 (P : Params) (top : Nat → Option Obj) : Prop := ∀ a b c d e f, endRun P top [a, b, c, d, e, f]
@[reducible] noncomputable def EnRuns_e7 (P : Params) (top : Nat → Option Obj) : Prop := ∀ a b c d e f g, endRun P top [a, b, c, d, e, f, g]
structure EnRuns (P : Params) (top : Nat → Option Obj) : Prop where
  e4 : EnRuns_e4 P top
  e5 : EnRuns_e5 P top
  e6 : EnRuns_e6 P top
  e7 : EnRuns_e7 P top
theorem EnRuns.all {P : Params} {top : Nat → Option Obj} (Z : EnRuns P top) : ∀ (xs : List Value), 4 ≤ xs.length → xs.length ≤ 7 → endRun P top xs
  | [], h, _ => absurd h (by simp)
  | [_], h, _ => absurd h (by simp)
  | [_, _], h, _ => absurd h (by simp)
  | [_, _, _], h, _ => absurd h (by simp)
  | [a, b, c, d], _, _ => Z.e4 a b c d
  | [a, b, c, d, e], _, _ => Z.e5 a b c d e
  | [a, b, c, d, e, f], _, _ => Z.e6 a b c d e f
  | [a, b, c, d, e, f, g], _, _ => Z.e7 a b c d e f g
  | _ :: _ :: _ :: _ :: _ :: _ :: _ :: _ :: _, _, h => absurd h (by simp)
theorem for_end {P : Params} {top : Nat → Option Obj} {w : World} {A : Around} {R : Result → Shared → Prop} {h : Heap} {g : Array GenState} {dr : Drawn} {os : OsState} {t₀ : Nat} (hP : P = w.params) (Z : EnRuns P top) (sep : TopSep top) (T : TopOk top h) {nr : Nat} (a : Rm A nr) (ha : nr ≤ 400)
    {xs : List Value} {l it e : Nat} (hl : h.get? l = some (lsO xs e)) (hi : h.get? it = some (itO l (.ofNat xs.length) 0)) (hl' : 143 ≤ l) (hi' : 143 ≤ it) (h4 : 4 ≤ xs.length) (h7 : xs.length ≤ 7) {tg : PySem.Expr} {b : List Stmt} {env : Env}
    (X : ∀ h' t', Chg h h' [it] → R (.ok .next) ⟨h', g, dr, t', os⟩) : codeAny (Md w) A (.forLoop tg (.ref it) b [] env) R ⟨h, g, dr, t₀, os⟩ := by
  have hn : l ≠ it := by intro q; subst q; rw [hl] at hi; exact nomatch (congrArg Obj.data (Option.some.inj hi) : Data.seq ⟨xs⟩ e = Data.fields _)
  refine code_fin (pre_two T hl hi hl' hi' hn) sep hP a ha rfl (Z.all xs h4 h7 _ t₀ tg b env l it e) trivial fun h' B => ?_
  refine X h' _ (B.chg.drop fun b hb hn' => ?_)
  have : b = l := by simp at hb hn'; (first | lia | omega)
  subst this
  exact same_of hl (B.at 0 rfl)
theorem rising_of {E : List (Int × Nat)} (u : Up (E.map (·.1))) : Rising E := fun i j y z hij h1 h2 => u i j y.1 z.1 hij (by rw [List.getElem?_map, h1]; rfl) (by rw [List.getElem?_map, h2]; rfl)
noncomputable def isFor : Code → Bool
  | .forLoop _ _ _ [] _ => true
  | _ => false
theorem is_for {top : Nat → Option Obj} {f k fr : Nat} {cells : List (Str × Nat)} {it : Value} (h : isFor (loopC top f k fr cells it) = true) : ∃ tg b env, loopC top f k fr cells it = .forLoop tg it b [] env :=
  loopC_cases (p := fun c => isFor c = true → ∃ tg b env, c = .forLoop tg it b [] env) (fun _ _ _ _ h => nomatch h) (fun _ _ o _ h => by
    cases o with
    | nil => exact ⟨_, _, _, rfl⟩
    | cons => cases h) (fun h => nomatch h) h
theorem pre_mk {top : Nat → Option Obj} {h : Heap} {L : Led} (t : TopOk top h) (has : ∀ p ∈ L, h.get? p.1 = some p.2) (nd : (L.map (·.1)).Nodup) (low : ∀ a ∈ L.map (·.1), a = 97 ∨ a = 139 ∨ 143 ≤ a) : Pre top h L := ⟨t, has, nd, fun p hp => low p.1 (List.mem_map.mpr ⟨p, hp, rfl⟩)⟩
theorem lsO_ne_tuO {h : Heap} {a b : Nat} {xs : List Value} {e : Nat} {j : Job} (h1 : h.get? a = some (lsO xs e)) (h2 : h.get? b = some (tuO j)) : a ≠ b := by
  intro q; subst q
  rw [h1] at h2
  have : Value.type "list" = Value.type "tuple" := congrArg Obj.cls (Option.some.inj h2)
  exact absurd this (by decide +kernel)
theorem ok_for {c : Code} (h : isFor c = true) : okCode c = true := by
  cases c <;> first | rfl | cases h
theorem Jobs.ne_dic {h : Heap} {l : Nat} {ts : List Nat} {js : List Job} {e : Nat} (J : Jobs h l ts js e) {a : Nat} {vs : Vs} {aux : Nat → Int × Nat} {ep : Nat} (ha : h.get? a = some (dicF "frame" vs aux ep)) : ∀ t ∈ ts, t ≠ a := fun t ht q => by
  subst q
  obtain ⟨k, hk, rfl⟩ := List.getElem_of_mem ht
  have hk' : k < js.length := J.len ▸ hk
  have z := (J.tup k _ _ (List.getElem?_eq_getElem hk) (List.getElem?_eq_getElem hk')).1
  rw [ha] at z
  have : Value.type "frame" = Value.type "tuple" := congrArg Obj.cls (Option.some.inj z)
  exact absurd this (by decide +kernel)
end
end Mine

end
section
open PySem PySem.W PySem.W.X PyProof.Rows
set_option maxRecDepth 100000
set_option Elab.async false
set_option maxHeartbeats 2000000
set_option genInjectivity false
set_option genSizeOfSpec false
namespace Mine
noncomputable section
noncomputable def q_ro0 : Nat := 381451949644452482181736501155201408549158129893376
noncomputable def q_roR : Nat := 1
noncomputable def q_rt1 : Nat := 186076414028906925364405077362416012689179032741029496650753572293983741304533897886141599047149372903217926516698740785466022755349824005
noncomputable def q_rt2T : Nat := 6277101736853913692684043960075226332798091504529073831936
noncomputable def q_rt2F : Nat := 79228162532783420736301760512
noncomputable def q_rt3 : Nat := 79540070098091677373375316481
noncomputable def q_roE : Nat := 37853079414216199569413
/-! the desk that keeps a row -/
noncomputable def rowCall (jl : Nat) (c : Int) (tc : Nat) (s : Int) (ts : Nat) : Code := .call (.ref 116) ⟨[.ref jl, .int c tc, .int s ts], []⟩
noncomputable def exR (o : Option (Value × Value × Value)) : Vs := match o with
  | none => []
  | some (a, b, c) => [([104, 111, 117, 114], a), ([110, 97, 109, 101], b), ([98, 101, 103, 105, 110], c)]
structure RowS where
  jl : Nat
  fr : Nat
  en : Nat
  dn : Nat
  it : Nat
  tj : Nat
  tl : List Nat
  ej : Nat
  c : Int
  tc : Nat
  s : Int
  ts : Nat
  E : List (Int × Nat)
  ee : Nat
  ds : List Value
  ed : Nat
  k : Nat
  j : Job
noncomputable def vsR (jl : Nat) (c : Int) (tc : Nat) (s : Int) (ts : Nat) (en dn : Nat) (ex : Vs) : Vs := [([106, 111, 98, 115], .ref jl), ([99, 108, 101, 114, 107, 115], .int c tc), ([115, 116, 97, 121], .int s ts), ([101, 110, 100, 115], .ref en), ([100, 111, 110, 101], .ref dn)] ++ ex
noncomputable def RowS.vs (S : RowS) (ex : Option (Value × Value × Value)) : Vs := vsR S.jl S.c S.tc S.s S.ts S.en S.dn (exR ex)
noncomputable abbrev RowS.exB (S : RowS) (bg : Int) (tb : Nat) : Option (Value × Value × Value) := some (.int S.j.1.1 S.j.1.2, .str S.j.2.1 S.j.2.2, .int bg tb)
noncomputable abbrev RowS.ex1 (S : RowS) : Option (Value × Value × Value) := S.exB S.j.1.1 S.j.1.2
noncomputable def rowO (P : Params) (top : Nat → Option Obj) (B t₀ jl : Nat) (tl : List Nat) (ej : Nat) (c : Int) (tc : Nat) (s : Int) (ts : Nat) : RO :=
  runQ (vOf P top [] [(jl, lsO (rfs tl) ej)] B t₀) 100 (startC (rowCall jl c tc s ts) (btOf ([(jl, lsO (rfs tl) ej)].map (·.2))) q_ro0)
noncomputable def RowS.L1 (S : RowS) (vs : Vs) (aux : Nat → Int × Nat) (ep : Nat) : Led :=
  [(S.jl, lsO (rfs S.tl) S.ej), (S.fr, dicF "frame" vs aux ep), (S.en, lsO (ivs S.E) S.ee), (S.dn, lsO S.ds S.ed), (S.it, itO S.jl (.ofNat S.k) 0), (S.tj, tuO S.j)]
noncomputable def RowS.O1 (P : Params) (top : Nat → Option Obj) (B t₀ : Nat) (S : RowS) (vs : Vs) (aux : Nat → Int × Nat) (ep : Nat) : RO :=
  runQ (vOf P top [.ref S.tj] (S.L1 vs aux ep) B t₀) 200 (startC (loopC top 116 0 S.fr [] (.ref S.it)) (btOf ((S.L1 vs aux ep).map (·.2))) q_rt1)
noncomputable def RowS.L2 (S : RowS) (aux : Nat → Int × Nat) (ep : Nat) : Led := [(S.fr, dicF "frame" (S.vs S.ex1) aux ep), (S.en, lsO (ivs S.E) S.ee)]
noncomputable def RowS.O2 (P : Params) (top : Nat → Option Obj) (B t₀ : Nat) (S : RowS) (o : RO) (p : Int) (tp : Nat) (gv : List Value) (q : Nat) (aux : Nat → Int × Nat) (ep : Nat) : RO :=
  runQ (vOf P top gv (S.L2 aux ep) B t₀) 100 (o.resume (.ok (.ret (.int p tp))) (btOf ((S.L2 aux ep).map (·.2))) q)
noncomputable def RowS.L3 (S : RowS) (bg : Int) (tb : Nat) (aux : Nat → Int × Nat) (ep : Nat) : Led := [(S.fr, dicF "frame" (S.vs (S.exB bg tb)) aux ep), (S.dn, lsO S.ds S.ed)]
@[reducible] noncomputable def RoRuns_shape (P : Params) (top : Nat → Option Obj) : Prop := ∀ fr it, isFor (loopC top 116 0 fr [] it) = true
@[reducible] noncomputable def RoRuns_entry_p (P : Params) (top : Nat → Option Obj) := fun B t₀ jl tl ej c tc s ts => (toldLp P top [] [(jl, lsO (rfs tl) ej)] B t₀ 100 (rowCall jl c tc s ts) q_ro0 [0, 2, 3, 4] [1]
    (.call (loopC top 116 0 B [] (.ref (B + 3)))) 0 4 5 true [(jl, some (lsO (rfs tl) ej)), (B + 1, some (lsO (ivs []) 0)), (B + 2, some (lsO (rfs []) 0)), (B + 3, some (itO jl (.ofNat 0) 0))] [(B, some (true, vsR jl c tc s ts (B + 1) (B + 2) (exR none)))] [] : Tale × Tale)
@[reducible] noncomputable def RoRuns_entry (P : Params) (top : Nat → Option Obj) : Prop := ∀ B t₀ jl tl ej c tc s ts, IsT (RoRuns_entry_p P top B t₀ jl tl ej c tc s ts)
@[reducible] noncomputable def RoRuns_turn1_p (P : Params) (top : Nat → Option Obj) := fun B t₀ (S : RowS) ex aux ep => (toldLp P top [.ref S.tj] (S.L1 (S.vs ex) aux ep) B t₀ 200 (loopC top 116 0 S.fr [] (.ref S.it)) q_rt1 [0, 2, 3, 4, 5] [1]
    (.call (bisCall S.en S.j.1.1 S.j.1.2 none)) 0 3 5 true [(S.jl, some (lsO (rfs S.tl) S.ej)), (S.en, some (lsO (ivs S.E) S.ee)), (S.dn, some (lsO S.ds S.ed)), (S.it, some (itO S.jl (.ofNat (S.k + 1)) 0)), (S.tj, some (tuO S.j))] [(S.fr, some (true, S.vs S.ex1))]
    [(ivs S.E).length ≤ 100000, (rfs S.tl)[(Int.ofNat S.k).toNat]? = some (.ref S.tj)] : Tale × Tale)
@[reducible] noncomputable def RoRuns_turn1 (P : Params) (top : Nat → Option Obj) : Prop := ∀ B t₀ (S : RowS) ex aux ep, IsT (RoRuns_turn1_p P top B t₀ S ex aux ep)
@[reducible] noncomputable def RoRuns_turn2T_p (P : Params) (top : Nat → Option Obj) := fun B t₀ (S : RowS) ex aux ep B2 t2 aux2 ep2 p tp y ty => (toldGp P top [.int y ty] (S.L2 aux2 ep2) B2 t2 100 ((RowS.O1 P top B t₀ S (S.vs ex) aux ep).resume (.ok (.ret (.int p tp))) (btOf ((S.L2 aux2 ep2).map (·.2))) q_rt2T) [1] [0]
    (.call (insCall S.en (y + S.s) (t2 + 3))) 0 0 4 true [(S.en, some (lsO (ivs S.E) S.ee))] [(S.fr, some (true, S.vs (S.exB y ty)))] [ItemAt (ivs S.E) (-S.c) (.int y ty) ∧ -100000 ≤ -S.c ∧ -S.c ≤ 100000 ∧ (ivs S.E).length ≤ 100000, Int.ofNat (ivs S.E).length - p ≥ S.c] : Tale × Tale)
@[reducible] noncomputable def RoRuns_turn2T (P : Params) (top : Nat → Option Obj) : Prop := ∀ B t₀ (S : RowS) ex aux ep B2 t2 aux2 ep2 p tp y ty, IsT (RoRuns_turn2T_p P top B t₀ S ex aux ep B2 t2 aux2 ep2 p tp y ty)
@[reducible] noncomputable def RoRuns_turn2F_p (P : Params) (top : Nat → Option Obj) := fun B t₀ (S : RowS) ex aux ep B2 t2 aux2 ep2 p tp => (toldGp P top [] (S.L2 aux2 ep2) B2 t2 100 ((RowS.O1 P top B t₀ S (S.vs ex) aux ep).resume (.ok (.ret (.int p tp))) (btOf ((S.L2 aux2 ep2).map (·.2))) q_rt2F) [1] [0]
    (.call (insCall S.en (S.j.1.1 + S.s) (t2 + 1))) 0 0 2 true [(S.en, some (lsO (ivs S.E) S.ee))] [(S.fr, some (true, S.vs S.ex1))] [¬ (Int.ofNat (ivs S.E).length - p ≥ S.c)] : Tale × Tale)
@[reducible] noncomputable def RoRuns_turn2F (P : Params) (top : Nat → Option Obj) : Prop := ∀ B t₀ (S : RowS) ex aux ep B2 t2 aux2 ep2 p tp, IsT (RoRuns_turn2F_p P top B t₀ S ex aux ep B2 t2 aux2 ep2 p tp)
@[reducible] noncomputable def RoRuns_turn3T_p (P : Params) (top : Nat → Option Obj) := fun B t₀ (S : RowS) ex aux ep B2 t2 aux2 ep2 p tp y ty B3 t3 aux3 ep3 => (toldGp P top [] (S.L3 y ty aux3 ep3) B3 t3 100 ((RowS.O2 P top B2 t2 S (RowS.O1 P top B t₀ S (S.vs ex) aux ep) p tp [.int y ty] q_rt2T aux2 ep2).resume (.ok (.ret .none)) (btOf ((S.L3 y ty aux3 ep3).map (·.2))) q_rt3) [1, 2] [0]
    (.again (loopC top 116 0 S.fr [] (.ref S.it))) 0 1 1 true [(S.dn, some (lsO (S.ds ++ [.ref B3]) (S.ed + 1))), (B3, some (tuO ((y + S.s, t3), S.j.2)))] [(S.fr, some (true, S.vs (S.exB y ty)))] [S.ds.length ≤ 100000] : Tale × Tale)
@[reducible] noncomputable def RoRuns_turn3T (P : Params) (top : Nat → Option Obj) : Prop := ∀ B t₀ (S : RowS) ex aux ep B2 t2 aux2 ep2 p tp y ty B3 t3 aux3 ep3, IsT (RoRuns_turn3T_p P top B t₀ S ex aux ep B2 t2 aux2 ep2 p tp y ty B3 t3 aux3 ep3)
@[reducible] noncomputable def RoRuns_turn3F_p (P : Params) (top : Nat → Option Obj) := fun B t₀ (S : RowS) ex aux ep B2 t2 aux2 ep2 p tp B3 t3 aux3 ep3 => (toldGp P top [] (S.L3 S.j.1.1 S.j.1.2 aux3 ep3) B3 t3 100 ((RowS.O2 P top B2 t2 S (RowS.O1 P top B t₀ S (S.vs ex) aux ep) p tp [] q_rt2F aux2 ep2).resume (.ok (.ret .none)) (btOf ((S.L3 S.j.1.1 S.j.1.2 aux3 ep3).map (·.2))) q_rt3) [1, 2] [0]
    (.again (loopC top 116 0 S.fr [] (.ref S.it))) 0 1 1 true [(S.dn, some (lsO (S.ds ++ [.ref B3]) (S.ed + 1))), (B3, some (tuO ((S.j.1.1 + S.s, t3), S.j.2)))] [(S.fr, some (true, S.vs S.ex1))] [S.ds.length ≤ 100000] : Tale × Tale)
@[reducible] noncomputable def RoRuns_turn3F (P : Params) (top : Nat → Option Obj) : Prop := ∀ B t₀ (S : RowS) ex aux ep B2 t2 aux2 ep2 p tp B3 t3 aux3 ep3, IsT (RoRuns_turn3F_p P top B t₀ S ex aux ep B2 t2 aux2 ep2 p tp B3 t3 aux3 ep3)
@[reducible] noncomputable def RoRuns_back_p (P : Params) (top : Nat → Option Obj) := fun B t₀ jl tl ej c tc s ts B2 t2 en dn ex aux ep => (toldGp P top [] [(B, dicF "frame" (vsR jl c tc s ts en dn (exR ex)) aux ep)] B2 t2 100 ((rowO P top B t₀ jl tl ej c tc s ts).resume (.ok .next) (btOf ([(B, dicF "frame" (vsR jl c tc s ts en dn (exR ex)) aux ep)].map (·.2))) q_roR) [] []
    (.fin (.ok (.ret (.ref dn)))) 0 0 0 true [] [] [] : Tale × Tale)
@[reducible] noncomputable def RoRuns_back (P : Params) (top : Nat → Option Obj) : Prop := ∀ B t₀ jl tl ej c tc s ts B2 t2 en dn ex aux ep, IsT (RoRuns_back_p P top B t₀ jl tl ej c tc s ts B2 t2 en dn ex aux ep)
structure RoRuns (P : Params) (top : Nat → Option Obj) : Prop where
  shape : RoRuns_shape P top
  entry : RoRuns_entry P top
  turn1 : RoRuns_turn1 P top
  turn2T : RoRuns_turn2T P top
  turn2F : RoRuns_turn2F P top
  turn3T : RoRuns_turn3T P top
  turn3F : RoRuns_turn3F P top
  back : RoRuns_back P top
section
variable {P : Params} {top : Nat → Option Obj} {w : World} {A : Around} {R : Result → Shared → Prop} {g : Array GenState} {dr : Drawn} {os : OsState}
theorem row_loop (hP : P = w.params) (Y : BiRuns P top) (I : InRuns P top) (Z : RoRuns P top) (En : EnRuns P top) (sep : TopSep top) {nr : Nat} (a : Rm A nr) (ha : nr ≤ 370) {jl B0 ej tc ts cN : Nat} {s : Int} {tl : List Nat} {js : List Job} (hc : 1 ≤ cN) (hc' : cN ≤ 100000) (hs : 0 ≤ s) (h4 : 4 ≤ js.length) (h7 : js.length ≤ 7) (hB : 143 ≤ B0) (hjl : jl < B0) (htl : ∀ t ∈ tl, t < B0) :
    ∀ (rest : List Job) (k : Nat) (E : List (Int × Nat)) (ds : List Nat) (D : List Job) (ex : Option (Value × Value × Value)) (h : Heap) (t₀ ee ed : Nat) (p : Int), js.drop k = rest → k ≤ js.length → B0 + 4 ≤ h.objs.size → TopOk top h → Jobs h jl tl js ej → IsDic h B0 "frame" (vsR jl cN tc s ts (B0 + 1) (B0 + 2) (exR ex)) → h.get? (B0 + 1) = some (lsO (ivs E) ee) → Jobs h (B0 + 2) ds D ed → h.get? (B0 + 3) = some (itO jl (.ofNat k) 0) →
      E.map (·.1) = hrs D → ds.length = k → DeskOk cN s (hrs D) p → 0 ≤ p → Up (p :: hrs rest) → (∀ t ∈ ds, B0 + 4 ≤ t) →
      (∀ h' t' ex' ds' D' ed', IsDic h' B0 "frame" (vsR jl cN tc s ts (B0 + 1) (B0 + 2) (exR ex')) → Jobs h' (B0 + 2) ds' D' ed' → hrs D' = deskGo cN s (hrs D) (hrs rest) → nms D' = nms D ++ nms rest → Chg h h' [B0, B0 + 1, B0 + 2, B0 + 3] → R (.ok .next) ⟨h', g, dr, t', os⟩) →
      codeAny (Md w) A (loopC top 116 0 B0 [] (.ref (B0 + 3))) R ⟨h, g, dr, t₀, os⟩ := by
  have so : Ds [B0, B0 + 1, B0 + 2, B0 + 3] := Asc.ds (f := 142) ⟨hB, Nat.lt_succ_self _, Nat.lt_succ_self _, Nat.lt_succ_self _, trivial⟩ (by decide)
  have x0 : Ix [B0, B0 + 1, B0 + 2, B0 + 3] (B0) 0 := ix0
  have x1 : Ix [B0, B0 + 1, B0 + 2, B0 + 3] (B0 + 1) 1 := ixs ix0
  have x2 : Ix [B0, B0 + 1, B0 + 2, B0 + 3] (B0 + 2) 2 := ixs (ixs ix0)
  have x3 : Ix [B0, B0 + 1, B0 + 2, B0 + 3] (B0 + 3) 3 := ixs (ixs (ixs ix0))
  intro rest
  induction rest with
  | nil =>
    intro k E ds D ex h t₀ ee ed p hd hkj hsz T J hfr hen hdn hit hED hk ok hp up hds X
    obtain ⟨tg, b, env, e⟩ := is_for (Z.shape B0 (.ref (B0 + 3)))
    rw [e]
    have hkl : k = js.length := by
      have h1 : js.length ≤ k := by simpa using hd
      (first | lia | omega)
    have hlen : (rfs tl).length = k := by simp [J.len, hkl]
    refine for_end hP En sep T a (by (first | lia | omega)) J.list (by rw [hlen]; exact hit) J.low (by (first | lia | omega)) (by (first | lia | omega)) (by (first | lia | omega)) fun h' t' c => ?_
    obtain ⟨aux, ep, hfr⟩ := hfr
    refine X h' t' ex ds D ed ⟨aux, ep, c.keep _ _ hfr (by simp)⟩ (hdn.chg c (by simp) (fun t ht => by have := hds t ht; simp; (first | lia | omega))) rfl (by simp) (by first | exact Chg.cut c (by (repeat' (first | exact Cut.nil | refine Cut.kept ix0 ?_ | refine Cut.kept (ixs ix0) ?_ | refine Cut.kept (ixs (ixs ix0)) ?_ | refine Cut.kept (ixs (ixs (ixs ix0))) ?_ | refine Cut.kept (ixs (ixs (ixs (ixs ix0)))) ?_ | refine Cut.kept (ixs (ixs (ixs (ixs (ixs ix0))))) ?_ | refine Cut.kept (ixs (ixs (ixs (ixs (ixs (ixs ix0)))))) ?_ | refine Cut.kept (ixs (ixs (ixs (ixs (ixs (ixs (ixs ix0))))))) ?_ | refine Cut.kept (ixs (ixs (ixs (ixs (ixs (ixs (ixs (ixs ix0)))))))) ?_ | refine Cut.fresh (by (first | lia | omega)) ?_)); done) | exact Chg.drop c fun b hb hn => by simp at hb hn; (first | lia | omega))
  | cons j rest ih =>
    intro k E ds D ex h t₀ ee ed p hd hkj hsz T J hfr hen hdn hit hED hk ok hp up hds X
    obtain ⟨aux, ep, hfr⟩ := hfr
    have hj : js[k]? = some j := by have := congrArg List.head? hd; simpa using this
    have hkl : k < js.length := (List.getElem?_eq_some_iff.mp hj).1
    have hkt : k < tl.length := by have := J.len; (first | lia | omega)
    obtain ⟨tj, htj⟩ : ∃ tj, tl[k]? = some tj := ⟨_, List.getElem?_eq_getElem hkt⟩
    have htj' := J.tup k tj j htj hj
    have htB : tj < B0 := htl tj (List.mem_of_getElem? htj)
    have hjt : jl ≠ tj := lsO_ne_tuO J.list htj'.1
    have hjp : p ≤ j.1.1 := up 0 1 _ _ (by decide) rfl rfl
    have hlE : E.length = D.length := by have := congrArg List.length hED; simpa using this
    have hlD : D.length = k := by rw [← hdn.len]; exact hk
    have rE : Rising E := rising_of (by rw [hED]; exact ok.up)
    have mE : ∀ y ∈ E, y.1 ∈ hrs D := fun y hy => by rw [← hED]; exact List.mem_map.mpr ⟨y, hy, rfl⟩
    have Jl := J.low
    have hd' : js.drop (k + 1) = rest := by rw [← List.drop_drop, hd]; rfl
    let S : RowS := ⟨jl, B0, B0 + 1, B0 + 2, B0 + 3, tj, tl, ej, cN, tc, s, ts, E, ee, rfs ds, ed, k, j⟩
    have pre : Pre top h (S.L1 (S.vs ex) aux ep) := by
      have s2 : Ds (tj :: jl :: [B0, B0 + 1, B0 + 2, B0 + 3]) := (so.cons (Asc.nmem ⟨hjl, Nat.lt_succ_self _, Nat.lt_succ_self _, Nat.lt_succ_self _, trivial⟩) (.inr (.inr J.low))).cons (fun hm => (List.mem_cons.mp hm).elim hjt.symm (Asc.nmem (l := [B0, B0 + 1, B0 + 2, B0 + 3]) ⟨htB, Nat.lt_succ_self _, Nat.lt_succ_self _, Nat.lt_succ_self _, trivial⟩)) (.inr (.inr htj'.2))
      exact s2.pre T ⟨J.list, hfr, hen, hdn.list, hit, htj'.1, trivial⟩ (by repeat' (first | exact ix0 | apply ixs | exact Ixs.nil | apply Ixs.cons)) rfl
    refine code_stop pre sep hP a (by (first | lia | omega)) (ok_for (Z.shape B0 (.ref (B0 + 3)))) (Z.turn1 _ t₀ S ex aux ep) ⟨by simp [S]; (first | lia | omega), by simp [S, htj], trivial⟩ fun h1 B1 A' a' => ?_
    have s1 := B1.chg.size
    have c1 : Chg h h1 [B0, B0 + 3] := Chg.cut B1.chg (by repeat' (first | exact Cut.nil | refine Cut.kept ix0 ?_ | refine Cut.kept (ixs ix0) ?_ | refine Cut.kept (ixs (ixs ix0)) ?_ | refine Cut.kept (ixs (ixs (ixs ix0))) ?_ | refine Cut.kept (ixs (ixs (ixs (ixs ix0)))) ?_ | refine Cut.kept (ixs (ixs (ixs (ixs (ixs ix0))))) ?_ | refine Cut.kept (ixs (ixs (ixs (ixs (ixs (ixs ix0)))))) ?_ | refine Cut.kept (ixs (ixs (ixs (ixs (ixs (ixs (ixs ix0))))))) ?_ | refine Cut.kept (ixs (ixs (ixs (ixs (ixs (ixs (ixs (ixs ix0)))))))) ?_ | refine Cut.same J.list (B1.at 0 rfl) ?_ | refine Cut.same hen (B1.at 1 rfl) ?_ | refine Cut.same hdn.list (B1.at 2 rfl) ?_ | refine Cut.same htj'.1 (B1.at 4 rfl) ?_ | refine Cut.fresh (by (first | lia | omega)) ?_))
    have T1 : TopOk top h1 := T.chg sep c1 (by first | ((apply so.notin <;> repeat' (first | assumption | exact Ixs.nil | apply Ixs.cons | exact rfl)); done) | ((apply so.lows <;> repeat' (first | assumption | exact Ixs.nil | apply Ixs.cons | exact rfl)); done) | (simp; (first | lia | omega)))
    have hen1 : h1.get? (B0 + 1) = some (lsO (ivs E) ee) := B1.at 1 rfl
    refine bisect_spec hP Y sep T1 a' (by (first | lia | omega)) (show 143 ≤ B0 + 1 by (first | lia | omega)) (by (first | lia | omega)) hen1 (by (first | lia | omega)) rE fun h2 t2 pp tp hb c2 => ?_
    have T2 : TopOk top h2 := T1.chg sep c2 (by simp)
    have s2 := c2.size
    obtain ⟨aux2, ep2, hfr2⟩ := B1.dicAt 0 rfl
    have hfr2 := c2.keep _ _ hfr2 (by simp)
    have hen2 := c2.keep _ _ hen1 (by simp)
    have pre2 : Pre top h2 (S.L2 aux2 ep2) := pre_two T2 hfr2 hen2 hB (show 143 ≤ B0 + 1 by (first | lia | omega)) (show B0 ≠ B0 + 1 by (first | lia | omega))
    -- the end that is the same on both roads
    have fin : ∀ (A'' : Around) (a'' : Rm A'' (nr + 5)) (bg : Int) (tb : Nat) (o2 : RO) (h3 : Heap) (t3 : Nat) (te : Nat), max j.1.1 (lastZ cN (hrs D)) = bg →
        (∀ B3 t3 aux3 ep3, toldG P top [] (S.L3 bg tb aux3 ep3) B3 t3 100 (o2.resume (.ok (.ret .none)) (btOf ((S.L3 bg tb aux3 ep3).map (·.2))) q_rt3) [1, 2] [0] (.again (loopC top 116 0 S.fr [] (.ref S.it))) 0 1 1 true [(S.dn, some (lsO (S.ds ++ [.ref B3]) (S.ed + 1))), (B3, some (tuO ((bg + S.s, t3), S.j.2)))] [(S.fr, some (true, S.vs (S.exB bg tb)))] [S.ds.length ≤ 100000]) →
        IsDic h3 B0 "frame" (S.vs (S.exB bg tb)) → h3.get? (B0 + 1) = some (lsO (ivs E) ee) → Chg h2 h3 [B0] →
        codeAny (Md w) A'' (insCall (B0 + 1) (bg + s) te) (Resume o2 w A R) ⟨h3, g, dr, t3, os⟩ := by
      intro A'' a'' bg tb o2 h3 t3 te hbg run3 hfr3 hen3 c3
      have s3 := c3.size
      have T3 : TopOk top h3 := T2.chg sep c3 (by first | ((apply so.notin <;> repeat' (first | assumption | exact Ixs.nil | apply Ixs.cons | exact rfl)); done) | ((apply so.lows <;> repeat' (first | assumption | exact Ixs.nil | apply Ixs.cons | exact rfl)); done) | (simp; (first | lia | omega)))
      refine insort_spec hP Y I sep T3 a'' (by (first | lia | omega)) (show 143 ≤ B0 + 1 by (first | lia | omega)) (by (first | lia | omega)) hen3 (by (first | lia | omega)) rE (fun y hy => ?_) fun h4 t4 hen4 c4 => ?_
      · have := ok.nx j.1.1 hjp y.1 (mE y hy)
        rw [hbg] at this
        exact this
      have s4 := c4.size
      have T4 : TopOk top h4 := T3.chg sep c4 (by first | ((apply so.notin <;> repeat' (first | assumption | exact Ixs.nil | apply Ixs.cons | exact rfl)); done) | ((apply so.lows <;> repeat' (first | assumption | exact Ixs.nil | apply Ixs.cons | exact rfl)); done) | (simp; (first | lia | omega)))
      obtain ⟨aux3, ep3, hfr3⟩ := hfr3
      have hfr4 := c4.keep _ _ hfr3 (by simp)
      have c14 : Chg h h4 [B0, B0 + 1, B0 + 3] := (((c1.trans c2).trans c3).trans c4).drop fun b hb hn => by simp at hb hn; (first | lia | omega)
      have hdn4 : Jobs h4 (B0 + 2) ds D ed := hdn.chg c14 (by simp) fun t ht => by have := hds t ht; simp; (first | lia | omega)
      have pre4 : Pre top h4 (S.L3 bg tb aux3 ep3) := pre_two T4 hfr4 hdn4.list hB (show 143 ≤ B0 + 2 by (first | lia | omega)) (show B0 ≠ B0 + 2 by (first | lia | omega))
      refine res_again pre4 sep hP a (by (first | lia | omega)) (run3 _ t4 aux3 ep3) ⟨by simp [S]; (first | lia | omega), trivial⟩ fun h5 B5 => ?_
      have s5 := B5.size
      have c45 : Chg h4 h5 [B0, B0 + 2] := B5.chg
      have c15 : Chg h h5 [B0, B0 + 1, B0 + 2, B0 + 3] := (by first | exact Chg.cut (c14.trans c45) (by (repeat' (first | exact Cut.nil | refine Cut.kept ix0 ?_ | refine Cut.kept (ixs ix0) ?_ | refine Cut.kept (ixs (ixs ix0)) ?_ | refine Cut.kept (ixs (ixs (ixs ix0))) ?_ | refine Cut.kept (ixs (ixs (ixs (ixs ix0)))) ?_ | refine Cut.kept (ixs (ixs (ixs (ixs (ixs ix0))))) ?_ | refine Cut.kept (ixs (ixs (ixs (ixs (ixs (ixs ix0)))))) ?_ | refine Cut.kept (ixs (ixs (ixs (ixs (ixs (ixs (ixs ix0))))))) ?_ | refine Cut.kept (ixs (ixs (ixs (ixs (ixs (ixs (ixs (ixs ix0)))))))) ?_ | refine Cut.fresh (by (first | lia | omega)) ?_)); done) | exact Chg.drop (c14.trans c45) fun b hb hn => by simp at hb hn; (first | lia | omega))
      have T5 : TopOk top h5 := T4.chg sep c45 (by first | ((apply so.notin <;> repeat' (first | assumption | exact Ixs.nil | apply Ixs.cons | exact rfl)); done) | ((apply so.lows <;> repeat' (first | assumption | exact Ixs.nil | apply Ixs.cons | exact rfl)); done) | (simp; (first | lia | omega)))
      have hbD : hrs D ++ [max j.1.1 (lastZ cN (hrs D)) + s] = hrs (D ++ [((bg + s, t4), j.2)]) := by rw [hbg]; simp
      refine ih (k + 1) (E ++ [(bg + s, te)]) (ds ++ [h4.objs.size]) (D ++ [((bg + s, t4), j.2)]) (S.exB bg tb) h5 _ (ee + 1) (ed + 1) j.1.1 hd' (by (first | lia | omega)) (by (first | lia | omega)) T5 ?_ (B5.dicAt 0 rfl) ?_ ?_ ?_ ?_ (by simp [hk]) ?_ (by (first | lia | omega)) ?_ ?_ ?_
      · exact J.chg c15 (by first | ((apply so.notin <;> repeat' (first | assumption | exact Ixs.nil | apply Ixs.cons | exact rfl)); done) | ((apply so.lows <;> repeat' (first | assumption | exact Ixs.nil | apply Ixs.cons | exact rfl)); done) | (simp; (first | lia | omega))) fun t ht => by have := htl t ht; simp; (first | lia | omega)
      · exact c45.keep _ _ hen4 (by simp)
      · refine hdn4.snoc ?_ ?_ (B5.at 1 rfl) (by (first | lia | omega))
        · have q : h5.get? (B0 + 2) = some (lsO (rfs ds ++ [.ref h4.objs.size]) (ed + 1)) := B5.at 0 rfl
          rw [q]; simp
        · intro t ht o ho
          have := hds t ht
          refine c45.keep t o ho ?_
          have h1 : t ≠ B0 := by (first | lia | omega)
          have h2 : t ≠ B0 + 2 := by (first | lia | omega)
          simp [h1, h2]
      · have c : Chg h1 h5 [B0, B0 + 1, B0 + 2] := (((c2.trans c3).trans c4).trans c45).drop fun b hb hn => by simp at hb hn; (first | lia | omega)
        exact c.keep _ _ (B1.at 3 rfl) (by simp)
      · simp [hED]
      · rw [← hbD]
        exact ok.step hc hs hjp (by (first | lia | omega))
      · intro i i' x y hij hx hy
        exact up (i + 1) (i' + 1) x y (by (first | lia | omega)) (by simpa using hx) (by simpa using hy)
      · intro t ht
        rcases List.mem_append.mp ht with ht | ht
        · exact hds t ht
        · simp at ht; (first | lia | omega)
      · intro h' t' ex' ds' D' ed' g1 g2 g3 g4 g5
        refine X h' t' ex' ds' D' ed' g1 g2 ?_ ?_ ?_
        · rw [g3, ← hbD]; rfl
        · rw [g4]; simp
        · exact (c15.trans g5).drop fun b hb hn => by simp at hb hn; (first | lia | omega)
    by_cases hcond : Int.ofNat E.length - pp ≥ cN
    · have hcond' : (E.length : Int) - pp ≥ cN := hcond
      have hcl : cN ≤ E.length := by (first | lia | omega)
      obtain ⟨y, hy⟩ : ∃ y, E[E.length - cN]? = some y := ⟨_, List.getElem?_eq_getElem (by (first | lia | omega))⟩
      have hgt : j.1.1 < y.1 := hb.2.2 (E.length - cN) y (by (first | lia | omega)) hy
      have hlast : lastZ cN (hrs D) = y.1 := by
        rw [← hED]
        unfold lastZ
        rw [List.length_map, if_pos hcl, List.getElem?_map, hy]
        rfl
      refine res_stop pre2 sep hP a (by (first | lia | omega)) (Z.turn2T _ t₀ S ex aux ep _ t2 aux2 ep2 pp tp y.1 y.2) ⟨⟨.inr ⟨?_, ?_, ?_⟩, ?_, ?_, ?_⟩, ?_, trivial⟩ fun h3 B3 A'' a'' => ?_
      · show -(cN : Int) < 0; (first | lia | omega)
      · show 0 ≤ -(cN : Int) + ((ivs E).length : Nat); simp; (first | lia | omega)
      · show (ivs E)[(-(cN : Int) + ((ivs E).length : Nat)).toNat]? = _
        have : (-(cN : Int) + ((ivs E).length : Nat)).toNat = E.length - cN := by simp; (first | lia | omega)
        rw [this]
        exact ivs_get hy
      · show (-100000 : Int) ≤ -(cN : Int); (first | lia | omega)
      · show -(cN : Int) ≤ 100000; (first | lia | omega)
      · show (ivs E).length ≤ 100000; simp; (first | lia | omega)
      · show Int.ofNat (ivs E).length - pp ≥ cN; simpa using hcond
      have c3 : Chg h2 h3 [B0] := Chg.cut B3.chg (by repeat' (first | exact Cut.nil | refine Cut.kept ix0 ?_ | refine Cut.kept (ixs ix0) ?_ | refine Cut.kept (ixs (ixs ix0)) ?_ | refine Cut.kept (ixs (ixs (ixs ix0))) ?_ | refine Cut.kept (ixs (ixs (ixs (ixs ix0)))) ?_ | refine Cut.kept (ixs (ixs (ixs (ixs (ixs ix0))))) ?_ | refine Cut.kept (ixs (ixs (ixs (ixs (ixs (ixs ix0)))))) ?_ | refine Cut.kept (ixs (ixs (ixs (ixs (ixs (ixs (ixs ix0))))))) ?_ | refine Cut.kept (ixs (ixs (ixs (ixs (ixs (ixs (ixs (ixs ix0)))))))) ?_ | refine Cut.same hen2 (B3.at 0 rfl) ?_ | refine Cut.fresh (by (first | lia | omega)) ?_))
      refine fin A'' a'' y.1 y.2 _ h3 _ _ (by rw [hlast]; (first | lia | omega)) (fun B3 t3 aux3 ep3 => Z.turn3T _ t₀ S ex aux ep _ t2 aux2 ep2 pp tp y.1 y.2 B3 t3 aux3 ep3) (B3.dicAt 0 rfl) (B3.at 0 rfl) c3
    · have hcond' : ¬ (E.length : Int) - pp ≥ cN := hcond
      have hmax : max j.1.1 (lastZ cN (hrs D)) = j.1.1 := by
        have : lastZ cN (hrs D) ≤ j.1.1 := by
          rw [← hED]
          unfold lastZ
          rw [List.length_map]
          split
          · rename_i hcl
            rw [List.getElem?_map, List.getElem?_eq_getElem (by (first | lia | omega))]
            exact hb.2.1 (E.length - cN) _ (by have := hb.1; (first | lia | omega)) (List.getElem?_eq_getElem (by (first | lia | omega)))
          · (first | lia | omega)
        (first | lia | omega)
      refine res_stop pre2 sep hP a (by (first | lia | omega)) (Z.turn2F _ t₀ S ex aux ep _ t2 aux2 ep2 pp tp) ⟨?_, trivial⟩ fun h3 B3 A'' a'' => ?_
      · show ¬ (Int.ofNat (ivs E).length - pp ≥ cN); simpa using hcond
      have c3 : Chg h2 h3 [B0] := Chg.cut B3.chg (by repeat' (first | exact Cut.nil | refine Cut.kept ix0 ?_ | refine Cut.kept (ixs ix0) ?_ | refine Cut.kept (ixs (ixs ix0)) ?_ | refine Cut.kept (ixs (ixs (ixs ix0))) ?_ | refine Cut.kept (ixs (ixs (ixs (ixs ix0)))) ?_ | refine Cut.kept (ixs (ixs (ixs (ixs (ixs ix0))))) ?_ | refine Cut.kept (ixs (ixs (ixs (ixs (ixs (ixs ix0)))))) ?_ | refine Cut.kept (ixs (ixs (ixs (ixs (ixs (ixs (ixs ix0))))))) ?_ | refine Cut.kept (ixs (ixs (ixs (ixs (ixs (ixs (ixs (ixs ix0)))))))) ?_ | refine Cut.same hen2 (B3.at 0 rfl) ?_ | refine Cut.fresh (by (first | lia | omega)) ?_))
      exact fin A'' a'' j.1.1 j.1.2 _ h3 _ _ hmax (fun B3 t3 aux3 ep3 => Z.turn3F _ t₀ S ex aux ep _ t2 aux2 ep2 pp tp B3 t3 aux3 ep3) (B3.dicAt 0 rfl) (B3.at 0 rfl) c3
/-- what a desk gives -/
noncomputable def DeskPost (h : Heap) (js : List Job) (cN : Nat) (s : Int) (ls : List Nat) (R : Result → Shared → Prop) (g : Array GenState) (dr : Drawn) (os : OsState) : Prop := ∀ h' t' dn ds' D' ed', Jobs h' dn ds' D' ed' → hrs D' = deskGo cN s [] (hrs js) → nms D' = nms js → Chg h h' ls → h.objs.size ≤ dn → R (.ok (.ret (.ref dn))) ⟨h', g, dr, t', os⟩
theorem row_spec (hP : P = w.params) (Y : BiRuns P top) (I : InRuns P top) (Z : RoRuns P top) (En : EnRuns P top) (sep : TopSep top) {h : Heap} {t₀ : Nat} (T : TopOk top h) {nr : Nat} (a : Rm A nr) (ha : nr ≤ 360) {jl ej tc ts cN : Nat} {s : Int} {tl : List Nat} {js : List Job} (hc : 1 ≤ cN) (hc' : cN ≤ 100000) (hs : 0 ≤ s) (h4 : 4 ≤ js.length) (h7 : js.length ≤ 7) (hB : 143 ≤ h.objs.size) (J : Jobs h jl tl js ej) (up : Up (0 :: hrs js))
    (X : DeskPost h js cN s [] R g dr os) : codeAny (Md w) A (rowCall jl cN tc s ts) R ⟨h, g, dr, t₀, os⟩ := by
  have hjl : jl < h.objs.size := Heap.lt_size J.list
  refine code_stop (pre_one T J.list J.low) sep hP a (by (first | lia | omega)) rfl (Z.entry _ t₀ jl tl ej cN tc s ts) trivial fun h1 B1 A' a' => ?_
  have s1 := B1.size
  have c1 : Chg h h1 [] := B1.chg.drop fun b hb hn => by
    simp at hb; subst hb
    exact same_of J.list (B1.at 0 rfl)
  have T1 : TopOk top h1 := T.chg sep c1 (by simp)
  have J1 : Jobs h1 jl tl js ej := J.chg c1 (by simp) (by simp)
  refine row_loop hP Y I Z En sep a' (by (first | lia | omega)) hc hc' hs h4 h7 hB hjl J.lt js 0 [] [] [] none h1 _ 0 0 0 rfl (by (first | lia | omega)) (by (first | lia | omega)) T1 J1 (B1.dicAt 0 rfl) (B1.at 1 rfl) ⟨B1.at 2 rfl, by (first | lia | omega), rfl, fun k t j h1 => by simp at h1⟩ (B1.at 3 rfl) rfl rfl (.nil _ _ _) (by (first | lia | omega)) up (by simp) fun h2 t2 ex ds D ed hfr hdn hD hN c2 => ?_
  have c12 : Chg h h2 [] := (c1.trans c2).none fun b hb => by simp at hb; (first | lia | omega)
  have T2 : TopOk top h2 := T.chg sep c12 (by simp)
  obtain ⟨aux, ep, hfr⟩ := hfr
  refine res_fin (pre_one T2 hfr hB) sep hP a (by (first | lia | omega)) (Z.back _ t₀ jl tl ej cN tc s ts _ t2 _ _ ex aux ep) trivial fun h3 B3 => ?_
  have c23 : Chg h2 h3 [h.objs.size] := B3.chg
  have c13 : Chg h h3 [] := (c12.trans c23).none fun b hb => by simp at hb; (first | lia | omega)
  exact X h3 _ _ ds D ed (hdn.chg c23 (by simp) fun t ht => by simpa using hdn.ne_dic hfr t ht) hD (by simpa using hN) c13 (by (first | lia | omega))
end
end
end Mine

end
section
open PySem PySem.W PySem.W.X PyProof.Rows
set_option maxRecDepth 100000
set_option Elab.async false
set_option maxHeartbeats 2000000
set_option genInjectivity false
set_option genSizeOfSpec false
namespace Mine
noncomputable section
noncomputable def q_he0 : Nat := 462913957932296357157753638816847672963055796918523800817282960125866409984
noncomputable def q_heR : Nat := 1
noncomputable def q_ht1T : Nat := 580883775742208179314103781516551392864099325326460144235661025379737054028417505796774421873228193830842688988157496833824506757715464092941329801251579987530423542031972423546632766389820114294105503301522788956237739788592192236959322127176589887545169722870623456127775618105861
noncomputable def q_ht1F : Nat := 34623371108901988227015959114822828344351013024238356604317228494609504239904321975158329261080181682358417986097632251504581166322642214730143813206930315872318030273526323108505472439896074179854061965436629939281383215814103376613436887398501444003611759298991579310850565
noncomputable def q_ht2 : Nat := 4740957624714542580225
/-! the desk that keeps a heap -/
noncomputable def heapCall (jl : Nat) (c : Int) (tc : Nat) (s : Int) (ts : Nat) : Code := .call (.ref 109) ⟨[.ref jl, .int c tc, .int s ts], []⟩
noncomputable def exH (o : Option (Value × Value × Value)) : Vs := match o with
  | none => []
  | some (a, b, c) => [([104, 111, 117, 114], a), ([110, 97, 109, 101], b), ([101, 110, 100], c)]
noncomputable def vsH (jl : Nat) (c : Int) (tc : Nat) (s : Int) (ts : Nat) (fe dn : Nat) (ex : Vs) : Vs := [([106, 111, 98, 115], .ref jl), ([99, 108, 101, 114, 107, 115], .int c tc), ([115, 116, 97, 121], .int s ts), ([102, 114, 101, 101], .ref fe), ([100, 111, 110, 101], .ref dn)] ++ ex
noncomputable def RowS.vsH (S : RowS) (ex : Option (Value × Value × Value)) : Vs := Mine.vsH S.jl S.c S.tc S.s S.ts S.en S.dn (exH ex)
noncomputable def heapO (P : Params) (top : Nat → Option Obj) (B t₀ jl : Nat) (tl : List Nat) (ej : Nat) (c : Int) (tc : Nat) (s : Int) (ts : Nat) : RO :=
  runQ (vOf P top [] [(jl, lsO (rfs tl) ej)] B t₀) 100 (startC (heapCall jl c tc s ts) (btOf ([(jl, lsO (rfs tl) ej)].map (·.2))) q_he0)
noncomputable def RowS.H1 (P : Params) (top : Nat → Option Obj) (B t₀ : Nat) (S : RowS) (gv : List Value) (q : Nat) (vs : Vs) (aux : Nat → Int × Nat) (ep : Nat) : RO :=
  runQ (vOf P top gv (S.L1 vs aux ep) B t₀) 250 (startC (loopC top 109 0 S.fr [] (.ref S.it)) (btOf ((S.L1 vs aux ep).map (·.2))) q)
noncomputable def RowS.LH (S : RowS) (bg : Int) (tb : Nat) (aux : Nat → Int × Nat) (ep : Nat) : Led := [(S.fr, dicF "frame" (S.vsH (S.exB bg tb)) aux ep), (S.dn, lsO S.ds S.ed)]
@[reducible] noncomputable def heEntry_p (P : Params) (top : Nat → Option Obj) (c : Nat) := fun B t₀ jl tl ej tc s ts => (toldLp P top [] [(jl, lsO (rfs tl) ej)] B t₀ 100 (heapCall jl (.ofNat c) tc s ts) q_he0 [0, 3, 4, 5] [1]
    (.call (loopC top 109 0 B [] (.ref (B + 4)))) 0 5 6 true [(jl, some (lsO (rfs tl) ej)), (B + 2, some (lsO (ivs (List.replicate c (0, t₀ + 3))) 0)), (B + 3, some (lsO (rfs []) 0)), (B + 4, some (itO jl (.ofNat 0) 0))] [(B, some (true, vsH jl (.ofNat c) tc s ts (B + 2) (B + 3) (exH none)))] [] : Tale × Tale)
@[reducible] noncomputable def heEntry (P : Params) (top : Nat → Option Obj) (c : Nat) : Prop := ∀ B t₀ jl tl ej tc s ts, IsT (heEntry_p P top c B t₀ jl tl ej tc s ts)
@[reducible] noncomputable def heTurn_p (P : Params) (top : Nat → Option Obj) (S : RowS) (f0 : Int) (tf : Nat) (q : Nat) (bg : Int) (cs : List Prop) := fun B t₀ ex aux ep => (toldLp P top [.ref S.tj, .int f0 tf] (S.L1 (S.vsH ex) aux ep) B t₀ 250 (loopC top 109 0 S.fr [] (.ref S.it)) q [0, 2, 3, 4, 5] [1]
    (.call (hrCall S.en (bg + S.s) (t₀ + 3))) 0 8 5 true [(S.jl, some (lsO (rfs S.tl) S.ej)), (S.en, some (lsO (ivs S.E) S.ee)), (S.dn, some (lsO S.ds S.ed)), (S.it, some (itO S.jl (.ofNat (S.k + 1)) 0)), (S.tj, some (tuO S.j))] [(S.fr, some (true, S.vsH (S.exB (bg + S.s) (t₀ + 3))))]
    (cs ++ [ItemAt (ivs S.E) 0 (.int f0 tf) ∧ -100000 ≤ (0 : Int) ∧ (0 : Int) ≤ 100000 ∧ (ivs S.E).length ≤ 100000, (rfs S.tl)[(Int.ofNat S.k).toNat]? = some (.ref S.tj)]) : Tale × Tale)
@[reducible] noncomputable def heTurn (P : Params) (top : Nat → Option Obj) (S : RowS) (f0 : Int) (tf : Nat) (q : Nat) (bg : Int) (cs : List Prop) : Prop := ∀ B t₀ ex aux ep, IsT (heTurn_p P top S f0 tf q bg cs B t₀ ex aux ep)
@[reducible] noncomputable def heBack_p (P : Params) (top : Nat → Option Obj) (S : RowS) (f0 : Int) (tf : Nat) (q : Nat) (bg : Int) := fun B t₀ ex aux ep B2 t2 aux2 ep2 (r : Int × Nat) => (toldGp P top [] (S.LH (bg + S.s) (t₀ + 3) aux2 ep2) B2 t2 100 ((RowS.H1 P top B t₀ S [.ref S.tj, .int f0 tf] q (S.vsH ex) aux ep).resume (.ok (.ret (.int r.1 r.2))) (btOf ((S.LH (bg + S.s) (t₀ + 3) aux2 ep2).map (·.2))) q_ht2) [1, 2] [0]
    (.again (loopC top 109 0 S.fr [] (.ref S.it))) 0 1 0 true [(S.dn, some (lsO (S.ds ++ [.ref B2]) (S.ed + 1))), (B2, some (tuO ((bg + S.s, t₀ + 3), S.j.2)))] [(S.fr, some (true, S.vsH (S.exB (bg + S.s) (t₀ + 3))))] [S.ds.length ≤ 100000] : Tale × Tale)
@[reducible] noncomputable def heBack (P : Params) (top : Nat → Option Obj) (S : RowS) (f0 : Int) (tf : Nat) (q : Nat) (bg : Int) : Prop := ∀ B t₀ ex aux ep B2 t2 aux2 ep2 (r : Int × Nat), IsT (heBack_p P top S f0 tf q bg B t₀ ex aux ep B2 t2 aux2 ep2 r)
@[reducible] noncomputable def HeRuns_shape (P : Params) (top : Nat → Option Obj) : Prop := ∀ fr it, isFor (loopC top 109 0 fr [] it) = true
@[reducible] noncomputable def HeRuns_turnT (P : Params) (top : Nat → Option Obj) : Prop := ∀ S f0 tf, heTurn P top S f0 tf q_ht1T f0 [f0 > S.j.1.1]
@[reducible] noncomputable def HeRuns_turnF (P : Params) (top : Nat → Option Obj) : Prop := ∀ S f0 tf, heTurn P top S f0 tf q_ht1F S.j.1.1 [¬ f0 > S.j.1.1]
@[reducible] noncomputable def HeRuns_backT (P : Params) (top : Nat → Option Obj) : Prop := ∀ S f0 tf, heBack P top S f0 tf q_ht1T f0
@[reducible] noncomputable def HeRuns_backF (P : Params) (top : Nat → Option Obj) : Prop := ∀ S f0 tf, heBack P top S f0 tf q_ht1F S.j.1.1
@[reducible] noncomputable def HeRuns_back_p (P : Params) (top : Nat → Option Obj) := fun B t₀ jl tl ej (c : Nat) tc s ts B2 t2 en dn ex aux ep => (toldGp P top [] [(B, dicF "frame" (vsH jl (.ofNat c) tc s ts en dn (exH ex)) aux ep)] B2 t2 100 ((heapO P top B t₀ jl tl ej (.ofNat c) tc s ts).resume (.ok .next) (btOf ([(B, dicF "frame" (vsH jl (.ofNat c) tc s ts en dn (exH ex)) aux ep)].map (·.2))) q_heR) [] []
    (.fin (.ok (.ret (.ref dn)))) 0 0 0 true [] [] [] : Tale × Tale)
@[reducible] noncomputable def HeRuns_back (P : Params) (top : Nat → Option Obj) : Prop := ∀ B t₀ jl tl ej (c : Nat) tc s ts B2 t2 en dn ex aux ep, 1 ≤ c → c ≤ 4 → IsT (HeRuns_back_p P top B t₀ jl tl ej c tc s ts B2 t2 en dn ex aux ep)
structure HeRuns (P : Params) (top : Nat → Option Obj) : Prop where
  shape : HeRuns_shape P top
  e1 : heEntry P top 1
  e2 : heEntry P top 2
  e3 : heEntry P top 3
  e4 : heEntry P top 4
  turnT : HeRuns_turnT P top
  turnF : HeRuns_turnF P top
  backT : HeRuns_backT P top
  backF : HeRuns_backF P top
  back : HeRuns_back P top
section
variable {P : Params} {top : Nat → Option Obj} {w : World} {A : Around} {R : Result → Shared → Prop} {g : Array GenState} {dr : Drawn} {os : OsState}
theorem heap_loop (hP : P = w.params) (Y : HrRuns P top) (Z : HeRuns P top) (En : EnRuns P top) (sep : TopSep top) {nr : Nat} (a : Rm A nr) (ha : nr ≤ 370) {jl B0 ej tc ts cN : Nat} {s : Int} {tl : List Nat} {js : List Job} (hc : 1 ≤ cN) (hs : 0 ≤ s) (h4 : 4 ≤ js.length) (h7 : js.length ≤ 7) (hB : 143 ≤ B0) (hjl : jl < B0) (htl : ∀ t ∈ tl, t < B0) :
    ∀ (rest : List Job) (k : Nat) (E : List (Int × Nat)) (ds : List Nat) (D : List Job) (ex : Option (Value × Value × Value)) (h : Heap) (t₀ ee ed : Nat) (p : Int), js.drop k = rest → k ≤ js.length → B0 + 5 ≤ h.objs.size → TopOk top h → Jobs h jl tl js ej → IsDic h B0 "frame" (vsH jl cN tc s ts (B0 + 2) (B0 + 3) (exH ex)) → h.get? (B0 + 2) = some (lsO (ivs E) ee) → Jobs h (B0 + 3) ds D ed → h.get? (B0 + 4) = some (itO jl (.ofNat k) 0) →
      HpOk (win cN (hrs D)) (E.map (·.1)) → ds.length = k → DeskOk cN s (hrs D) p → 0 ≤ p → Up (p :: hrs rest) → (∀ t ∈ ds, B0 + 5 ≤ t) →
      (∀ h' t' ex' ds' D' ed', IsDic h' B0 "frame" (vsH jl cN tc s ts (B0 + 2) (B0 + 3) (exH ex')) → Jobs h' (B0 + 3) ds' D' ed' → hrs D' = deskGo cN s (hrs D) (hrs rest) → nms D' = nms D ++ nms rest → Chg h h' [B0, B0 + 2, B0 + 3, B0 + 4] → R (.ok .next) ⟨h', g, dr, t', os⟩) →
      codeAny (Md w) A (loopC top 109 0 B0 [] (.ref (B0 + 4))) R ⟨h, g, dr, t₀, os⟩ := by
  have so : Ds [B0, B0 + 1, B0 + 2, B0 + 3, B0 + 4] := Asc.ds (f := 142) ⟨hB, Nat.lt_succ_self _, Nat.lt_succ_self _, Nat.lt_succ_self _, Nat.lt_succ_self _, trivial⟩ (by decide)
  have x0 : Ix [B0, B0 + 1, B0 + 2, B0 + 3, B0 + 4] (B0) 0 := ix0
  have x1 : Ix [B0, B0 + 1, B0 + 2, B0 + 3, B0 + 4] (B0 + 1) 1 := ixs ix0
  have x2 : Ix [B0, B0 + 1, B0 + 2, B0 + 3, B0 + 4] (B0 + 2) 2 := ixs (ixs ix0)
  have x3 : Ix [B0, B0 + 1, B0 + 2, B0 + 3, B0 + 4] (B0 + 3) 3 := ixs (ixs (ixs ix0))
  have x4 : Ix [B0, B0 + 1, B0 + 2, B0 + 3, B0 + 4] (B0 + 4) 4 := ixs (ixs (ixs (ixs ix0)))
  intro rest
  induction rest with
  | nil =>
    intro k E ds D ex h t₀ ee ed p hd hkj hsz T J hfr hen hdn hit hED hk ok hp up hds X
    obtain ⟨tg, b, env, e⟩ := is_for (Z.shape B0 (.ref (B0 + 4)))
    rw [e]
    have hkl : k = js.length := by
      have h1 : js.length ≤ k := by simpa using hd
      (first | lia | omega)
    have hlen : (rfs tl).length = k := by simp [J.len, hkl]
    refine for_end hP En sep T a (by (first | lia | omega)) J.list (by rw [hlen]; exact hit) J.low (by (first | lia | omega)) (by (first | lia | omega)) (by (first | lia | omega)) fun h' t' c => ?_
    obtain ⟨aux, ep, hfr⟩ := hfr
    refine X h' t' ex ds D ed ⟨aux, ep, c.keep _ _ hfr (by simp)⟩ (hdn.chg c (by simp) (fun t ht => by have := hds t ht; simp; (first | lia | omega))) rfl (by simp) (by first | exact Chg.cut c (by (repeat' (first | exact Cut.nil | refine Cut.kept ix0 ?_ | refine Cut.kept (ixs ix0) ?_ | refine Cut.kept (ixs (ixs ix0)) ?_ | refine Cut.kept (ixs (ixs (ixs ix0))) ?_ | refine Cut.kept (ixs (ixs (ixs (ixs ix0)))) ?_ | refine Cut.kept (ixs (ixs (ixs (ixs (ixs ix0))))) ?_ | refine Cut.kept (ixs (ixs (ixs (ixs (ixs (ixs ix0)))))) ?_ | refine Cut.kept (ixs (ixs (ixs (ixs (ixs (ixs (ixs ix0))))))) ?_ | refine Cut.kept (ixs (ixs (ixs (ixs (ixs (ixs (ixs (ixs ix0)))))))) ?_ | refine Cut.fresh (by (first | lia | omega)) ?_)); done) | exact Chg.drop c fun b hb hn => by simp at hb hn; (first | lia | omega))
  | cons j rest ih =>
    intro k E ds D ex h t₀ ee ed p hd hkj hsz T J hfr hen hdn hit hED hk ok hp up hds X
    obtain ⟨aux, ep, hfr⟩ := hfr
    have hj : js[k]? = some j := by have := congrArg List.head? hd; simpa using this
    have hkl : k < js.length := (List.getElem?_eq_some_iff.mp hj).1
    have hkt : k < tl.length := by have := J.len; (first | lia | omega)
    obtain ⟨tj, htj⟩ : ∃ tj, tl[k]? = some tj := ⟨_, List.getElem?_eq_getElem hkt⟩
    have htj' := J.tup k tj j htj hj
    have htB : tj < B0 := htl tj (List.mem_of_getElem? htj)
    have hjt : jl ≠ tj := lsO_ne_tuO J.list htj'.1
    have hjp : p ≤ j.1.1 := up 0 1 _ _ (by decide) rfl rfl
    have hlD : D.length = k := by rw [← hdn.len]; exact hk
    have Jl := J.low
    have hd' : js.drop (k + 1) = rest := by rw [← List.drop_drop, hd]; rfl
    have hf := hED.facts
    have hEl : E.length ≤ 4 := by have h1 := hf.2.2.1; have h2 := hf.2.2.2.2; simp at h1; (first | lia | omega)
    have hE0 : E ≠ [] := by intro q; subst q; have h1 := hf.2.2.1; have h2 := hf.2.2.2.1; simp at h1; (first | lia | omega)
    obtain ⟨f0, Er, hEe⟩ : ∃ f0 Er, E = f0 :: Er := by cases E with | nil => exact absurd rfl hE0 | cons x r => exact ⟨x, r, rfl⟩
    have hf0 : f0.1 = lastZ cN (hrs D) := by
      have h1 := hf.1
      rw [win_head hc, hEe] at h1
      simpa using h1
    have hge : ∀ (bg : Int), max j.1.1 (lastZ cN (hrs D)) = bg → ∀ y ∈ win cN (hrs D), y ≤ bg + s := fun bg hbg y hy => by
      rcases win_mem y hy with rfl | hy
      · (first | lia | omega)
      · have := ok.nx j.1.1 hjp y hy
        rw [hbg] at this
        exact this
    let S : RowS := ⟨jl, B0, B0 + 2, B0 + 3, B0 + 4, tj, tl, ej, cN, tc, s, ts, E, ee, rfs ds, ed, k, j⟩
    have pre : Pre top h (S.L1 (S.vsH ex) aux ep) := by
      have s2 : Ds (tj :: jl :: [B0, B0 + 1, B0 + 2, B0 + 3, B0 + 4]) := (so.cons (Asc.nmem ⟨hjl, Nat.lt_succ_self _, Nat.lt_succ_self _, Nat.lt_succ_self _, Nat.lt_succ_self _, trivial⟩) (.inr (.inr J.low))).cons (fun hm => (List.mem_cons.mp hm).elim hjt.symm (Asc.nmem (l := [B0, B0 + 1, B0 + 2, B0 + 3, B0 + 4]) ⟨htB, Nat.lt_succ_self _, Nat.lt_succ_self _, Nat.lt_succ_self _, Nat.lt_succ_self _, trivial⟩)) (.inr (.inr htj'.2))
      exact s2.pre T ⟨J.list, hfr, hen, hdn.list, hit, htj'.1, trivial⟩ (by repeat' (first | exact ix0 | apply ixs | exact Ixs.nil | apply Ixs.cons)) rfl
    have key : ∀ (q : Nat) (bg : Int) (cs : List Prop), heTurn P top S f0.1 f0.2 q bg cs → heBack P top S f0.1 f0.2 q bg → AllC (cs ++ [ItemAt (ivs S.E) 0 (.int f0.1 f0.2) ∧ -100000 ≤ (0 : Int) ∧ (0 : Int) ≤ 100000 ∧ (ivs S.E).length ≤ 100000, (rfs S.tl)[(Int.ofNat S.k).toNat]? = some (.ref S.tj)]) → max j.1.1 (lastZ cN (hrs D)) = bg →
        codeAny (Md w) A (loopC top 109 0 B0 [] (.ref (B0 + 4))) R ⟨h, g, dr, t₀, os⟩ := by
      intro q bg cs run1 run2 hcs hbg
      refine code_stop pre sep hP a (by (first | lia | omega)) (ok_for (Z.shape B0 (.ref (B0 + 4)))) (run1 _ t₀ ex aux ep) hcs fun h1 B1 A' a' => ?_
      have s1 := B1.chg.size
      have c1 : Chg h h1 [B0, B0 + 4] := Chg.cut B1.chg (by repeat' (first | exact Cut.nil | refine Cut.kept ix0 ?_ | refine Cut.kept (ixs ix0) ?_ | refine Cut.kept (ixs (ixs ix0)) ?_ | refine Cut.kept (ixs (ixs (ixs ix0))) ?_ | refine Cut.kept (ixs (ixs (ixs (ixs ix0)))) ?_ | refine Cut.kept (ixs (ixs (ixs (ixs (ixs ix0))))) ?_ | refine Cut.kept (ixs (ixs (ixs (ixs (ixs (ixs ix0)))))) ?_ | refine Cut.kept (ixs (ixs (ixs (ixs (ixs (ixs (ixs ix0))))))) ?_ | refine Cut.kept (ixs (ixs (ixs (ixs (ixs (ixs (ixs (ixs ix0)))))))) ?_ | refine Cut.same J.list (B1.at 0 rfl) ?_ | refine Cut.same hen (B1.at 1 rfl) ?_ | refine Cut.same hdn.list (B1.at 2 rfl) ?_ | refine Cut.same htj'.1 (B1.at 4 rfl) ?_ | refine Cut.fresh (by (first | lia | omega)) ?_))
      have T1 : TopOk top h1 := T.chg sep c1 (by first | ((apply so.notin <;> repeat' (first | assumption | exact Ixs.nil | apply Ixs.cons | exact rfl)); done) | ((apply so.lows <;> repeat' (first | assumption | exact Ixs.nil | apply Ixs.cons | exact rfl)); done) | (simp; (first | lia | omega)))
      have hen1 : h1.get? (B0 + 2) = some (lsO (ivs E) ee) := B1.at 1 rfl
      refine heapreplace_spec hP Y sep T1 a' (by (first | lia | omega)) (show 143 ≤ B0 + 2 by (first | lia | omega)) hen1 (fun y hy => hge bg hbg y.1 (hf.2.1 y.1 (List.mem_map.mpr ⟨y, hy, rfl⟩))) hE0 hEl fun h2 t2 r hen2 c2 => ?_
      have c2 : Chg h1 h2 [B0 + 2] := c2
      have s2 := c2.size
      have T2 : TopOk top h2 := T1.chg sep c2 (by first | ((apply so.notin <;> repeat' (first | assumption | exact Ixs.nil | apply Ixs.cons | exact rfl)); done) | ((apply so.lows <;> repeat' (first | assumption | exact Ixs.nil | apply Ixs.cons | exact rfl)); done) | (simp; (first | lia | omega)))
      obtain ⟨aux2, ep2, hfr2⟩ := B1.dicAt 0 rfl
      have hfr2 := c2.keep B0 _ hfr2 (by simp)
      have c12 : Chg h h2 [B0, B0 + 2, B0 + 4] := (by first | exact Chg.cut (c1.trans c2) (by (repeat' (first | exact Cut.nil | refine Cut.kept ix0 ?_ | refine Cut.kept (ixs ix0) ?_ | refine Cut.kept (ixs (ixs ix0)) ?_ | refine Cut.kept (ixs (ixs (ixs ix0))) ?_ | refine Cut.kept (ixs (ixs (ixs (ixs ix0)))) ?_ | refine Cut.kept (ixs (ixs (ixs (ixs (ixs ix0))))) ?_ | refine Cut.kept (ixs (ixs (ixs (ixs (ixs (ixs ix0)))))) ?_ | refine Cut.kept (ixs (ixs (ixs (ixs (ixs (ixs (ixs ix0))))))) ?_ | refine Cut.kept (ixs (ixs (ixs (ixs (ixs (ixs (ixs (ixs ix0)))))))) ?_ | refine Cut.fresh (by (first | lia | omega)) ?_)); done) | exact Chg.drop (c1.trans c2) fun b hb hn => by simp at hb hn; (first | lia | omega))
      have hdn2 : Jobs h2 (B0 + 3) ds D ed := hdn.chg c12 (by simp) fun t ht => by have := hds t ht; simp; (first | lia | omega)
      have pre2 : Pre top h2 (S.LH (bg + S.s) (t₀ + 3) aux2 ep2) := pre_two T2 hfr2 hdn2.list hB (show 143 ≤ B0 + 3 by (first | lia | omega)) (show B0 ≠ B0 + 3 by (first | lia | omega))
      refine res_again pre2 sep hP a (by (first | lia | omega)) (run2 _ t₀ ex aux ep _ t2 aux2 ep2 r) ⟨by simp [S]; (first | lia | omega), trivial⟩ fun h5 B5 => ?_
      have s5 := B5.size
      have c45 : Chg h2 h5 [B0, B0 + 3] := B5.chg
      have c15 : Chg h h5 [B0, B0 + 2, B0 + 3, B0 + 4] := (by first | exact Chg.cut (c12.trans c45) (by (repeat' (first | exact Cut.nil | refine Cut.kept ix0 ?_ | refine Cut.kept (ixs ix0) ?_ | refine Cut.kept (ixs (ixs ix0)) ?_ | refine Cut.kept (ixs (ixs (ixs ix0))) ?_ | refine Cut.kept (ixs (ixs (ixs (ixs ix0)))) ?_ | refine Cut.kept (ixs (ixs (ixs (ixs (ixs ix0))))) ?_ | refine Cut.kept (ixs (ixs (ixs (ixs (ixs (ixs ix0)))))) ?_ | refine Cut.kept (ixs (ixs (ixs (ixs (ixs (ixs (ixs ix0))))))) ?_ | refine Cut.kept (ixs (ixs (ixs (ixs (ixs (ixs (ixs (ixs ix0)))))))) ?_ | refine Cut.fresh (by (first | lia | omega)) ?_)); done) | exact Chg.drop (c12.trans c45) fun b hb hn => by simp at hb hn; (first | lia | omega))
      have T5 : TopOk top h5 := T2.chg sep c45 (by first | ((apply so.notin <;> repeat' (first | assumption | exact Ixs.nil | apply Ixs.cons | exact rfl)); done) | ((apply so.lows <;> repeat' (first | assumption | exact Ixs.nil | apply Ixs.cons | exact rfl)); done) | (simp; (first | lia | omega)))
      have hbD : hrs D ++ [max j.1.1 (lastZ cN (hrs D)) + s] = hrs (D ++ [((bg + s, t₀ + 3), j.2)]) := by rw [hbg]; simp
      refine ih (k + 1) (hrF E (bg + s, t₀ + 3)) (ds ++ [h2.objs.size]) (D ++ [((bg + s, t₀ + 3), j.2)]) (S.exB (bg + S.s) (t₀ + 3)) h5 _ ee (ed + 1) j.1.1 hd' (by (first | lia | omega)) (by (first | lia | omega)) T5 ?_ (B5.dicAt 0 rfl) ?_ ?_ ?_ ?_ (by simp [hk]) ?_ (by (first | lia | omega)) ?_ ?_ ?_
      · exact J.chg c15 (by first | ((apply so.notin <;> repeat' (first | assumption | exact Ixs.nil | apply Ixs.cons | exact rfl)); done) | ((apply so.lows <;> repeat' (first | assumption | exact Ixs.nil | apply Ixs.cons | exact rfl)); done) | (simp; (first | lia | omega))) fun t ht => by have := htl t ht; simp; (first | lia | omega)
      · exact c45.keep _ _ hen2 (by simp)
      · refine hdn2.snoc ?_ ?_ (B5.at 1 rfl) (by (first | lia | omega))
        · have q : h5.get? (B0 + 3) = some (lsO (rfs ds ++ [.ref h2.objs.size]) (ed + 1)) := B5.at 0 rfl
          rw [q]; simp
        · intro t ht o ho
          have := hds t ht
          refine c45.keep t o ho ?_
          have h1 : t ≠ B0 := by (first | lia | omega)
          have h2 : t ≠ B0 + 3 := by (first | lia | omega)
          simp [h1, h2]
      · have c : Chg h1 h5 [B0, B0 + 2, B0 + 3] := (by first | exact Chg.cut (c2.trans c45) (by (repeat' (first | exact Cut.nil | refine Cut.kept ix0 ?_ | refine Cut.kept (ixs ix0) ?_ | refine Cut.kept (ixs (ixs ix0)) ?_ | refine Cut.kept (ixs (ixs (ixs ix0))) ?_ | refine Cut.kept (ixs (ixs (ixs (ixs ix0)))) ?_ | refine Cut.kept (ixs (ixs (ixs (ixs (ixs ix0))))) ?_ | refine Cut.kept (ixs (ixs (ixs (ixs (ixs (ixs ix0)))))) ?_ | refine Cut.kept (ixs (ixs (ixs (ixs (ixs (ixs (ixs ix0))))))) ?_ | refine Cut.kept (ixs (ixs (ixs (ixs (ixs (ixs (ixs (ixs ix0)))))))) ?_ | refine Cut.fresh (by (first | lia | omega)) ?_)); done) | exact Chg.drop (c2.trans c45) fun b hb hn => by simp at hb hn; (first | lia | omega))
        exact c.keep _ _ (B1.at 3 rfl) (by simp)
      · rw [← hbD, hbg, win_snoc]
        exact hED.step (hge bg hbg)
      · rw [← hbD]
        exact ok.step hc hs hjp (by (first | lia | omega))
      · intro i i' x y hij hx hy
        exact up (i + 1) (i' + 1) x y (by (first | lia | omega)) (by simpa using hx) (by simpa using hy)
      · intro t ht
        rcases List.mem_append.mp ht with ht | ht
        · exact hds t ht
        · simp at ht; (first | lia | omega)
      · intro h' t' ex' ds' D' ed' g1 g2 g3 g4 g5
        refine X h' t' ex' ds' D' ed' g1 g2 ?_ ?_ ?_
        · rw [g3, ← hbD]; rfl
        · rw [g4]; simp
        · exact (c15.trans g5).drop fun b hb hn => by simp at hb hn; (first | lia | omega)
    have hitem : ItemAt (ivs S.E) 0 (.int f0.1 f0.2) ∧ -100000 ≤ (0 : Int) ∧ (0 : Int) ≤ 100000 ∧ (ivs S.E).length ≤ 100000 := by
      refine ⟨.inl ⟨by decide, ?_⟩, by decide, by decide, ?_⟩
      · show (ivs E)[0]? = _
        rw [hEe]; rfl
      · show (ivs E).length ≤ _
        simp; (first | lia | omega)
    have hnth : (rfs S.tl)[(Int.ofNat S.k).toNat]? = some (.ref S.tj) := by simp [S, htj]
    by_cases hcond : f0.1 > j.1.1
    · exact key _ _ _ (Z.turnT S f0.1 f0.2) (Z.backT S f0.1 f0.2) ⟨hcond, hitem, hnth, trivial⟩ (by (first | lia | omega))
    · exact key _ _ _ (Z.turnF S f0.1 f0.2) (Z.backF S f0.1 f0.2) ⟨hcond, hitem, hnth, trivial⟩ (show max j.1.1 (lastZ cN (hrs D)) = j.1.1 by (first | lia | omega))
theorem HeRuns.entry (Z : HeRuns P top) {c : Nat} (h1 : 1 ≤ c) (h4 : c ≤ 4) : heEntry P top c := by
  have : c = 1 ∨ c = 2 ∨ c = 3 ∨ c = 4 := by (first | lia | omega)
  rcases this with rfl | rfl | rfl | rfl
  · exact Z.e1
  · exact Z.e2
  · exact Z.e3
  · exact Z.e4
theorem heap_spec (hP : P = w.params) (Y : HrRuns P top) (Z : HeRuns P top) (En : EnRuns P top) (sep : TopSep top) {h : Heap} {t₀ : Nat} (T : TopOk top h) {nr : Nat} (a : Rm A nr) (ha : nr ≤ 360) {jl ej tc ts cN : Nat} {s : Int} {tl : List Nat} {js : List Job} (hc : 1 ≤ cN) (hc' : cN ≤ 4) (hs : 0 ≤ s) (h4 : 4 ≤ js.length) (h7 : js.length ≤ 7) (hB : 143 ≤ h.objs.size) (J : Jobs h jl tl js ej) (up : Up (0 :: hrs js))
    (X : DeskPost h js cN s [] R g dr os) : codeAny (Md w) A (heapCall jl cN tc s ts) R ⟨h, g, dr, t₀, os⟩ := by
  have hjl : jl < h.objs.size := Heap.lt_size J.list
  refine code_stop (pre_one T J.list J.low) sep hP a (by (first | lia | omega)) rfl (Z.entry hc hc' _ t₀ jl tl ej tc s ts) trivial fun h1 B1 A' a' => ?_
  have s1 := B1.size
  have c1 : Chg h h1 [] := B1.chg.drop fun b hb hn => by
    simp at hb; subst hb
    exact same_of J.list (B1.at 0 rfl)
  have T1 : TopOk top h1 := T.chg sep c1 (by simp)
  have J1 : Jobs h1 jl tl js ej := J.chg c1 (by simp) (by simp)
  refine heap_loop hP Y Z En sep a' (by (first | lia | omega)) hc hs h4 h7 hB hjl J.lt js 0 (List.replicate cN (0, t₀ + 3)) [] [] none h1 _ 0 0 0 rfl (by (first | lia | omega)) (by (first | lia | omega)) T1 J1 (B1.dicAt 0 rfl) (B1.at 1 rfl) ⟨B1.at 2 rfl, by (first | lia | omega), rfl, fun k t j h1 => by simp at h1⟩ (B1.at 3 rfl) (by rw [List.map_replicate]; exact HpOk.start hc hc' |> (win_nil ▸ ·)) rfl (.nil _ _ _) (by (first | lia | omega)) up (by simp) fun h2 t2 ex ds D ed hfr hdn hD hN c2 => ?_
  have c12 : Chg h h2 [] := (c1.trans c2).none fun b hb => by simp at hb; (first | lia | omega)
  have T2 : TopOk top h2 := T.chg sep c12 (by simp)
  obtain ⟨aux, ep, hfr⟩ := hfr
  refine res_fin (pre_one T2 hfr hB) sep hP a (by (first | lia | omega)) (Z.back _ t₀ jl tl ej cN tc s ts _ t2 _ _ ex aux ep hc hc') trivial fun h3 B3 => ?_
  have c23 : Chg h2 h3 [h.objs.size] := B3.chg
  have c13 : Chg h h3 [] := (c12.trans c23).none fun b hb => by simp at hb; (first | lia | omega)
  exact X h3 _ _ ds D ed (hdn.chg c23 (by simp) fun t ht => by simpa using hdn.ne_dic hfr t ht) hD (by simpa using hN) c13 (by (first | lia | omega))
end
end
end Mine

end
section
open PySem PySem.W PySem.W.X PyProof.Rows
set_option maxRecDepth 100000
set_option Elab.async false
set_option maxHeartbeats 2000000
set_option genInjectivity false
set_option genSizeOfSpec false
namespace Mine
noncomputable section
/-! calls of built-ins that are stopped at: list of a str, items of a dict -/
noncomputable def dcO (es : Array DictEntry) (ep : Nat) : Obj := { cls := .type "dict", dict := none, data := .dict es ep, slots := #[] }
noncomputable abbrev stK (w : World) := strKind PySem.Challenge.pw_qu0021_01 w
section
variable {w : World} {A : Around} {R : Result → Shared → Prop} {h : Heap} {g : Array GenState} {dr : Drawn} {os : OsState} {t₀ : Nat}
theorem dict_obj {d : Nat} {kvs : List (Str × Value)} (hm : h.DictOf (stK w) d kvs) : ∃ es ep, h.get? d = some (dcO es ep) := by
  obtain ⟨o, es, ep, ho, ⟨h1, h2, h3⟩, hd, _⟩ := hm
  refine ⟨es, ep, ?_⟩
  rw [ho]
  obtain ⟨c, di, da, sl⟩ := o
  simp only at h1 h2 h3 hd
  subst h1 h2 h3 hd
  rfl
theorem dget_spec {d : Nat} {k : Str} {t : Nat} {v : Value} {kvs : List (Str × Value)} (hm : h.DictOf (stK w) d kvs) (hv : valueAt kvs k = some v) (X : R (.ok (.ret v)) ⟨h, g, dr, t₀ + 1, os⟩) :
    codeAny (Md w) A (.call (.builtin "dict.__getitem__") ⟨[.ref d, .str k t], []⟩) R ⟨h, g, dr, t₀, os⟩ :=
  codeAny_call_builtin PySem.slot_dict_getitem.plain PySem.entry_dict_getitem (PySem.slot_dict_getitem.check _ _ _ _ _ _ _ _ (Heap.DictOf.typeIs (s := ⟨h, g, dr, t₀, os⟩) hm) (PySem.args_dict_getitem _ _) (meets_dict_getitem (stK w) d (strKind_is _ w k t) A R ⟨h, g, dr, t₀, os⟩ ⟨valueAt kvs, v, hm.mapOf, hv, X⟩))
theorem dset_spec {d : Nat} {k : Str} {t : Nat} {v : Value} {kvs : List (Str × Value)} (hm : h.DictOf (stK w) d kvs) (hl : kvs.length ≤ 1000) (X : ∀ h', h'.DictOf (stK w) d (stored kvs k v) → Chg h h' [d] → R (.ok (.ret .none)) ⟨h', g, dr, t₀ + 1, os⟩) :
    codeAny (Md w) A (.call (.builtin "dict.__setitem__") ⟨[.ref d, .str k t, v], []⟩) R ⟨h, g, dr, t₀, os⟩ :=
  codeAny_call_builtin PySem.slot_dict_setitem.plain PySem.entry_dict_setitem (PySem.slot_dict_setitem.check _ _ _ _ _ _ _ _ (Heap.DictOf.typeIs (s := ⟨h, g, dr, t₀, os⟩) hm) (PySem.args_dict_setitem _ _ _) (meets_dict_setitem_pairs (stK w) d (strKind_is _ w k t) v A R ⟨h, g, dr, t₀, os⟩ ⟨kvs, hm, by rw [sizeLine_eq]; (first | lia | omega), fun h' hm' hs => X h' hm' ⟨by rw [hs.1]; exact Nat.le_refl _, fun b o hb hn => (hs.2 b (by simpa using hn)).trans hb⟩⟩))
theorem list_spec {x : Str} {t : Nat} (hh : A.handled = none) (hn : x.cps.size ≤ 1000) (X : ∀ h' t' xs e, h'.get? h.objs.size = some (lsO xs e) → ItemsOf (SignAt x) ⟨xs⟩ x.cps.size → Chg h h' [] → R (.ok (.ret (.ref h.objs.size))) ⟨h', g, dr, t', os⟩) :
    CallsTo (Md w) A (.call (.type "list") ⟨[.str x t], []⟩) R ⟨h, g, dr, t₀, os⟩ := by
  intro Γ p hΓ
  have z := call_list_str (prog := PySem.Challenge.pw_qu0021_01) (w := w) (A := A) (E := fun _ _ => False) (s := ⟨h, g, dr, t₀, os⟩) (Q := fun v s' => R (.ok (.ret v)) s') hh x t (fun h' tk acc' c' hk hS hacc => X h' tk acc'.toList c' hS hacc ⟨Nat.le_of_lt (Heap.lt_size hS), fun b o hb _ => hk b o hb⟩) (by rw [sizeLine_eq]; (first | lia | omega)) Γ p hΓ
  unfold PySem.call at z
  rw [Sem.wp_runValue] at z
  refine wpCode_mono (fun r s' hr => ?_) z
  cases r with
  | error e => exact hr.elim
  | ok fl => cases fl <;> first | exact hr | exact hr.elim
end
end
end Mine

end
section
open PySem PySem.W PySem.W.X PyProof.Rows
set_option maxRecDepth 100000
set_option Elab.async false
set_option maxHeartbeats 2000000
set_option genInjectivity false
set_option genSizeOfSpec false
namespace Mine
noncomputable section
noncomputable def q_liA : Nat := 96903404561588871640994948380094974868524647816757248
noncomputable def q_liB : Nat := 138829755095069811646889856429417953104978700053065172109825845367517164049435112108601723290211410606500910432402641401478643862329210506312468924214707482367562001762165577874197569380667008823644842518557676259245313686529101954366338411487229388476246476125435126954758894730736127670943531023347568262939301320581621604906041875260679480626132491623813116499386106230033013783528352591899785803420324714853230457019420561056369677716095491
noncomputable def q_liC : Nat := 4796154022123060396033
noncomputable def q_liR : Nat := 1
noncomputable def q_lc1 : Nat := 209400661500620189940636997292292900004094541077283782281340118088403352782068351683485118849166615007343994757522985004975530241509679962560775127045
noncomputable def q_lcE : Nat := 55340514799912026113
noncomputable def q_lm1 : Nat := 2839875984063812625881235776139236300738129991921278508657060980867837113780598369097596191725929816144662825306039688684499510579411518172813224053176178804792012363581021429047539542677800632829041564933759357499364829279917386623393199281511808981446079425601483230158409799976634171971595113672802822
noncomputable def q_lm2T : Nat := 3146232665868158982618367726838311949756159646344852965516405141685912539585345070623882006202547200896907140618665011050762071143639409919983616
noncomputable def q_lm2F : Nat := 187530080429801880277297957351107117519149759193948087983061843518387750106311284850589840483739050109977205322980568242198812929900609536
noncomputable def q_lm3 : Nat := 48568104603360603036280279557205627521063647802241534501610164038611162022063858664344795386173204932384553725823805325969007153136638362113
noncomputable def q_lm4 : Nat := 16843265
/-! the desk that keeps a line -/
noncomputable def lineCall (jl : Nat) (c : Int) (tc : Nat) (s : Int) (ts : Nat) : Code := .call (.ref 123) ⟨[.ref jl, .int c tc, .int s ts], []⟩
noncomputable def o97 (c1 c2 : Nat) : Obj := { cls := .none, dict := none, data := .fields #[rawInt 107, rawInt 13, .ref c1, rawInt 108, rawInt 18, .ref c2], slots := #[] }
noncomputable def ceO (v : Option Value) : Obj := { cls := .type "cell", dict := none, data := .cell v, slots := #[] }
noncomputable def lxO (d : Nat) : Obj := { cls := .ref 91, dict := some d, data := .plain, slots := #[] }
noncomputable def siO (s : Str) (t : Nat) (i : Int) : Obj := { cls := .type "str_ascii_iterator", dict := none, data := .fields #[.str s t, .int i 0], slots := #[] }
noncomputable def vs3 (jl : Nat) (c : Int) (tc : Nat) (s : Int) (ts : Nat) (ex : Vs) : Vs := [([106, 111, 98, 115], .ref jl), ([99, 108, 101, 114, 107, 115], .int c tc), ([115, 116, 97, 121], .int s ts)] ++ ex
noncomputable def exLF (lx fd : Nat) (ex : Vs) : Vs := [([108, 105, 110, 101], .ref lx), ([102, 114, 101, 101], .ref fd)] ++ ex
noncomputable def vsT (v : Value) : Vs := [([116, 101, 120, 116], v)]
noncomputable def vsD (ln : Value) (ins : Value) (ws : Value) (pb : Nat) : Vs := [([108, 105, 110, 101, 110, 111], ln), ([105, 110, 115, 116, 114, 101, 97, 109], ins), ([119, 104, 105, 116, 101, 115, 112, 97, 99, 101], ws), ([112, 117, 115, 104, 98, 97, 99, 107], .ref pb)]
noncomputable def cstr (c : Nat) : Str := ⟨⟨[119, 120, 121, 122].take c⟩⟩
noncomputable def csign (i : Nat) : Str := ⟨⟨[119 + i]⟩⟩
noncomputable def bTok : Nat → Nat
  | 4 => 17
  | _ => 18
noncomputable def exK (v : Option Value) (ex : Vs) : Vs := match v with
  | none => ex
  | some v => ([99, 108, 101, 114, 107], v) :: ex
noncomputable def exDn (dn : Nat) (ex : Vs) : Vs := ([100, 111, 110, 101], .ref dn) :: ex
noncomputable def exHN (v : Option (Value × Value)) : Vs := match v with
  | none => []
  | some (a, b) => [([104, 111, 117, 114], a), ([110, 97, 109, 101], b)]
structure Ln0 where
  B : Nat
  t₀ : Nat
  jl : Nat
  tl : List Nat
  ej : Nat
  tc : Nat
  s : Int
  ts : Nat
  sg : Nat
  c1 : Nat
  c2 : Nat
  aux : Nat → Int × Nat
  ep : Nat
  aux2 : Nat → Int × Nat
  ep2 : Nat
  e : Nat
  B2 : Nat
  t2 : Nat
noncomputable def Ln0.vs (Z : Ln0) (c : Nat) (ex : Vs) : Vs := vs3 Z.jl (.ofNat c) Z.tc Z.s Z.ts ex
noncomputable def Ln0.fr (Z : Ln0) (c : Nat) (ck : Option Value) (ex : Vs) : Vs := Z.vs c (exLF (Z.B2 + 5) (Z.B2 + 8) (exK ck ex))
noncomputable def Ln0.LA (Z : Ln0) : Led := [(Z.jl, lsO (rfs Z.tl) Z.ej)]
noncomputable def Ln0.A (P : Params) (top : Nat → Option Obj) (Z : Ln0) (c : Nat) : RO := runQ (vOf P top [] Z.LA Z.B Z.t₀) 100 (startC (lineCall Z.jl (.ofNat c) Z.tc Z.s Z.ts) (btOf (Z.LA.map (·.2))) q_liA)
noncomputable def Ln0.LB (Z : Ln0) (c : Nat) : Led := [(Z.B, dicF "frame" (Z.vs c []) Z.aux Z.ep), (Z.B + 1, dicF "frame" (vsT (.str ⟨⟨[]⟩⟩ (Z.t₀ + 3))) Z.aux2 Z.ep2), (Z.B + 2, ceO none), (Z.sg, lsO [] Z.e), (97, o97 Z.c1 Z.c2)]
noncomputable def Ln0.RB (P : Params) (top : Nat → Option Obj) (Z : Ln0) (c : Nat) : RO := runQ (vOf P top [] (Z.LB c) Z.B2 Z.t2) 400 ((Z.A P top c).resume (.ok (.ret (.ref Z.sg))) (btOf ((Z.LB c).map (·.2))) q_liB)
noncomputable def Ln0.LC (Z : Ln0) (c : Nat) (ck : Value) (aux : Nat → Int × Nat) (ep : Nat) : Led := [(Z.B, dicF "frame" (Z.fr c (some ck) []) aux ep), (Z.jl, lsO (rfs Z.tl) Z.ej)]
noncomputable def Ln0.RC (P : Params) (top : Nat → Option Obj) (Z : Ln0) (c : Nat) (B3 t3 : Nat) (ck : Value) (aux : Nat → Int × Nat) (ep : Nat) : RO := runQ (vOf P top [] (Z.LC c ck aux ep) B3 t3) 100 ((Z.RB P top c).resume (.ok .next) (btOf ((Z.LC c ck aux ep).map (·.2))) q_liC)
structure Lc where
  fr : Nat
  lx : Nat
  ld : Nat
  pb : Nat
  it : Nat
  fd : Nat
  jl : Nat
  tc : Nat
  s : Int
  ts : Nat
  ln : Value
  ins : Value
  ws : Value
  xs : List Value
  e : Nat
  tk : Nat
  es : Array DictEntry
  ed : Nat
noncomputable def Lc.vs (S : Lc) (c : Nat) (ck : Option Value) : Vs := vs3 S.jl (.ofNat c) S.tc S.s S.ts (exLF S.lx S.fd (exK ck []))
noncomputable def Lc.vd (S : Lc) : Vs := vsD S.ln S.ins S.ws S.pb
noncomputable def Lc.L (S : Lc) (c i : Nat) (ck : Option Value) (aux : Nat → Int × Nat) (ep : Nat) (aux2 : Nat → Int × Nat) (ep2 : Nat) : Led :=
  [(S.fr, dicF "frame" (S.vs c ck) aux ep), (S.lx, lxO S.ld), (S.ld, dicF "dict" S.vd aux2 ep2), (S.pb, lsO S.xs S.e), (S.it, siO (cstr c) S.tk (.ofNat i)), (S.fd, dcO S.es S.ed)]
noncomputable def Lc.O (P : Params) (top : Nat → Option Obj) (B t₀ : Nat) (S : Lc) (c i : Nat) (ck : Option Value) (aux : Nat → Int × Nat) (ep : Nat) (aux2 : Nat → Int × Nat) (ep2 : Nat) : RO :=
  runQ (vOf P top [] (S.L c i ck aux ep aux2 ep2) B t₀) 150 (startC (loopC top 123 0 S.fr [] (.ref S.it)) (btOf ((S.L c i ck aux ep aux2 ep2).map (·.2))) q_lc1)
structure Lm where
  jl : Nat
  fr : Nat
  lx : Nat
  ld : Nat
  pb : Nat
  it : Nat
  dn : Nat
  tj : Nat
  fd : Nat
  tl : List Nat
  ej : Nat
  tc : Nat
  s : Int
  ts : Nat
  ln : Value
  ins : Value
  ws : Value
  k0 : Str
  t0 : Nat
  e : Nat
  ds : List Value
  ed : Nat
  k : Nat
  j : Job
noncomputable def Lm.vs (S : Lm) (c : Nat) (ck : Value) (ex : Option (Value × Value)) : Vs := vs3 S.jl (.ofNat c) S.tc S.s S.ts (exLF S.lx S.fd (exK (some ck) (exDn S.dn (exHN ex))))
noncomputable def Lm.vs1 (S : Lm) (c : Nat) : Vs := S.vs c (.str S.k0 S.t0) (some (.int S.j.1.1 S.j.1.2, .str S.j.2.1 S.j.2.2))
noncomputable def Lm.vd (S : Lm) : Vs := vsD S.ln S.ins S.ws S.pb
noncomputable def Lm.L1 (S : Lm) (c : Nat) (xs : List Value) (ck : Value) (ex : Option (Value × Value)) (aux : Nat → Int × Nat) (ep : Nat) (aux2 : Nat → Int × Nat) (ep2 : Nat) (es : Array DictEntry) (ee : Nat) : Led :=
  [(S.jl, lsO (rfs S.tl) S.ej), (S.fr, dicF "frame" (S.vs c ck ex) aux ep), (S.lx, lxO S.ld), (S.ld, dicF "dict" S.vd aux2 ep2), (S.pb, lsO (.str S.k0 S.t0 :: xs) S.e), (S.it, itO S.jl (.ofNat S.k) 0), (S.dn, lsO S.ds S.ed), (S.tj, tuO S.j), (S.fd, dcO es ee)]
noncomputable def Lm.R1 (P : Params) (top : Nat → Option Obj) (B t₀ : Nat) (S : Lm) (L : Led) : RO := runQ (vOf P top [.ref S.tj] L B t₀) 300 (startC (loopC top 123 1 S.fr [] (.ref S.it)) (btOf (L.map (·.2))) q_lm1)
noncomputable def Lm.L2 (S : Lm) (c : Nat) (aux : Nat → Int × Nat) (ep : Nat) (es : Array DictEntry) (ee : Nat) : Led := [(S.fr, dicF "frame" (S.vs1 c) aux ep), (S.fd, dcO es ee)]
noncomputable def Lm.R2 (P : Params) (top : Nat → Option Obj) (B t₀ : Nat) (o : RO) (L : Led) (v : Value) (q : Nat) : RO := runQ (vOf P top [] L B t₀) 200 (o.resume (.ok (.ret v)) (btOf (L.map (·.2))) q)
noncomputable def Lm.L3 (S : Lm) (c : Nat) (aux : Nat → Int × Nat) (ep : Nat) (aux2 : Nat → Int × Nat) (ep2 : Nat) (ys : List Value) (e : Nat) (es : Array DictEntry) (ee : Nat) : Led := [(S.fr, dicF "frame" (S.vs1 c) aux ep), (S.lx, lxO S.ld), (S.ld, dicF "dict" S.vd aux2 ep2), (S.pb, lsO ys e), (S.fd, dcO es ee), (S.dn, lsO S.ds S.ed)]
noncomputable def Lm.L4 (S : Lm) (c : Nat) (aux : Nat → Int × Nat) (ep : Nat) : Led := [(S.fr, dicF "frame" (S.vs1 c) aux ep), (S.dn, lsO S.ds S.ed)]
noncomputable def dgC (d : Nat) (k : Str) (t : Nat) : Code := .call (.builtin "dict.__getitem__") ⟨[.ref d, .str k t], []⟩
noncomputable def dsC (d : Nat) (k : Str) (t : Nat) (v : Value) : Code := .call (.builtin "dict.__setitem__") ⟨[.ref d, .str k t, v], []⟩
structure Lt where
  B : Nat
  t₀ : Nat
  ck : Value
  aux : Nat → Int × Nat
  ep : Nat
  aux1 : Nat → Int × Nat
  ep1 : Nat
  es : Array DictEntry
  ee : Nat
  f0 : Int
  tf : Nat
  B2 : Nat
  t2 : Nat
  aux2 : Nat → Int × Nat
  ep2 : Nat
  es2 : Array DictEntry
  ee2 : Nat
  B3 : Nat
  t3 : Nat
  aux3 : Nat → Int × Nat
  ep3 : Nat
  aux4 : Nat → Int × Nat
  ep4 : Nat
  ys : List Value
  e3 : Nat
  es3 : Array DictEntry
  ee3 : Nat
  B4 : Nat
  t4 : Nat
  aux5 : Nat → Int × Nat
  ep5 : Nat
  z : Int
  tz : Nat
noncomputable def Lt.L1 (S : Lm) (c : Nat) (xs : List Value) (ex : Option (Value × Value)) (U : Lt) : Led := S.L1 c xs U.ck ex U.aux U.ep U.aux1 U.ep1 U.es U.ee
noncomputable def Lt.R1 (P : Params) (top : Nat → Option Obj) (S : Lm) (c : Nat) (xs : List Value) (ex : Option (Value × Value)) (U : Lt) : RO := Lm.R1 P top U.B U.t₀ S (U.L1 S c xs ex)
noncomputable def Lt.L2 (S : Lm) (c : Nat) (U : Lt) : Led := S.L2 c U.aux2 U.ep2 U.es2 U.ee2
noncomputable def Lt.R2 (P : Params) (top : Nat → Option Obj) (S : Lm) (c : Nat) (xs : List Value) (ex : Option (Value × Value)) (q : Nat) (U : Lt) : RO := Lm.R2 P top U.B2 U.t2 (U.R1 P top S c xs ex) (U.L2 S c) (.int U.f0 U.tf) q
noncomputable def Lt.L3 (S : Lm) (c : Nat) (U : Lt) : Led := S.L3 c U.aux3 U.ep3 U.aux4 U.ep4 U.ys U.e3 U.es3 U.ee3
noncomputable def Lt.R3 (P : Params) (top : Nat → Option Obj) (S : Lm) (c : Nat) (xs : List Value) (ex : Option (Value × Value)) (q : Nat) (U : Lt) : RO := Lm.R2 P top U.B3 U.t3 (U.R2 P top S c xs ex q) (U.L3 S c) .none q_lm3
noncomputable def Lt.L4 (S : Lm) (c : Nat) (U : Lt) : Led := S.L4 c U.aux5 U.ep5
@[reducible] noncomputable def liM2_p (P : Params) (top : Nat → Option Obj) (S : Lm) (c : Nat) (xs : List Value) (ex : Option (Value × Value)) (U : Lt) (q : Nat) (bg : Int) (cs : List Prop) : Tale × Tale := toldGp P top [] (U.L2 S c) U.B2 U.t2 200 ((U.R1 P top S c xs ex).resume (.ok (.ret (.int U.f0 U.tf))) (btOf ((U.L2 S c).map (·.2))) q) [1] [0] (.call (dsC S.fd S.k0 S.t0 (.int (bg + S.s) U.t2))) 0 5 1 true [(S.fd, some (dcO U.es2 U.ee2))] [(S.fr, some (true, S.vs1 c))] cs
@[reducible] noncomputable def liM2 (P : Params) (top : Nat → Option Obj) (S : Lm) (c : Nat) (xs : List Value) (ex : Option (Value × Value)) (U : Lt) (q : Nat) (bg : Int) (cs : List Prop) : Prop := IsT (liM2_p P top S c xs ex U q bg cs)
@[reducible] noncomputable def liM3_p (P : Params) (top : Nat → Option Obj) (S : Lm) (c : Nat) (xs : List Value) (ex : Option (Value × Value)) (U : Lt) (q : Nat) : Tale × Tale := toldGp P top [] (U.L3 S c) U.B3 U.t3 200 ((U.R2 P top S c xs ex q).resume (.ok (.ret .none)) (btOf ((U.L3 S c).map (·.2))) q_lm3) [1, 3, 4, 5] [0, 2] (.call (dgC S.fd S.k0 S.t0)) 0 1 3 true [(S.lx, some (lxO S.ld)), (S.pb, some (lsO (U.ys ++ [.str S.k0 S.t0]) (U.e3 + 1))), (S.fd, some (dcO U.es3 U.ee3)), (S.dn, some (lsO S.ds S.ed))] [(S.fr, some (true, S.vs1 c)), (S.ld, some (false, S.vd))] [U.ys.length ≤ 100000]
@[reducible] noncomputable def liM3 (P : Params) (top : Nat → Option Obj) (S : Lm) (c : Nat) (xs : List Value) (ex : Option (Value × Value)) (U : Lt) (q : Nat) : Prop := IsT (liM3_p P top S c xs ex U q)
@[reducible] noncomputable def liM4_p (P : Params) (top : Nat → Option Obj) (S : Lm) (c : Nat) (xs : List Value) (ex : Option (Value × Value)) (U : Lt) (q : Nat) : Tale × Tale := toldGp P top [] (U.L4 S c) U.B4 U.t4 100 ((U.R3 P top S c xs ex q).resume (.ok (.ret (.int U.z U.tz))) (btOf ((U.L4 S c).map (·.2))) q_lm4) [1, 2] [0] (.again (loopC top 123 1 S.fr [] (.ref S.it))) 0 1 0 true [(S.dn, some (lsO (S.ds ++ [.ref U.B4]) (S.ed + 1))), (U.B4, some (tuO ((U.z, U.tz), S.j.2)))] [(S.fr, some (true, S.vs1 c))] [S.ds.length ≤ 100000]
@[reducible] noncomputable def liM4 (P : Params) (top : Nat → Option Obj) (S : Lm) (c : Nat) (xs : List Value) (ex : Option (Value × Value)) (U : Lt) (q : Nat) : Prop := IsT (liM4_p P top S c xs ex U q)
@[reducible] noncomputable def LiRuns_shape0 (P : Params) (top : Nat → Option Obj) : Prop := ∀ fr it, isFor (loopC top 123 0 fr [] it) = true
@[reducible] noncomputable def LiRuns_shape1 (P : Params) (top : Nat → Option Obj) : Prop := ∀ fr it, isFor (loopC top 123 1 fr [] it) = true
@[reducible] noncomputable def LiRuns_rA_p (P : Params) (top : Nat → Option Obj) := fun (Z : Ln0) (c : Nat) => (toldLp P top [] Z.LA Z.B Z.t₀ 100 (lineCall Z.jl (.ofNat c) Z.tc Z.s Z.ts) q_liA [0, 3] [1, 2] (.call (.call (.type "list") ⟨[.str ⟨⟨[]⟩⟩ (Z.t₀ + 3)], []⟩)) 1 3 5 false
    [(Z.jl, some (lsO (rfs Z.tl) Z.ej)), (Z.B + 2, some (ceO none))] [(Z.B, some (true, Z.vs c [])), (Z.B + 1, some (true, vsT (.str ⟨⟨[]⟩⟩ (Z.t₀ + 3))))] [] : Tale × Tale)
@[reducible] noncomputable def LiRuns_rA (P : Params) (top : Nat → Option Obj) : Prop := ∀ (Z : Ln0) (c : Nat), 1 ≤ c → c ≤ 4 → IsT (LiRuns_rA_p P top Z c)
@[reducible] noncomputable def LiRuns_rB_p (P : Params) (top : Nat → Option Obj) := fun (Z : Ln0) (c : Nat) => (toldGp P top [] (Z.LB c) Z.B2 Z.t2 400 ((Z.A P top c).resume (.ok (.ret (.ref Z.sg))) (btOf ((Z.LB c).map (·.2))) q_liB) [4, 10, 12, 13, 15] [0, 9] (.call (loopC top 123 0 Z.B [] (.ref (Z.B2 + 10)))) 0 11 (bTok c + 1) true
    [(97, some (o97 Z.c1 Z.c2)), (Z.B2 + 5, some (lxO (Z.B2 + 4))), (Z.B2 + 7, some (lsO [] 0)), (Z.B2 + 8, some (dcO #[] 0)), (Z.B2 + 10, some (siO (cstr c) (Z.t2 + bTok c) 0))] [(Z.B, some (true, Z.fr c none [])), (Z.B2 + 4, some (false, vsD (.int 1 (Z.t2 + 5)) (.ref Z.B2) (.str ⟨⟨[10, 9, 13, 32]⟩⟩ (Z.t2 + 10)) (Z.B2 + 7)))] [] : Tale × Tale)
@[reducible] noncomputable def LiRuns_rB (P : Params) (top : Nat → Option Obj) : Prop := ∀ (Z : Ln0) (c : Nat), 1 ≤ c → c ≤ 4 → IsT (LiRuns_rB_p P top Z c)
@[reducible] noncomputable def LiRuns_rC_p (P : Params) (top : Nat → Option Obj) := fun (Z : Ln0) (c : Nat) B3 t3 ck aux ep => (toldGp P top [] (Z.LC c ck aux ep) B3 t3 100 ((Z.RB P top c).resume (.ok .next) (btOf ((Z.LC c ck aux ep).map (·.2))) q_liC) [1, 2, 3] [0] (.call (loopC top 123 1 Z.B [] (.ref (B3 + 1)))) 0 2 1 true
    [(Z.jl, some (lsO (rfs Z.tl) Z.ej)), (B3, some (lsO (rfs []) 0)), (B3 + 1, some (itO Z.jl (.ofNat 0) 0))] [(Z.B, some (true, Z.fr c (some ck) (exDn B3 (exHN none))))] [] : Tale × Tale)
@[reducible] noncomputable def LiRuns_rC (P : Params) (top : Nat → Option Obj) : Prop := ∀ (Z : Ln0) (c : Nat), 1 ≤ c → c ≤ 4 → ∀ B3 t3 ck aux ep, IsT (LiRuns_rC_p P top Z c B3 t3 ck aux ep)
@[reducible] noncomputable def LiRuns_rR_p (P : Params) (top : Nat → Option Obj) := fun (Z : Ln0) (c : Nat) B3 t3 ck aux ep B4 t4 ck' dn ex aux4 ep4 => (toldGp P top [] [(Z.B, dicF "frame" (Z.fr c (some ck') (exDn dn (exHN ex))) aux4 ep4)] B4 t4 100 ((Z.RC P top c B3 t3 ck aux ep).resume (.ok .next) (btOf ([(Z.B, dicF "frame" (Z.fr c (some ck') (exDn dn (exHN ex))) aux4 ep4)].map (·.2))) q_liR) [] []
    (.fin (.ok (.ret (.ref dn)))) 0 0 0 true [] [] [] : Tale × Tale)
@[reducible] noncomputable def LiRuns_rR (P : Params) (top : Nat → Option Obj) : Prop := ∀ (Z : Ln0) (c : Nat), 1 ≤ c → c ≤ 4 → ∀ B3 t3 ck aux ep B4 t4 ck' dn ex aux4 ep4, IsT (LiRuns_rR_p P top Z c B3 t3 ck aux ep B4 t4 ck' dn ex aux4 ep4)
@[reducible] noncomputable def LiRuns_ct_p (P : Params) (top : Nat → Option Obj) := fun (S : Lc) (c i : Nat) B t₀ ck aux ep aux2 ep2 => (toldLp P top [] (S.L c i ck aux ep aux2 ep2) B t₀ 150 (loopC top 123 0 S.fr [] (.ref S.it)) q_lc1 [1, 3, 4, 5] [0, 2] (.call (dsC S.fd (csign i) t₀ (.int 0 (t₀ + 5)))) 0 1 6 true
    [(S.lx, some (lxO S.ld)), (S.pb, some (lsO (S.xs ++ [.str (csign i) t₀]) (S.e + 1))), (S.it, some (siO (cstr c) S.tk (.ofNat (i + 1)))), (S.fd, some (dcO S.es S.ed))] [(S.fr, some (true, S.vs c (some (.str (csign i) t₀)))), (S.ld, some (false, S.vd))] [S.xs.length ≤ 100000] : Tale × Tale)
@[reducible] noncomputable def LiRuns_ct (P : Params) (top : Nat → Option Obj) : Prop := ∀ (S : Lc) (c i : Nat), c ≤ 4 → i < c → ∀ B t₀ ck aux ep aux2 ep2, IsT (LiRuns_ct_p P top S c i B t₀ ck aux ep aux2 ep2)
@[reducible] noncomputable def LiRuns_ct2_p (P : Params) (top : Nat → Option Obj) := fun (S : Lc) (c i : Nat) B t₀ ck aux ep aux2 ep2 B2 t2 => (toldGp P top [] [] B2 t2 100 ((Lc.O P top B t₀ S c i ck aux ep aux2 ep2).resume (.ok (.ret .none)) (btOf []) 1) [] [] (.again (loopC top 123 0 S.fr [] (.ref S.it))) 0 0 0 true [] [] [] : Tale × Tale)
@[reducible] noncomputable def LiRuns_ct2 (P : Params) (top : Nat → Option Obj) : Prop := ∀ (S : Lc) (c i : Nat), c ≤ 4 → i < c → ∀ B t₀ ck aux ep aux2 ep2 B2 t2, IsT (LiRuns_ct2_p P top S c i B t₀ ck aux ep aux2 ep2 B2 t2)
@[reducible] noncomputable def LiRuns_cE_p (P : Params) (top : Nat → Option Obj) := fun (c : Nat) B t₀ t b env it tk => (toldLp P top [] [(it, siO (cstr c) tk (.ofNat c))] B t₀ 50 (.forLoop t (.ref it) b [] env) q_lcE [] [] (.fin (.ok .next)) 0 2 0 true [] [] [] : Tale × Tale)
@[reducible] noncomputable def LiRuns_cE (P : Params) (top : Nat → Option Obj) : Prop := ∀ (c : Nat), 1 ≤ c → c ≤ 4 → ∀ B t₀ t b env it tk, IsT (LiRuns_cE_p P top c B t₀ t b env it tk)
@[reducible] noncomputable def LiRuns_m1_p (P : Params) (top : Nat → Option Obj) := fun (S : Lm) (c : Nat) xs B t₀ ck ex aux ep aux2 ep2 es ee => (toldLp P top [.ref S.tj] (S.L1 c xs ck ex aux ep aux2 ep2 es ee) B t₀ 300 (loopC top 123 1 S.fr [] (.ref S.it)) q_lm1 [0, 2, 4, 5, 6, 7, 8] [1, 3] (.call (dgC S.fd S.k0 S.t0)) 0 4 9 true
    [(S.jl, some (lsO (rfs S.tl) S.ej)), (S.lx, some (lxO S.ld)), (S.pb, some (lsO xs (S.e + 1))), (S.it, some (itO S.jl (.ofNat (S.k + 1)) 0)), (S.dn, some (lsO S.ds S.ed)), (S.tj, some (tuO S.j)), (S.fd, some (dcO es ee))] [(S.fr, some (true, S.vs1 c)), (S.ld, some (false, S.vd))] [(rfs S.tl)[(Int.ofNat S.k).toNat]? = some (.ref S.tj)] : Tale × Tale)
@[reducible] noncomputable def LiRuns_m1 (P : Params) (top : Nat → Option Obj) : Prop := ∀ (S : Lm) (c : Nat) xs, 1 ≤ c → c ≤ 4 → xs.length + 1 = c → ∀ B t₀ ck ex aux ep aux2 ep2 es ee, IsT (LiRuns_m1_p P top S c xs B t₀ ck ex aux ep aux2 ep2 es ee)
@[reducible] noncomputable def LiRuns_m2T (P : Params) (top : Nat → Option Obj) : Prop := ∀ (S : Lm) (c : Nat) xs, 1 ≤ c → c ≤ 4 → xs.length + 1 = c → ∀ ex U, liM2 P top S c xs ex U q_lm2T U.f0 [U.f0 > S.j.1.1]
@[reducible] noncomputable def LiRuns_m2F (P : Params) (top : Nat → Option Obj) : Prop := ∀ (S : Lm) (c : Nat) xs, 1 ≤ c → c ≤ 4 → xs.length + 1 = c → ∀ ex U, liM2 P top S c xs ex U q_lm2F S.j.1.1 [¬ U.f0 > S.j.1.1]
@[reducible] noncomputable def LiRuns_m3T (P : Params) (top : Nat → Option Obj) : Prop := ∀ (S : Lm) (c : Nat) xs, 1 ≤ c → c ≤ 4 → xs.length + 1 = c → ∀ ex U, liM3 P top S c xs ex U q_lm2T
@[reducible] noncomputable def LiRuns_m3F (P : Params) (top : Nat → Option Obj) : Prop := ∀ (S : Lm) (c : Nat) xs, 1 ≤ c → c ≤ 4 → xs.length + 1 = c → ∀ ex U, liM3 P top S c xs ex U q_lm2F
@[reducible] noncomputable def LiRuns_m4T (P : Params) (top : Nat → Option Obj) : Prop := ∀ (S : Lm) (c : Nat) xs, 1 ≤ c → c ≤ 4 → xs.length + 1 = c → ∀ ex U, liM4 P top S c xs ex U q_lm2T
@[reducible] noncomputable def LiRuns_m4F (P : Params) (top : Nat → Option Obj) : Prop := ∀ (S : Lm) (c : Nat) xs, 1 ≤ c → c ≤ 4 → xs.length + 1 = c → ∀ ex U, liM4 P top S c xs ex U q_lm2F
structure LiRuns (P : Params) (top : Nat → Option Obj) : Prop where
  shape0 : LiRuns_shape0 P top
  shape1 : LiRuns_shape1 P top
  rA : LiRuns_rA P top
  rB : LiRuns_rB P top
  rC : LiRuns_rC P top
  rR : LiRuns_rR P top
  ct : LiRuns_ct P top
  ct2 : LiRuns_ct2 P top
  cE : LiRuns_cE P top
  m1 : LiRuns_m1 P top
  m2T : LiRuns_m2T P top
  m2F : LiRuns_m2F P top
  m3T : LiRuns_m3T P top
  m3F : LiRuns_m3F P top
  m4T : LiRuns_m4T P top
  m4F : LiRuns_m4F P top
end
end Mine

end
section
open PySem PySem.W PyProof.Rows
set_option Elab.async false
set_option maxHeartbeats 2000000
set_option genInjectivity false
set_option genSizeOfSpec false
namespace Mine
/-! the line of the clerks -/
noncomputable abbrev sgs (ks : List (Str × Nat)) : List Value := ks.map fun k => .str k.1 k.2
theorem at_stored {kvs : List (Str × Value)} {k x : Str} {v : Value} : valueAt (stored kvs k v) x = if x = k then some v else valueAt kvs x := by
  unfold stored
  split
  · rename_i h
    induction kvs with
    | nil => simp at h
    | cons a r ih =>
      unfold valueAt at ih ⊢
      simp only [List.map_cons, List.find?_cons]
      by_cases ha : a.1 = k
      · by_cases hx : x = k
        · subst hx; simp [ha]
        · have h1 : ¬ a.1 = x := by rw [ha]; exact fun q => hx q.symm
          simp only [ha, if_true, hx, if_false]
          have h2 : ¬ k = x := fun q => hx q.symm
          simp only [decide_eq_false h2]
          by_cases hr : r.any (fun kv => decide (kv.1 = k)) = true
          · simpa [hx] using ih hr
          · have : r.map (fun kv => if kv.1 = k then (kv.1, v) else kv) = r := by
              conv => rhs; rw [← List.map_id r]
              apply List.map_congr_left
              intro y hy
              have : ¬ y.1 = k := fun q => hr (List.any_eq_true.mpr ⟨y, hy, by simp [q]⟩)
              simp [this]
            rw [this]
      · have hr : r.any (fun kv => decide (kv.1 = k)) = true := by
          simp only [List.any_cons, ha, decide_false, Bool.false_or] at h; exact h
        by_cases hx : a.1 = x
        · have h2 : ¬ x = k := by rw [← hx]; exact ha
          simp [hx, h2]
        · simp only [ha, if_false, decide_eq_false hx]
          exact ih hr
  · rename_i h
    have hn : ∀ y ∈ kvs, ¬ y.1 = k := fun y hy q => h (List.any_eq_true.mpr ⟨y, hy, by simp [q]⟩)
    unfold valueAt
    rw [List.find?_append]
    by_cases hx : x = k
    · subst hx
      have : kvs.find? (fun kv => decide (kv.1 = x)) = none := List.find?_eq_none.mpr fun y hy => by simpa using hn y hy
      simp [this]
    · have h2 : ¬ k = x := fun q => hx q.symm
      simp [hx, h2]
theorem stored_len {kvs : List (Str × Value)} {k : Str} {v : Value} : (stored kvs k v).length ≤ kvs.length + 1 := by
  unfold stored; split <;> simp
theorem stored_len_in {kvs : List (Str × Value)} {k : Str} {v u : Value} (h : valueAt kvs k = some u) : (stored kvs k v).length = kvs.length := by
  unfold stored
  rw [if_pos]
  · simp
  · unfold valueAt at h
    cases hf : kvs.find? (fun kv => decide (kv.1 = k)) with
    | none => rw [hf] at h; cases h
    | some y => exact List.any_eq_true.mpr ⟨y, List.mem_of_find?_eq_some hf, by have := List.find?_some hf; simpa using this⟩
/-- the clerks in their line, and when each is free -/
structure LineOk (ks : List (Str × Nat)) (kvs : List (Str × Value)) (W : List Int) : Prop where
  len : ks.length = W.length
  nd : (ks.map (·.1)).Nodup
  val : ∀ (i : Nat) (k : Str × Nat) (x : Int), ks[i]? = some k → W[i]? = some x → ∃ t, valueAt kvs k.1 = some (.int x t)
theorem LineOk.step {k0 : Str × Nat} {ks : List (Str × Nat)} {kvs : List (Str × Value)} {w0 : Int} {W : List Int} (o : LineOk (k0 :: ks) kvs (w0 :: W)) (e : Int) (te : Nat) : LineOk (ks ++ [k0]) (stored kvs k0.1 (.int e te)) (W ++ [e]) := by
  have hl : ks.length = W.length := by have := o.len; simpa using this
  have nd : k0.1 ∉ ks.map (·.1) ∧ (ks.map (·.1)).Nodup := by have := o.nd; simpa using this
  refine ⟨by simp [hl], ?_, fun i k x h1 h2 => ?_⟩
  · rw [List.map_append, List.nodup_append]
    refine ⟨nd.2, by simp, fun a ha b hb => ?_⟩
    simp at hb
    intro q
    subst q hb
    exact nd.1 ha
  · rw [at_stored]
    rcases Nat.lt_or_ge i ks.length with hi | hi
    · rw [List.getElem?_append_left hi] at h1
      rw [List.getElem?_append_left (by (first | lia | omega))] at h2
      have hne : ¬ k.1 = k0.1 := fun q => nd.1 (q ▸ List.mem_map.mpr ⟨k, List.mem_of_getElem? h1, rfl⟩)
      rw [if_neg hne]
      exact o.val (i + 1) k x (by simpa using h1) (by simpa using h2)
    · rw [List.getElem?_append_right hi] at h1
      rw [List.getElem?_append_right (by (first | lia | omega)), ← hl] at h2
      cases hd : i - ks.length with
      | zero => rw [hd] at h1 h2; simp at h1 h2; subst h1 h2; exact ⟨te, by simp⟩
      | succ n => rw [hd] at h1; simp at h1
/-- the clerks as they come to the line at first -/
theorem LineOk.new {ks : List (Str × Nat)} {kvs : List (Str × Value)} {i : Nat} (o : LineOk ks kvs (List.replicate i 0)) {k : Str} (hk : k ∉ ks.map (·.1)) (tk te : Nat) : LineOk (ks ++ [(k, tk)]) (stored kvs k (.int 0 te)) (List.replicate (i + 1) 0) := by
  have hl : ks.length = i := by have := o.len; simpa using this
  refine ⟨by simp [hl], ?_, fun j k' x h1 h2 => ?_⟩
  · rw [List.map_append, List.nodup_append]
    refine ⟨o.nd, by simp, fun a ha b hb => ?_⟩
    simp at hb
    intro q
    subst q hb
    exact hk ha
  · have hx : x = 0 := List.eq_of_mem_replicate (List.mem_of_getElem? h2)
    subst hx
    rw [at_stored]
    rcases Nat.lt_or_ge j ks.length with hi | hi
    · rw [List.getElem?_append_left hi] at h1
      have hne : ¬ k'.1 = k := fun q => hk (q ▸ List.mem_map.mpr ⟨k', List.mem_of_getElem? h1, rfl⟩)
      rw [if_neg hne]
      exact o.val j k' 0 h1 (by rw [List.getElem?_replicate, if_pos (by (first | lia | omega))])
    · rw [List.getElem?_append_right hi] at h1
      cases hd : j - ks.length with
      | zero => rw [hd] at h1; simp at h1; subst h1; exact ⟨te, by simp⟩
      | succ n => rw [hd] at h1; simp at h1
end Mine

end
section
open PySem PySem.W PySem.W.X PyProof.Rows
set_option maxRecDepth 100000
set_option Elab.async false
set_option maxHeartbeats 2000000
set_option genInjectivity false
set_option genSizeOfSpec false
namespace Mine
noncomputable section
theorem Chg.kp {h h' : Heap} {ls : List Nat} (c : Chg h h' ls) {a : Nat} {o : Obj} (ho : h.get? a = some o) (hn : a ∉ ls) : h'.get? a = some o := c.keep a o ho hn
section
variable {P : Params} {top : Nat → Option Obj} {w : World} {A : Around} {R : Result → Shared → Prop} {g : Array GenState} {dr : Drawn} {os : OsState}
theorem csign_new {ks : List (Str × Nat)} {i : Nat} (h : ks.map (·.1) = (List.range i).map csign) : csign i ∉ ks.map (·.1) := by
  rw [h]
  intro q
  obtain ⟨j, hj, e⟩ := List.mem_map.mp q
  have hj' : j < i := List.mem_range.mp hj
  have e2 : ([119 + j] : List Nat) = [119 + i] := congrArg (fun s : Str => s.cps.toList) e
  have e3 : 119 + j = 119 + i := by simpa using e2
  (first | lia | omega)
theorem pre_nil {h : Heap} (T : TopOk top h) : Pre top h [] := ⟨T, fun p hp => (nomatch hp), by simp, fun p hp => (nomatch hp)⟩
theorem clerk_loop (hP : P = w.params) (Z : LiRuns P top) (sep : TopSep top) {nr : Nat} (a : Rm A nr) (ha : nr ≤ 370) {fr lx ld pb it fd jl tc ts tk c : Nat} {s : Int} {ln ins ws : Value} (hc : 1 ≤ c) (hc4 : c ≤ 4) (o1 : 143 ≤ fr) (o2 : fr < ld) (o3 : ld < lx) (o4 : lx < pb) (o5 : pb < fd) (o6 : fd < it) :
    ∀ (n i : Nat) (ck : Option Value) (ks : List (Str × Nat)) (kvs : List (Str × Value)) (e : Nat) (h : Heap) (t₀ : Nat), i + n = c → (i = 0 ∨ ck.isSome = true) → it < h.objs.size → TopOk top h → IsDic h fr "frame" (vs3 jl (.ofNat c) tc s ts (exLF lx fd (exK ck []))) → h.get? lx = some (lxO ld) → IsDic h ld "dict" (vsD ln ins ws pb) → h.get? pb = some (lsO (sgs ks) e) → h.get? it = some (siO (cstr c) tk (.ofNat i)) → h.DictOf (stK w) fd kvs →
      ks.map (·.1) = (List.range i).map csign → LineOk ks kvs (List.replicate i 0) → kvs.length ≤ i →
      (∀ h' t' ck' ks' kvs' e', IsDic h' fr "frame" (vs3 jl (.ofNat c) tc s ts (exLF lx fd (exK (some ck') []))) → h'.get? lx = some (lxO ld) → IsDic h' ld "dict" (vsD ln ins ws pb) → h'.get? pb = some (lsO (sgs ks') e') → h'.DictOf (stK w) fd kvs' → LineOk ks' kvs' (List.replicate c 0) → kvs'.length ≤ 4 → Chg h h' [fr, ld, lx, pb, fd, it] → R (.ok .next) ⟨h', g, dr, t', os⟩) →
      codeAny (Md w) A (loopC top 123 0 fr [] (.ref it)) R ⟨h, g, dr, t₀, os⟩ := by
  have so : Ds [fr, ld, lx, pb, fd, it] := Asc.ds (f := 142) ⟨o1, o2, o3, o4, o5, o6, trivial⟩ (by decide)
  have x0 : Ix [fr, ld, lx, pb, fd, it] (fr) 0 := ix0
  have x1 : Ix [fr, ld, lx, pb, fd, it] (ld) 1 := ixs ix0
  have x2 : Ix [fr, ld, lx, pb, fd, it] (lx) 2 := ixs (ixs ix0)
  have x3 : Ix [fr, ld, lx, pb, fd, it] (pb) 3 := ixs (ixs (ixs ix0))
  have x4 : Ix [fr, ld, lx, pb, fd, it] (fd) 4 := ixs (ixs (ixs (ixs ix0)))
  have x5 : Ix [fr, ld, lx, pb, fd, it] (it) 5 := ixs (ixs (ixs (ixs (ixs ix0))))
  intro n
  induction n with
  | zero =>
    intro i ck ks kvs e h t₀ hi hck hsz T hfr hlx hld hpb hit hfd hks ok hkl X
    have hic : i = c := by (first | lia | omega)
    subst hic
    obtain ⟨tg, b, env, eq⟩ := is_for (Z.shape0 fr (.ref it))
    rw [eq]
    refine code_fin (pre_one T hit (by (first | lia | omega))) sep hP a (by (first | lia | omega)) rfl (Z.cE i hc hc4 _ t₀ tg b env it tk) trivial fun h1 B1 => ?_
    have c1 : Chg h h1 [it] := B1.chg
    obtain ⟨x, hx⟩ : ∃ x, ck = some x := by
      rcases hck with h0 | h0
      · (first | lia | omega)
      · cases ck with
        | none => cases h0
        | some x => exact ⟨x, rfl⟩
    subst hx
    obtain ⟨aux, ep, hfr⟩ := hfr
    obtain ⟨aux2, ep2, hld⟩ := hld
    refine X h1 _ x ks kvs e ⟨aux, ep, c1.kp hfr (by first | ((apply so.notin <;> repeat' (first | assumption | exact Ixs.nil | apply Ixs.cons | exact rfl)); done) | ((apply so.lows <;> repeat' (first | assumption | exact Ixs.nil | apply Ixs.cons | exact rfl)); done) | (simp; (first | lia | omega)))⟩ (c1.kp hlx (by first | ((apply so.notin <;> repeat' (first | assumption | exact Ixs.nil | apply Ixs.cons | exact rfl)); done) | ((apply so.lows <;> repeat' (first | assumption | exact Ixs.nil | apply Ixs.cons | exact rfl)); done) | (simp; (first | lia | omega)))) ⟨aux2, ep2, c1.kp hld (by first | ((apply so.notin <;> repeat' (first | assumption | exact Ixs.nil | apply Ixs.cons | exact rfl)); done) | ((apply so.lows <;> repeat' (first | assumption | exact Ixs.nil | apply Ixs.cons | exact rfl)); done) | (simp; (first | lia | omega)))⟩ (c1.kp hpb (by first | ((apply so.notin <;> repeat' (first | assumption | exact Ixs.nil | apply Ixs.cons | exact rfl)); done) | ((apply so.lows <;> repeat' (first | assumption | exact Ixs.nil | apply Ixs.cons | exact rfl)); done) | (simp; (first | lia | omega)))) (hfd.at fun o ho => c1.kp ho (by first | ((apply so.notin <;> repeat' (first | assumption | exact Ixs.nil | apply Ixs.cons | exact rfl)); done) | ((apply so.lows <;> repeat' (first | assumption | exact Ixs.nil | apply Ixs.cons | exact rfl)); done) | (simp; (first | lia | omega)))) ok (by (first | lia | omega)) (by first | exact Chg.cut c1 (by (repeat' (first | exact Cut.nil | refine Cut.kept ix0 ?_ | refine Cut.kept (ixs ix0) ?_ | refine Cut.kept (ixs (ixs ix0)) ?_ | refine Cut.kept (ixs (ixs (ixs ix0))) ?_ | refine Cut.kept (ixs (ixs (ixs (ixs ix0)))) ?_ | refine Cut.kept (ixs (ixs (ixs (ixs (ixs ix0))))) ?_ | refine Cut.kept (ixs (ixs (ixs (ixs (ixs (ixs ix0)))))) ?_ | refine Cut.kept (ixs (ixs (ixs (ixs (ixs (ixs (ixs ix0))))))) ?_ | refine Cut.kept (ixs (ixs (ixs (ixs (ixs (ixs (ixs (ixs ix0)))))))) ?_ | refine Cut.fresh (by (first | lia | omega)) ?_)); done) | exact Chg.drop c1 fun b hb hn => by simp at hb hn; (first | lia | omega))
  | succ n ih =>
    intro i ck ks kvs e h t₀ hi hck hsz T hfr hlx hld hpb hit hfd hks ok hkl X
    obtain ⟨aux, ep, hfr⟩ := hfr
    obtain ⟨aux2, ep2, hld⟩ := hld
    obtain ⟨es, ed, hfo⟩ := dict_obj hfd
    have hkn : ks.length = i := by have := ok.len; simpa using this
    let S : Lc := ⟨fr, lx, ld, pb, it, fd, jl, tc, s, ts, ln, ins, ws, sgs ks, e, tk, es, ed⟩
    have pre : Pre top h (S.L c i ck aux ep aux2 ep2) := by
      exact so.pre T ⟨hfr, hlx, hld, hpb, hit, hfo, trivial⟩ (by repeat' (first | assumption | exact Ixs.nil | apply Ixs.cons | exact rfl)) rfl
    refine code_stop pre sep hP a (by (first | lia | omega)) (ok_for (Z.shape0 fr (.ref it))) (Z.ct S c i hc4 (by (first | lia | omega)) _ t₀ ck aux ep aux2 ep2) ⟨by simp [S]; (first | lia | omega), trivial⟩ fun h1 B1 A' a' => ?_
    have s1 := B1.size
    have c1 : Chg h h1 [fr, ld, pb, it] := Chg.cut B1.chg (by (repeat' (first | exact Cut.nil | refine Cut.kept ix0 ?_ | refine Cut.kept (ixs ix0) ?_ | refine Cut.kept (ixs (ixs ix0)) ?_ | refine Cut.kept (ixs (ixs (ixs ix0))) ?_ | refine Cut.kept (ixs (ixs (ixs (ixs ix0)))) ?_ | refine Cut.kept (ixs (ixs (ixs (ixs (ixs ix0))))) ?_ | refine Cut.kept (ixs (ixs (ixs (ixs (ixs (ixs ix0)))))) ?_ | refine Cut.kept (ixs (ixs (ixs (ixs (ixs (ixs (ixs ix0))))))) ?_ | refine Cut.kept (ixs (ixs (ixs (ixs (ixs (ixs (ixs (ixs ix0)))))))) ?_ | refine Cut.same hlx (B1.at 0 rfl) ?_ | refine Cut.same hfo (B1.at 3 rfl) ?_ | refine Cut.fresh (by (first | lia | omega)) ?_)))
    have T1 : TopOk top h1 := T.chg sep c1 (by first | ((apply so.notin <;> repeat' (first | assumption | exact Ixs.nil | apply Ixs.cons | exact rfl)); done) | ((apply so.lows <;> repeat' (first | assumption | exact Ixs.nil | apply Ixs.cons | exact rfl)); done) | (simp; (first | lia | omega)))
    have hfd1 : h1.DictOf (stK w) fd kvs := hfd.at fun o ho => c1.kp ho (by first | ((apply so.notin <;> repeat' (first | assumption | exact Ixs.nil | apply Ixs.cons | exact rfl)); done) | ((apply so.lows <;> repeat' (first | assumption | exact Ixs.nil | apply Ixs.cons | exact rfl)); done) | (simp; (first | lia | omega)))
    refine dset_spec hfd1 (by (first | lia | omega)) fun h2 hfd2 c2 => ?_
    have c2 : Chg h1 h2 [fd] := c2
    have hfd2 : h2.DictOf (stK w) fd (stored kvs (csign i) (.int 0 (t₀ + 5))) := hfd2
    have T2 : TopOk top h2 := T1.chg sep c2 (by first | ((apply so.notin <;> repeat' (first | assumption | exact Ixs.nil | apply Ixs.cons | exact rfl)); done) | ((apply so.lows <;> repeat' (first | assumption | exact Ixs.nil | apply Ixs.cons | exact rfl)); done) | (simp; (first | lia | omega)))
    refine res_again (L := []) (pre_nil T2) sep hP a (by (first | lia | omega)) (Z.ct2 S c i hc4 (by (first | lia | omega)) _ t₀ ck aux ep aux2 ep2 _ _) trivial fun h3 B3 => ?_
    have c3 : Chg h2 h3 [] := B3.chg
    have s2 := c2.size
    have s3 := c3.size
    have T3 : TopOk top h3 := T2.chg sep c3 (by simp)
    have c13 : Chg h1 h3 [fd] := (by first | exact Chg.cut (c2.trans c3) (by (repeat' (first | exact Cut.nil | refine Cut.kept ix0 ?_ | refine Cut.kept (ixs ix0) ?_ | refine Cut.kept (ixs (ixs ix0)) ?_ | refine Cut.kept (ixs (ixs (ixs ix0))) ?_ | refine Cut.kept (ixs (ixs (ixs (ixs ix0)))) ?_ | refine Cut.kept (ixs (ixs (ixs (ixs (ixs ix0))))) ?_ | refine Cut.kept (ixs (ixs (ixs (ixs (ixs (ixs ix0)))))) ?_ | refine Cut.kept (ixs (ixs (ixs (ixs (ixs (ixs (ixs ix0))))))) ?_ | refine Cut.kept (ixs (ixs (ixs (ixs (ixs (ixs (ixs (ixs ix0)))))))) ?_ | refine Cut.fresh (by (first | lia | omega)) ?_)); done) | exact Chg.drop (c2.trans c3) fun b hb hn => by simp at hb hn; (first | lia | omega))
    have c03 : Chg h h3 [fr, ld, lx, pb, fd, it] := (by first | exact Chg.cut (c1.trans c13) (by (repeat' (first | exact Cut.nil | refine Cut.kept ix0 ?_ | refine Cut.kept (ixs ix0) ?_ | refine Cut.kept (ixs (ixs ix0)) ?_ | refine Cut.kept (ixs (ixs (ixs ix0))) ?_ | refine Cut.kept (ixs (ixs (ixs (ixs ix0)))) ?_ | refine Cut.kept (ixs (ixs (ixs (ixs (ixs ix0))))) ?_ | refine Cut.kept (ixs (ixs (ixs (ixs (ixs (ixs ix0)))))) ?_ | refine Cut.kept (ixs (ixs (ixs (ixs (ixs (ixs (ixs ix0))))))) ?_ | refine Cut.kept (ixs (ixs (ixs (ixs (ixs (ixs (ixs (ixs ix0)))))))) ?_ | refine Cut.fresh (by (first | lia | omega)) ?_)); done) | exact Chg.drop (c1.trans c13) fun b hb hn => by simp at hb hn; (first | lia | omega))
    obtain ⟨aux3, ep3, hfr3⟩ := B1.dicAt 0 rfl
    obtain ⟨aux4, ep4, hld4⟩ := B1.dicAt 1 rfl
    have hlx1 : h1.get? lx = some (lxO ld) := B1.at 0 rfl
    have hpb1 : h1.get? pb = some (lsO (sgs (ks ++ [(csign i, t₀)])) (e + 1)) := by
      have q : h1.get? pb = some (lsO (sgs ks ++ [.str (csign i) t₀]) (e + 1)) := B1.at 1 rfl
      rw [q]; simp
    have hit1 : h1.get? it = some (siO (cstr c) tk (.ofNat (i + 1))) := B1.at 2 rfl
    refine ih (i + 1) (some (.str (csign i) t₀)) (ks ++ [(csign i, t₀)]) (stored kvs (csign i) (.int 0 (t₀ + 5))) (e + 1) h3 _ (by (first | lia | omega)) (.inr rfl) (by (first | lia | omega)) T3 ⟨aux3, ep3, c13.kp (a := fr) hfr3 (by first | ((apply so.notin <;> repeat' (first | assumption | exact Ixs.nil | apply Ixs.cons | exact rfl)); done) | ((apply so.lows <;> repeat' (first | assumption | exact Ixs.nil | apply Ixs.cons | exact rfl)); done) | (simp; (first | lia | omega)))⟩ (c13.kp hlx1 (by first | ((apply so.notin <;> repeat' (first | assumption | exact Ixs.nil | apply Ixs.cons | exact rfl)); done) | ((apply so.lows <;> repeat' (first | assumption | exact Ixs.nil | apply Ixs.cons | exact rfl)); done) | (simp; (first | lia | omega)))) ⟨aux4, ep4, c13.kp (a := ld) hld4 (by first | ((apply so.notin <;> repeat' (first | assumption | exact Ixs.nil | apply Ixs.cons | exact rfl)); done) | ((apply so.lows <;> repeat' (first | assumption | exact Ixs.nil | apply Ixs.cons | exact rfl)); done) | (simp; (first | lia | omega)))⟩ (c13.kp hpb1 (by first | ((apply so.notin <;> repeat' (first | assumption | exact Ixs.nil | apply Ixs.cons | exact rfl)); done) | ((apply so.lows <;> repeat' (first | assumption | exact Ixs.nil | apply Ixs.cons | exact rfl)); done) | (simp; (first | lia | omega)))) (c13.kp hit1 (by first | ((apply so.notin <;> repeat' (first | assumption | exact Ixs.nil | apply Ixs.cons | exact rfl)); done) | ((apply so.lows <;> repeat' (first | assumption | exact Ixs.nil | apply Ixs.cons | exact rfl)); done) | (simp; (first | lia | omega)))) (hfd2.at fun o ho => c3.kp ho (by simp)) ?_ (ok.new (csign_new hks) _ _) ?_ ?_
    · rw [List.map_append, hks, List.range_succ, List.map_append]; rfl
    · have := stored_len (kvs := kvs) (k := csign i) (v := .int 0 (t₀ + 5)); (first | lia | omega)
    · intro h' t' ck' ks' kvs' e' g1 g2 g3 g4 g5 g6 g7 g8
      exact X h' t' ck' ks' kvs' e' g1 g2 g3 g4 g5 g6 g7 (by first | exact Chg.cut (c03.trans g8) (by (repeat' (first | exact Cut.nil | refine Cut.kept ix0 ?_ | refine Cut.kept (ixs ix0) ?_ | refine Cut.kept (ixs (ixs ix0)) ?_ | refine Cut.kept (ixs (ixs (ixs ix0))) ?_ | refine Cut.kept (ixs (ixs (ixs (ixs ix0)))) ?_ | refine Cut.kept (ixs (ixs (ixs (ixs (ixs ix0))))) ?_ | refine Cut.kept (ixs (ixs (ixs (ixs (ixs (ixs ix0)))))) ?_ | refine Cut.kept (ixs (ixs (ixs (ixs (ixs (ixs (ixs ix0))))))) ?_ | refine Cut.kept (ixs (ixs (ixs (ixs (ixs (ixs (ixs (ixs ix0)))))))) ?_ | refine Cut.fresh (by (first | lia | omega)) ?_)); done) | exact Chg.drop (c03.trans g8) fun b hb hn => by simp at hb hn; (first | lia | omega))
theorem line_loop (hP : P = w.params) (Z : LiRuns P top) (En : EnRuns P top) (sep : TopSep top) {nr : Nat} (a : Rm A nr) (ha : nr ≤ 370) {jl fr lx ld pb it fd dn ej tc ts c : Nat} {s : Int} {tl : List Nat} {js : List Job} {ln ins ws : Value} (hc : 1 ≤ c) (hc4 : c ≤ 4) (hs : 0 ≤ s) (h4 : 4 ≤ js.length) (h7 : js.length ≤ 7) (o1 : 143 ≤ fr) (hjl : jl < fr) (htl : ∀ t ∈ tl, t < fr) (o2 : fr < ld) (o3 : ld < lx) (o4 : lx < pb) (o5 : pb < fd) (o6 : fd < dn) (o7 : dn < it) :
    ∀ (rest : List Job) (k : Nat) (ks : List (Str × Nat)) (kvs : List (Str × Value)) (ds : List Nat) (D : List Job) (ck : Value) (ex : Option (Value × Value)) (h : Heap) (t₀ e ed : Nat) (p : Int), js.drop k = rest → k ≤ js.length → it < h.objs.size → TopOk top h → Jobs h jl tl js ej → IsDic h fr "frame" (vs3 jl (.ofNat c) tc s ts (exLF lx fd (exK (some ck) (exDn dn (exHN ex))))) → h.get? lx = some (lxO ld) → IsDic h ld "dict" (vsD ln ins ws pb) → h.get? pb = some (lsO (sgs ks) e) → h.DictOf (stK w) fd kvs → Jobs h dn ds D ed → h.get? it = some (itO jl (.ofNat k) 0) →
      LineOk ks kvs (win c (hrs D)) → kvs.length ≤ 4 → ds.length = k → DeskOk c s (hrs D) p → 0 ≤ p → Up (p :: hrs rest) → (∀ t ∈ ds, it < t) →
      (∀ h' t' ck' ex' ds' D' ed', IsDic h' fr "frame" (vs3 jl (.ofNat c) tc s ts (exLF lx fd (exK (some ck') (exDn dn (exHN ex'))))) → Jobs h' dn ds' D' ed' → hrs D' = deskGo c s (hrs D) (hrs rest) → nms D' = nms D ++ nms rest → Chg h h' [fr, ld, lx, pb, fd, dn, it] → R (.ok .next) ⟨h', g, dr, t', os⟩) →
      codeAny (Md w) A (loopC top 123 1 fr [] (.ref it)) R ⟨h, g, dr, t₀, os⟩ := by
  have so : Ds [fr, ld, lx, pb, fd, dn, it] := Asc.ds (f := 142) ⟨o1, o2, o3, o4, o5, o6, o7, trivial⟩ (by decide)
  have x0 : Ix [fr, ld, lx, pb, fd, dn, it] (fr) 0 := ix0
  have x1 : Ix [fr, ld, lx, pb, fd, dn, it] (ld) 1 := ixs ix0
  have x2 : Ix [fr, ld, lx, pb, fd, dn, it] (lx) 2 := ixs (ixs ix0)
  have x3 : Ix [fr, ld, lx, pb, fd, dn, it] (pb) 3 := ixs (ixs (ixs ix0))
  have x4 : Ix [fr, ld, lx, pb, fd, dn, it] (fd) 4 := ixs (ixs (ixs (ixs ix0)))
  have x5 : Ix [fr, ld, lx, pb, fd, dn, it] (dn) 5 := ixs (ixs (ixs (ixs (ixs ix0))))
  have x6 : Ix [fr, ld, lx, pb, fd, dn, it] (it) 6 := ixs (ixs (ixs (ixs (ixs (ixs ix0)))))
  intro rest
  induction rest with
  | nil =>
    intro k ks kvs ds D ck ex h t₀ e ed p hd hkj hsz T J hfr hlx hld hpb hfd hdn hit hln hkl' hk ok hp up hds X
    obtain ⟨tg, b, env, eq⟩ := is_for (Z.shape1 fr (.ref it))
    rw [eq]
    have hkl : k = js.length := by
      have h1 : js.length ≤ k := by simpa using hd
      (first | lia | omega)
    have hlen : (rfs tl).length = k := by simp [J.len, hkl]
    refine for_end hP En sep T a (by (first | lia | omega)) J.list (by rw [hlen]; exact hit) J.low (by (first | lia | omega)) (by (first | lia | omega)) (by (first | lia | omega)) fun h' t' c' => ?_
    obtain ⟨aux, ep, hfr⟩ := hfr
    refine X h' t' ck ex ds D ed ⟨aux, ep, c'.kp hfr (by first | ((apply so.notin <;> repeat' (first | assumption | exact Ixs.nil | apply Ixs.cons | exact rfl)); done) | ((apply so.lows <;> repeat' (first | assumption | exact Ixs.nil | apply Ixs.cons | exact rfl)); done) | (simp; (first | lia | omega)))⟩ (hdn.chg c' (by first | ((apply so.notin <;> repeat' (first | assumption | exact Ixs.nil | apply Ixs.cons | exact rfl)); done) | ((apply so.lows <;> repeat' (first | assumption | exact Ixs.nil | apply Ixs.cons | exact rfl)); done) | (simp; (first | lia | omega))) (fun t ht => by have := hds t ht; simp; (first | lia | omega))) rfl (by simp) (by first | exact Chg.cut c' (by (repeat' (first | exact Cut.nil | refine Cut.kept ix0 ?_ | refine Cut.kept (ixs ix0) ?_ | refine Cut.kept (ixs (ixs ix0)) ?_ | refine Cut.kept (ixs (ixs (ixs ix0))) ?_ | refine Cut.kept (ixs (ixs (ixs (ixs ix0)))) ?_ | refine Cut.kept (ixs (ixs (ixs (ixs (ixs ix0))))) ?_ | refine Cut.kept (ixs (ixs (ixs (ixs (ixs (ixs ix0)))))) ?_ | refine Cut.kept (ixs (ixs (ixs (ixs (ixs (ixs (ixs ix0))))))) ?_ | refine Cut.kept (ixs (ixs (ixs (ixs (ixs (ixs (ixs (ixs ix0)))))))) ?_ | refine Cut.fresh (by (first | lia | omega)) ?_)); done) | exact Chg.drop c' fun b hb hn => by simp at hb hn; (first | lia | omega))
  | cons j rest ih =>
    intro k ks kvs ds D ck ex h t₀ e ed p hd hkj hsz T J hfr hlx hld hpb hfd hdn hit hln hkl' hk ok hp up hds X
    obtain ⟨aux, ep, hfr⟩ := hfr
    obtain ⟨aux1, ep1, hld⟩ := hld
    obtain ⟨es, ee, hfo⟩ := dict_obj hfd
    have hj : js[k]? = some j := by have := congrArg List.head? hd; simpa using this
    have hkl : k < js.length := (List.getElem?_eq_some_iff.mp hj).1
    have hkt : k < tl.length := by have := J.len; (first | lia | omega)
    obtain ⟨tj, htj⟩ : ∃ tj, tl[k]? = some tj := ⟨_, List.getElem?_eq_getElem hkt⟩
    have htj' := J.tup k tj j htj hj
    have htB : tj < fr := htl tj (List.mem_of_getElem? htj)
    have hjt : jl ≠ tj := lsO_ne_tuO J.list htj'.1
    have hjp : p ≤ j.1.1 := up 0 1 _ _ (by decide) rfl rfl
    have hlD : D.length = k := by rw [← hdn.len]; exact hk
    have Jl := J.low
    have hd' : js.drop (k + 1) = rest := by rw [← List.drop_drop, hd]; rfl
    have hwl : (win c (hrs D)).length = c := by simp [win]
    have hkc : ks.length = c := by rw [hln.len]; exact hwl
    obtain ⟨k0, kr, rfl⟩ : ∃ k0 kr, ks = k0 :: kr := by cases ks with | nil => simp at hkc; (first | lia | omega) | cons x r => exact ⟨x, r, rfl⟩
    obtain ⟨w0, W, hW⟩ : ∃ w0 W, win c (hrs D) = w0 :: W := by cases hq : win c (hrs D) with | nil => rw [hq] at hwl; simp at hwl; (first | lia | omega) | cons x r => exact ⟨x, r, rfl⟩
    rw [hW] at hln
    have hw0 : w0 = lastZ c (hrs D) := by have := win_head (D := hrs D) hc; rw [hW] at this; simpa using this
    obtain ⟨tf, hv⟩ := hln.val 0 k0 w0 rfl rfl
    have hkr : kr.length + 1 = c := by simpa using hkc
    have hxl : (sgs kr).length + 1 = c := by simpa using hkc
    let S : Lm := ⟨jl, fr, lx, ld, pb, it, dn, tj, fd, tl, ej, tc, s, ts, ln, ins, ws, k0.1, k0.2, e, rfs ds, ed, k, j⟩
    have pre : Pre top h (S.L1 c (sgs kr) ck ex aux ep aux1 ep1 es ee) := by
      have s2 : Ds (tj :: jl :: [fr, ld, lx, pb, fd, dn, it]) := (so.cons (Asc.nmem ⟨hjl, o2, o3, o4, o5, o6, o7, trivial⟩) (.inr (.inr J.low))).cons (fun hm => (List.mem_cons.mp hm).elim hjt.symm (Asc.nmem (l := [fr, ld, lx, pb, fd, dn, it]) ⟨htB, o2, o3, o4, o5, o6, o7, trivial⟩)) (.inr (.inr htj'.2))
      exact s2.pre T ⟨J.list, hfr, hlx, hld, hpb, hit, hdn.list, htj'.1, hfo, trivial⟩ (by repeat' (first | exact ix0 | apply ixs | exact Ixs.nil | apply Ixs.cons)) rfl
    refine code_stop pre sep hP a (by (first | lia | omega)) (ok_for (Z.shape1 fr (.ref it))) (Z.m1 S c (sgs kr) hc hc4 hxl _ t₀ ck ex aux ep aux1 ep1 es ee) ⟨by simp [S, htj], trivial⟩ fun h1 B1 A' a' => ?_
    have s1 := B1.size
    have c1 : Chg h h1 [fr, ld, pb, it] := Chg.cut B1.chg (by (repeat' (first | exact Cut.nil | refine Cut.kept ix0 ?_ | refine Cut.kept (ixs ix0) ?_ | refine Cut.kept (ixs (ixs ix0)) ?_ | refine Cut.kept (ixs (ixs (ixs ix0))) ?_ | refine Cut.kept (ixs (ixs (ixs (ixs ix0)))) ?_ | refine Cut.kept (ixs (ixs (ixs (ixs (ixs ix0))))) ?_ | refine Cut.kept (ixs (ixs (ixs (ixs (ixs (ixs ix0)))))) ?_ | refine Cut.kept (ixs (ixs (ixs (ixs (ixs (ixs (ixs ix0))))))) ?_ | refine Cut.kept (ixs (ixs (ixs (ixs (ixs (ixs (ixs (ixs ix0)))))))) ?_ | refine Cut.same J.list (B1.at 0 rfl) ?_ | refine Cut.same hlx (B1.at 1 rfl) ?_ | refine Cut.same hdn.list (B1.at 4 rfl) ?_ | refine Cut.same htj'.1 (B1.at 5 rfl) ?_ | refine Cut.same hfo (B1.at 6 rfl) ?_ | refine Cut.fresh (by (first | lia | omega)) ?_)))
    have T1 : TopOk top h1 := T.chg sep c1 (by first | ((apply so.notin <;> repeat' (first | assumption | exact Ixs.nil | apply Ixs.cons | exact rfl)); done) | ((apply so.lows <;> repeat' (first | assumption | exact Ixs.nil | apply Ixs.cons | exact rfl)); done) | (simp; (first | lia | omega)))
    have hfd1 : h1.DictOf (stK w) fd kvs := hfd.at fun o ho => c1.kp ho (by first | ((apply so.notin <;> repeat' (first | assumption | exact Ixs.nil | apply Ixs.cons | exact rfl)); done) | ((apply so.lows <;> repeat' (first | assumption | exact Ixs.nil | apply Ixs.cons | exact rfl)); done) | (simp; (first | lia | omega)))
    obtain ⟨aux2, ep2, hfr1⟩ := B1.dicAt 0 rfl
    obtain ⟨aux4, ep4, hld1⟩ := B1.dicAt 1 rfl
    have hpb1 : h1.get? pb = some (lsO (sgs kr) (e + 1)) := B1.at 2 rfl
    have hit1 : h1.get? it = some (itO jl (.ofNat (k + 1)) 0) := B1.at 3 rfl
    have hfo1 : h1.get? fd = some (dcO es ee) := B1.at 6 rfl
    refine dget_spec hfd1 hv ?_
    have pre2 : Pre top h1 (S.L2 c aux2 ep2 es ee) := pre_two T1 hfr1 hfo1 o1 (show 143 ≤ fd by (first | lia | omega)) (show fr ≠ fd by (first | lia | omega))
    have key : ∀ (q : Nat) (bg : Int) (cs : List Prop), (∀ U : Lt, U.f0 = w0 → liM2 P top S c (sgs kr) ex U q bg cs) → (∀ U, liM3 P top S c (sgs kr) ex U q) → (∀ U, liM4 P top S c (sgs kr) ex U q) → AllC cs → max j.1.1 (lastZ c (hrs D)) = bg →
        Resume (Lm.R1 P top h.objs.size t₀ S (S.L1 c (sgs kr) ck ex aux ep aux1 ep1 es ee)) w A R (.ok (.ret (.int w0 tf))) ⟨h1, g, dr, t₀ + 9 + 1, os⟩ := by
      intro q bg cs r2 r3 r4 hcs hbg
      refine res_stop pre2 sep hP a (by (first | lia | omega)) (r2 ⟨h.objs.size, t₀, ck, aux, ep, aux1, ep1, es, ee, w0, tf, h1.objs.size, t₀ + 9 + 1, aux2, ep2, es, ee, 0, 0, aux, 0, aux, 0, [], 0, es, 0, 0, 0, aux, 0, 0, 0⟩ rfl) hcs fun h2 B2 A2 a2 => ?_
      have s2 := B2.size
      have c2 : Chg h1 h2 [fr] := Chg.cut B2.chg (by (repeat' (first | exact Cut.nil | refine Cut.kept ix0 ?_ | refine Cut.kept (ixs ix0) ?_ | refine Cut.kept (ixs (ixs ix0)) ?_ | refine Cut.kept (ixs (ixs (ixs ix0))) ?_ | refine Cut.kept (ixs (ixs (ixs (ixs ix0)))) ?_ | refine Cut.kept (ixs (ixs (ixs (ixs (ixs ix0))))) ?_ | refine Cut.kept (ixs (ixs (ixs (ixs (ixs (ixs ix0)))))) ?_ | refine Cut.kept (ixs (ixs (ixs (ixs (ixs (ixs (ixs ix0))))))) ?_ | refine Cut.kept (ixs (ixs (ixs (ixs (ixs (ixs (ixs (ixs ix0)))))))) ?_ | refine Cut.same hfo1 (B2.at 0 rfl) ?_ | refine Cut.fresh (by (first | lia | omega)) ?_)))
      have T2 : TopOk top h2 := T1.chg sep c2 (by first | ((apply so.notin <;> repeat' (first | assumption | exact Ixs.nil | apply Ixs.cons | exact rfl)); done) | ((apply so.lows <;> repeat' (first | assumption | exact Ixs.nil | apply Ixs.cons | exact rfl)); done) | (simp; (first | lia | omega)))
      have hfd2 : h2.DictOf (stK w) fd kvs := hfd1.at fun o ho => c2.kp ho (by first | ((apply so.notin <;> repeat' (first | assumption | exact Ixs.nil | apply Ixs.cons | exact rfl)); done) | ((apply so.lows <;> repeat' (first | assumption | exact Ixs.nil | apply Ixs.cons | exact rfl)); done) | (simp; (first | lia | omega)))
      refine dset_spec hfd2 (by (first | lia | omega)) fun h3 hfd3 c3 => ?_
      have c3 : Chg h2 h3 [fd] := c3
      have hfd3 : h3.DictOf (stK w) fd (stored kvs k0.1 (.int (bg + s) (t₀ + 9 + 1))) := hfd3
      have T3 : TopOk top h3 := T2.chg sep c3 (by first | ((apply so.notin <;> repeat' (first | assumption | exact Ixs.nil | apply Ixs.cons | exact rfl)); done) | ((apply so.lows <;> repeat' (first | assumption | exact Ixs.nil | apply Ixs.cons | exact rfl)); done) | (simp; (first | lia | omega)))
      have s3 := c3.size
      obtain ⟨es3, ee3, hfo3⟩ := dict_obj hfd3
      obtain ⟨aux3, ep3, hfr3⟩ := B2.dicAt 0 rfl
      have hfr3 := c3.kp (a := fr) hfr3 (by first | ((apply so.notin <;> repeat' (first | assumption | exact Ixs.nil | apply Ixs.cons | exact rfl)); done) | ((apply so.lows <;> repeat' (first | assumption | exact Ixs.nil | apply Ixs.cons | exact rfl)); done) | (simp; (first | lia | omega)))
      have c13 : Chg h1 h3 [fr, fd] := (by first | exact Chg.cut (c2.trans c3) (by (repeat' (first | exact Cut.nil | refine Cut.kept ix0 ?_ | refine Cut.kept (ixs ix0) ?_ | refine Cut.kept (ixs (ixs ix0)) ?_ | refine Cut.kept (ixs (ixs (ixs ix0))) ?_ | refine Cut.kept (ixs (ixs (ixs (ixs ix0)))) ?_ | refine Cut.kept (ixs (ixs (ixs (ixs (ixs ix0))))) ?_ | refine Cut.kept (ixs (ixs (ixs (ixs (ixs (ixs ix0)))))) ?_ | refine Cut.kept (ixs (ixs (ixs (ixs (ixs (ixs (ixs ix0))))))) ?_ | refine Cut.kept (ixs (ixs (ixs (ixs (ixs (ixs (ixs (ixs ix0)))))))) ?_ | refine Cut.fresh (by (first | lia | omega)) ?_)); done) | exact Chg.drop (c2.trans c3) fun b hb hn => by simp at hb hn; (first | lia | omega))
      have hlx1 : h1.get? lx = some (lxO ld) := B1.at 1 rfl
      have hlx3 := c13.kp hlx1 (by first | ((apply so.notin <;> repeat' (first | assumption | exact Ixs.nil | apply Ixs.cons | exact rfl)); done) | ((apply so.lows <;> repeat' (first | assumption | exact Ixs.nil | apply Ixs.cons | exact rfl)); done) | (simp; (first | lia | omega)))
      have hld3 := c13.kp (a := ld) hld1 (by first | ((apply so.notin <;> repeat' (first | assumption | exact Ixs.nil | apply Ixs.cons | exact rfl)); done) | ((apply so.lows <;> repeat' (first | assumption | exact Ixs.nil | apply Ixs.cons | exact rfl)); done) | (simp; (first | lia | omega)))
      have hpb3 := c13.kp hpb1 (by first | ((apply so.notin <;> repeat' (first | assumption | exact Ixs.nil | apply Ixs.cons | exact rfl)); done) | ((apply so.lows <;> repeat' (first | assumption | exact Ixs.nil | apply Ixs.cons | exact rfl)); done) | (simp; (first | lia | omega)))
      have c03 : Chg h h3 [fr, ld, pb, it, fd] := (by first | exact Chg.cut (c1.trans c13) (by (repeat' (first | exact Cut.nil | refine Cut.kept ix0 ?_ | refine Cut.kept (ixs ix0) ?_ | refine Cut.kept (ixs (ixs ix0)) ?_ | refine Cut.kept (ixs (ixs (ixs ix0))) ?_ | refine Cut.kept (ixs (ixs (ixs (ixs ix0)))) ?_ | refine Cut.kept (ixs (ixs (ixs (ixs (ixs ix0))))) ?_ | refine Cut.kept (ixs (ixs (ixs (ixs (ixs (ixs ix0)))))) ?_ | refine Cut.kept (ixs (ixs (ixs (ixs (ixs (ixs (ixs ix0))))))) ?_ | refine Cut.kept (ixs (ixs (ixs (ixs (ixs (ixs (ixs (ixs ix0)))))))) ?_ | refine Cut.fresh (by (first | lia | omega)) ?_)); done) | exact Chg.drop (c1.trans c13) fun b hb hn => by simp at hb hn; (first | lia | omega))
      have hdn3 : Jobs h3 dn ds D ed := hdn.chg c03 (by first | ((apply so.notin <;> repeat' (first | assumption | exact Ixs.nil | apply Ixs.cons | exact rfl)); done) | ((apply so.lows <;> repeat' (first | assumption | exact Ixs.nil | apply Ixs.cons | exact rfl)); done) | (simp; (first | lia | omega))) fun t ht => by have := hds t ht; simp; (first | lia | omega)
      have pre3 : Pre top h3 (S.L3 c aux3 ep3 aux4 ep4 (sgs kr) (e + 1) es3 ee3) := by
        exact so.pre T3 ⟨hfr3, hlx3, hld3, hpb3, hfo3, hdn3.list, trivial⟩ (by repeat' (first | assumption | exact Ixs.nil | apply Ixs.cons | exact rfl)) rfl
      refine res_stop pre3 sep hP a (by (first | lia | omega)) (r3 ⟨h.objs.size, t₀, ck, aux, ep, aux1, ep1, es, ee, w0, tf, h1.objs.size, t₀ + 9 + 1, aux2, ep2, es, ee, h3.objs.size, t₀ + 9 + 1 + 1 + 1, aux3, ep3, aux4, ep4, sgs kr, e + 1, es3, ee3, 0, 0, aux, 0, 0, 0⟩) ⟨by simp; (first | lia | omega), trivial⟩ fun h4 B4 A4 a4 => ?_
      have s4 := B4.size
      have c4 : Chg h3 h4 [fr, ld, pb] := Chg.cut B4.chg (by (repeat' (first | exact Cut.nil | refine Cut.kept ix0 ?_ | refine Cut.kept (ixs ix0) ?_ | refine Cut.kept (ixs (ixs ix0)) ?_ | refine Cut.kept (ixs (ixs (ixs ix0))) ?_ | refine Cut.kept (ixs (ixs (ixs (ixs ix0)))) ?_ | refine Cut.kept (ixs (ixs (ixs (ixs (ixs ix0))))) ?_ | refine Cut.kept (ixs (ixs (ixs (ixs (ixs (ixs ix0)))))) ?_ | refine Cut.kept (ixs (ixs (ixs (ixs (ixs (ixs (ixs ix0))))))) ?_ | refine Cut.kept (ixs (ixs (ixs (ixs (ixs (ixs (ixs (ixs ix0)))))))) ?_ | refine Cut.same hlx3 (B4.at 0 rfl) ?_ | refine Cut.same hfo3 (B4.at 2 rfl) ?_ | refine Cut.same hdn3.list (B4.at 3 rfl) ?_ | refine Cut.fresh (by (first | lia | omega)) ?_)))
      have T4 : TopOk top h4 := T3.chg sep c4 (by first | ((apply so.notin <;> repeat' (first | assumption | exact Ixs.nil | apply Ixs.cons | exact rfl)); done) | ((apply so.lows <;> repeat' (first | assumption | exact Ixs.nil | apply Ixs.cons | exact rfl)); done) | (simp; (first | lia | omega)))
      have hfd4 : h4.DictOf (stK w) fd (stored kvs k0.1 (.int (bg + s) (t₀ + 9 + 1))) := hfd3.at fun o ho => c4.kp ho (by first | ((apply so.notin <;> repeat' (first | assumption | exact Ixs.nil | apply Ixs.cons | exact rfl)); done) | ((apply so.lows <;> repeat' (first | assumption | exact Ixs.nil | apply Ixs.cons | exact rfl)); done) | (simp; (first | lia | omega)))
      refine dget_spec hfd4 (v := .int (bg + s) (t₀ + 9 + 1)) (by rw [at_stored]; simp [S]) ?_
      have hdn4 : Jobs h4 dn ds D ed := hdn3.chg c4 (by first | ((apply so.notin <;> repeat' (first | assumption | exact Ixs.nil | apply Ixs.cons | exact rfl)); done) | ((apply so.lows <;> repeat' (first | assumption | exact Ixs.nil | apply Ixs.cons | exact rfl)); done) | (simp; (first | lia | omega))) fun t ht => by have := hds t ht; simp; (first | lia | omega)
      obtain ⟨aux5, ep5, hfr4⟩ := B4.dicAt 0 rfl
      obtain ⟨aux6, ep6, hld4⟩ := B4.dicAt 1 rfl
      have pre4 : Pre top h4 (S.L4 c aux5 ep5) := pre_two T4 hfr4 hdn4.list o1 (show 143 ≤ dn by (first | lia | omega)) (show fr ≠ dn by (first | lia | omega))
      refine res_again pre4 sep hP a (by (first | lia | omega)) (r4 ⟨h.objs.size, t₀, ck, aux, ep, aux1, ep1, es, ee, w0, tf, h1.objs.size, t₀ + 9 + 1, aux2, ep2, es, ee, h3.objs.size, t₀ + 9 + 1 + 1 + 1, aux3, ep3, aux4, ep4, sgs kr, e + 1, es3, ee3, h4.objs.size, t₀ + 9 + 1 + 1 + 1 + 3 + 1, aux5, ep5, bg + s, t₀ + 9 + 1⟩) ⟨by simp [S]; (first | lia | omega), trivial⟩ fun h5 B5 => ?_
      have s5 := B5.size
      have c45 : Chg h4 h5 [fr, dn] := B5.chg
      have c35 : Chg h3 h5 [fr, ld, pb, dn] := (by first | exact Chg.cut (c4.trans c45) (by (repeat' (first | exact Cut.nil | refine Cut.kept ix0 ?_ | refine Cut.kept (ixs ix0) ?_ | refine Cut.kept (ixs (ixs ix0)) ?_ | refine Cut.kept (ixs (ixs (ixs ix0))) ?_ | refine Cut.kept (ixs (ixs (ixs (ixs ix0)))) ?_ | refine Cut.kept (ixs (ixs (ixs (ixs (ixs ix0))))) ?_ | refine Cut.kept (ixs (ixs (ixs (ixs (ixs (ixs ix0)))))) ?_ | refine Cut.kept (ixs (ixs (ixs (ixs (ixs (ixs (ixs ix0))))))) ?_ | refine Cut.kept (ixs (ixs (ixs (ixs (ixs (ixs (ixs (ixs ix0)))))))) ?_ | refine Cut.fresh (by (first | lia | omega)) ?_)); done) | exact Chg.drop (c4.trans c45) fun b hb hn => by simp at hb hn; (first | lia | omega))
      have c05 : Chg h h5 [fr, ld, lx, pb, fd, dn, it] := (by first | exact Chg.cut (c03.trans c35) (by (repeat' (first | exact Cut.nil | refine Cut.kept ix0 ?_ | refine Cut.kept (ixs ix0) ?_ | refine Cut.kept (ixs (ixs ix0)) ?_ | refine Cut.kept (ixs (ixs (ixs ix0))) ?_ | refine Cut.kept (ixs (ixs (ixs (ixs ix0)))) ?_ | refine Cut.kept (ixs (ixs (ixs (ixs (ixs ix0))))) ?_ | refine Cut.kept (ixs (ixs (ixs (ixs (ixs (ixs ix0)))))) ?_ | refine Cut.kept (ixs (ixs (ixs (ixs (ixs (ixs (ixs ix0))))))) ?_ | refine Cut.kept (ixs (ixs (ixs (ixs (ixs (ixs (ixs (ixs ix0)))))))) ?_ | refine Cut.fresh (by (first | lia | omega)) ?_)); done) | exact Chg.drop (c03.trans c35) fun b hb hn => by simp at hb hn; (first | lia | omega))
      have T5 : TopOk top h5 := T4.chg sep c45 (by first | ((apply so.notin <;> repeat' (first | assumption | exact Ixs.nil | apply Ixs.cons | exact rfl)); done) | ((apply so.lows <;> repeat' (first | assumption | exact Ixs.nil | apply Ixs.cons | exact rfl)); done) | (simp; (first | lia | omega)))
      have hbD : hrs D ++ [max j.1.1 (lastZ c (hrs D)) + s] = hrs (D ++ [((bg + s, t₀ + 9 + 1), j.2)]) := by rw [hbg]; simp
      have hpb4 : h4.get? pb = some (lsO (sgs (kr ++ [k0])) (e + 1 + 1)) := by
        have q : h4.get? pb = some (lsO (sgs kr ++ [.str k0.1 k0.2]) (e + 1 + 1)) := B4.at 1 rfl
        rw [q]; simp
      have c15 : Chg h1 h5 [fr, fd, ld, pb, dn] := (by first | exact Chg.cut (c13.trans c35) (by (repeat' (first | exact Cut.nil | refine Cut.kept ix0 ?_ | refine Cut.kept (ixs ix0) ?_ | refine Cut.kept (ixs (ixs ix0)) ?_ | refine Cut.kept (ixs (ixs (ixs ix0))) ?_ | refine Cut.kept (ixs (ixs (ixs (ixs ix0)))) ?_ | refine Cut.kept (ixs (ixs (ixs (ixs (ixs ix0))))) ?_ | refine Cut.kept (ixs (ixs (ixs (ixs (ixs (ixs ix0)))))) ?_ | refine Cut.kept (ixs (ixs (ixs (ixs (ixs (ixs (ixs ix0))))))) ?_ | refine Cut.kept (ixs (ixs (ixs (ixs (ixs (ixs (ixs (ixs ix0)))))))) ?_ | refine Cut.fresh (by (first | lia | omega)) ?_)); done) | exact Chg.drop (c13.trans c35) fun b hb hn => by simp at hb hn; (first | lia | omega))
      refine ih (k + 1) (kr ++ [k0]) (stored kvs k0.1 (.int (bg + s) (t₀ + 9 + 1))) (ds ++ [h4.objs.size]) (D ++ [((bg + s, t₀ + 9 + 1), j.2)]) (.str k0.1 k0.2) (some (.int j.1.1 j.1.2, .str j.2.1 j.2.2)) h5 _ (e + 1 + 1) (ed + 1) j.1.1 hd' (by (first | lia | omega)) (by (first | lia | omega)) T5 ?_ (B5.dicAt 0 rfl) (c15.kp hlx1 (by first | ((apply so.notin <;> repeat' (first | assumption | exact Ixs.nil | apply Ixs.cons | exact rfl)); done) | ((apply so.lows <;> repeat' (first | assumption | exact Ixs.nil | apply Ixs.cons | exact rfl)); done) | (simp; (first | lia | omega)))) ⟨aux6, ep6, c45.kp (a := ld) hld4 (by first | ((apply so.notin <;> repeat' (first | assumption | exact Ixs.nil | apply Ixs.cons | exact rfl)); done) | ((apply so.lows <;> repeat' (first | assumption | exact Ixs.nil | apply Ixs.cons | exact rfl)); done) | (simp; (first | lia | omega)))⟩ (c45.kp hpb4 (by first | ((apply so.notin <;> repeat' (first | assumption | exact Ixs.nil | apply Ixs.cons | exact rfl)); done) | ((apply so.lows <;> repeat' (first | assumption | exact Ixs.nil | apply Ixs.cons | exact rfl)); done) | (simp; (first | lia | omega)))) (hfd4.at fun o ho => c45.kp ho (by first | ((apply so.notin <;> repeat' (first | assumption | exact Ixs.nil | apply Ixs.cons | exact rfl)); done) | ((apply so.lows <;> repeat' (first | assumption | exact Ixs.nil | apply Ixs.cons | exact rfl)); done) | (simp; (first | lia | omega)))) ?_ (c15.kp hit1 (by first | ((apply so.notin <;> repeat' (first | assumption | exact Ixs.nil | apply Ixs.cons | exact rfl)); done) | ((apply so.lows <;> repeat' (first | assumption | exact Ixs.nil | apply Ixs.cons | exact rfl)); done) | (simp; (first | lia | omega)))) ?_ ?_ (by simp [hk]) ?_ (by (first | lia | omega)) ?_ ?_ ?_
      · exact J.chg c05 (by first | ((apply so.notin <;> repeat' (first | assumption | exact Ixs.nil | apply Ixs.cons | exact rfl)); done) | ((apply so.lows <;> repeat' (first | assumption | exact Ixs.nil | apply Ixs.cons | exact rfl)); done) | (simp; (first | lia | omega))) fun t ht => by have := htl t ht; simp; (first | lia | omega)
      · refine hdn4.snoc ?_ ?_ (B5.at 1 rfl) (by (first | lia | omega))
        · have q : h5.get? dn = some (lsO (rfs ds ++ [.ref h4.objs.size]) (ed + 1)) := B5.at 0 rfl
          rw [q]; simp
        · intro t ht o ho
          have := hds t ht
          exact c45.kp ho (by first | ((apply so.notin <;> repeat' (first | assumption | exact Ixs.nil | apply Ixs.cons | exact rfl)); done) | ((apply so.lows <;> repeat' (first | assumption | exact Ixs.nil | apply Ixs.cons | exact rfl)); done) | (simp; (first | lia | omega)))
      · rw [← hbD, hbg, win_snoc, hW]
        exact hln.step (bg + s) (t₀ + 9 + 1)
      · rw [stored_len_in hv]; exact hkl'
      · rw [← hbD]
        exact ok.step hc hs hjp (by (first | lia | omega))
      · intro i i' x y hij hx hy
        exact up (i + 1) (i' + 1) x y (by (first | lia | omega)) (by simpa using hx) (by simpa using hy)
      · intro t ht
        rcases List.mem_append.mp ht with ht | ht
        · exact hds t ht
        · simp at ht; (first | lia | omega)
      · intro h' t' ck' ex' ds' D' ed' g1 g2 g3 g4 g5
        refine X h' t' ck' ex' ds' D' ed' g1 g2 ?_ ?_ ?_
        · rw [g3, ← hbD]; rfl
        · rw [g4]; simp
        · exact (c05.trans g5).drop fun b hb hn => by simp at hb hn; (first | lia | omega)
    by_cases hcond : w0 > j.1.1
    · exact key q_lm2T w0 [w0 > j.1.1] (fun U hU => by have z := Z.m2T S c (sgs kr) hc hc4 hxl ex U; rw [hU] at z; exact z) (fun U => Z.m3T S c (sgs kr) hc hc4 hxl ex U) (fun U => Z.m4T S c (sgs kr) hc hc4 hxl ex U) ⟨hcond, trivial⟩ (by (first | lia | omega))
    · exact key q_lm2F j.1.1 [¬ w0 > j.1.1] (fun U hU => by have z := Z.m2F S c (sgs kr) hc hc4 hxl ex U; rw [hU] at z; exact z) (fun U => Z.m3F S c (sgs kr) hc hc4 hxl ex U) (fun U => Z.m4F S c (sgs kr) hc hc4 hxl ex U) ⟨hcond, trivial⟩ (by (first | lia | omega))
theorem dict_new {h : Heap} {d : Nat} (ho : h.get? d = some (dcO #[] 0)) : h.DictOf (stK w) d [] :=
  ⟨_, #[], 0, ho, ⟨rfl, rfl, rfl⟩, rfl, fun e he => by simp at he, .nil, by simp⟩
theorem line_spec (hP : P = w.params) (Z : LiRuns P top) (En : EnRuns P top) (sep : TopSep top) {h : Heap} {t₀ : Nat} (T : TopOk top h) {nr : Nat} (a : Rm A nr) (ha : nr ≤ 350) {jl ej tc ts cN c1 c2 : Nat} {s : Int} {tl : List Nat} {js : List Job} (hc : 1 ≤ cN) (hc' : cN ≤ 4) (hs : 0 ≤ s) (h4 : 4 ≤ js.length) (h7 : js.length ≤ 7) (hB : 143 ≤ h.objs.size) (J : Jobs h jl tl js ej) (up : Up (0 :: hrs js)) (h97 : h.get? 97 = some (o97 c1 c2))
    (X : DeskPost h js cN s [] R g dr os) : codeAny (Md w) A (lineCall jl cN tc s ts) R ⟨h, g, dr, t₀, os⟩ := by
  have hjl : jl < h.objs.size := Heap.lt_size J.list
  have Jl := J.low
  refine code_stopW (pre_one T J.list J.low) sep hP a (by (first | lia | omega)) rfl (Z.rA ⟨h.objs.size, t₀, jl, tl, ej, tc, s, ts, 0, 0, 0, fun _ => (0, 0), 0, fun _ => (0, 0), 0, 0, 0, 0⟩ cN hc hc') trivial fun h1 B1 A1 a1 => ?_
  have s1 := B1.size
  have k1 : Chg h h1 [] := B1.chg.drop fun b hb hn => by
    simp at hb; subst hb
    exact same_of J.list (B1.at 0 rfl)
  refine list_spec a1.handled (by simp) fun h2 t2 xs e hS hI k2 => ?_
  have hxs : xs = [] := by have := hI.1; simpa using this
  subst hxs
  obtain ⟨aux, ep, hf1⟩ := B1.dicAt 0 rfl
  obtain ⟨aux2, ep2, hf2⟩ := B1.dicAt 1 rfl
  have hce : h1.get? (h.objs.size + 2) = some (ceO none) := B1.at 1 rfl
  have k12 : Chg h h2 [] := (k1.trans k2).none fun b hb => by simp at hb
  have T2 : TopOk top h2 := T.chg sep k12 (by simp)
  have s2 : h1.objs.size < h2.objs.size := Heap.lt_size hS
  let Y : Ln0 := ⟨h.objs.size, t₀, jl, tl, ej, tc, s, ts, h1.objs.size, c1, c2, aux, ep, aux2, ep2, e, h2.objs.size, t2⟩
  have pre2 : Pre top h2 (Y.LB cN) := by
    refine pre_mk T2 ?_ ?_ ?_
    · intro q hq
      simp only [Y, Ln0.LB, List.mem_cons, List.not_mem_nil, or_false] at hq
      rcases hq with rfl | rfl | rfl | rfl | rfl
      · exact k2.kp hf1 (by simp)
      · exact k2.kp hf2 (by simp)
      · exact k2.kp hce (by simp)
      · exact hS
      · exact k12.kp h97 (by simp)
    · simp [Y, Ln0.LB]; (first | lia | omega)
    · intro q hq
      simp [Y, Ln0.LB] at hq
      (first | lia | omega)
  refine res_stop pre2 sep hP a (by (first | lia | omega)) (Z.rB Y cN hc hc') trivial fun h3 B3 A3 a3 => ?_
  have s3 := B3.size
  have k23 : Chg h2 h3 [h.objs.size, h.objs.size + 1, h.objs.size + 2, h1.objs.size] := B3.chg.drop fun b hb hn => by
    simp [Y, Ln0.LB] at hb hn
    have : b = 97 := by (first | lia | omega)
    subst this
    exact same_of (k12.kp h97 (by simp)) (B3.at 0 rfl)
  have k03 : Chg h h3 [] := (k12.trans k23).none fun b hb => by simp at hb; (first | lia | omega)
  have T3 : TopOk top h3 := T.chg sep k03 (by simp)
  refine clerk_loop hP Z sep a3 (by (first | lia | omega)) hc hc' (show 143 ≤ h.objs.size by (first | lia | omega)) (show h.objs.size < h2.objs.size + 4 by (first | lia | omega)) (show h2.objs.size + 4 < h2.objs.size + 5 by (first | lia | omega)) (show h2.objs.size + 5 < h2.objs.size + 7 by (first | lia | omega)) (show h2.objs.size + 7 < h2.objs.size + 8 by (first | lia | omega)) (show h2.objs.size + 8 < h2.objs.size + 10 by (first | lia | omega)) cN 0 none [] [] 0 h3 _ (by (first | lia | omega)) (.inl rfl) (by (first | lia | omega)) T3 (B3.dicAt 0 rfl) (B3.at 1 rfl) (B3.dicAt 1 rfl) (B3.at 2 rfl) (B3.at 4 rfl) (dict_new (B3.at 3 rfl)) rfl ⟨rfl, by simp, fun i k x h1 => by simp at h1⟩ (by simp) fun h4' t4 ck ks kvs e4 hfr4 hlx4 hld4 hpb4 hfd4 hln4 hkv4 k34 => ?_
  have s4 := k34.size
  have k04 : Chg h h4' [] := (k03.trans k34).none fun b hb => by simp at hb; (first | lia | omega)
  have T4 : TopOk top h4' := T.chg sep k04 (by simp)
  have J4 : Jobs h4' jl tl js ej := J.chg k04 (by simp) (by simp)
  obtain ⟨aux4, ep4, hfr4⟩ := hfr4
  refine res_stop (L := Y.LC cN ck aux4 ep4) (pre_two T4 hfr4 J4.list hB Jl (show h.objs.size ≠ jl by (first | lia | omega))) sep hP a (by (first | lia | omega)) (Z.rC Y cN hc hc' _ t4 ck aux4 ep4) trivial fun h5 B5 A5 a5 => ?_
  have s5 := B5.size
  have k45 : Chg h4' h5 [h.objs.size] := B5.chg.drop fun b hb hn => by
    simp [Y, Ln0.LC] at hb hn
    have : b = jl := by (first | lia | omega)
    subst this
    exact same_of J4.list (B5.at 0 rfl)
  have k05 : Chg h h5 [] := (k04.trans k45).none fun b hb => by simp at hb; (first | lia | omega)
  have T5 : TopOk top h5 := T.chg sep k05 (by simp)
  obtain ⟨aux5, ep5, hld5⟩ := hld4
  refine line_loop hP Z En sep a5 (by (first | lia | omega)) hc hc' hs h4 h7 (show 143 ≤ h.objs.size by (first | lia | omega)) hjl J.lt (show h.objs.size < h2.objs.size + 4 by (first | lia | omega)) (show h2.objs.size + 4 < h2.objs.size + 5 by (first | lia | omega)) (show h2.objs.size + 5 < h2.objs.size + 7 by (first | lia | omega)) (show h2.objs.size + 7 < h2.objs.size + 8 by (first | lia | omega)) (show h2.objs.size + 8 < h4'.objs.size by (first | lia | omega)) (show h4'.objs.size < h4'.objs.size + 1 by (first | lia | omega)) js 0 ks kvs [] [] ck none h5 _ e4 0 0 rfl (by (first | lia | omega)) (by (first | lia | omega)) T5 (J.chg k05 (by simp) (by simp)) (B5.dicAt 0 rfl) (k45.kp hlx4 (by simp; (first | lia | omega))) ⟨aux5, ep5, k45.kp hld5 (by simp; (first | lia | omega))⟩ (k45.kp hpb4 (by simp; (first | lia | omega))) (hfd4.at fun o ho => k45.kp ho (by simp; (first | lia | omega))) ⟨B5.at 1 rfl, by (first | lia | omega), rfl, fun k t j h1 => by simp at h1⟩ (B5.at 2 rfl) (win_nil ▸ hln4) hkv4 rfl (.nil _ _ _) (by (first | lia | omega)) up (by simp) fun h6 t6 ck6 ex6 ds D ed hfr6 hdn6 hD hN k56 => ?_
  have s6 := k56.size
  have k06 : Chg h h6 [] := (k05.trans k56).none fun b hb => by simp at hb; (first | lia | omega)
  have T6 : TopOk top h6 := T.chg sep k06 (by simp)
  obtain ⟨aux6, ep6, hfr6⟩ := hfr6
  refine res_fin (pre_one T6 hfr6 hB) sep hP a (by (first | lia | omega)) (Z.rR Y cN hc hc' _ t4 ck aux4 ep4 _ t6 ck6 _ ex6 aux6 ep6) trivial fun h8 B8 => ?_
  have k68 : Chg h6 h8 [h.objs.size] := B8.chg
  have k08 : Chg h h8 [] := (k06.trans k68).none fun b hb => by simp at hb; (first | lia | omega)
  exact X h8 _ _ ds D ed (hdn6.chg k68 (by simp; (first | lia | omega)) fun t ht => by simpa using hdn6.ne_dic hfr6 t ht) hD (by simpa using hN) k08 (by (first | lia | omega))
end
end
end Mine

end
section
open PySem PySem.W PySem.W.X PyProof.Rows
set_option maxRecDepth 100000
set_option Elab.async false
set_option maxHeartbeats 2000000
set_option genInjectivity false
set_option genSizeOfSpec false
namespace Mine
noncomputable section
noncomputable def q_sv0 : Nat := 878734481657017789447595021179274400327674009155036322764084635380946860014668187235277169013205670728412737684228072352535291695170514861576008584967712079872
noncomputable def q_sv1 : Nat := 14742718205407825369398542318203653893284141000537630838691539150078321214631529036661351637392482563647972385530173194732486852692512918542165497895233313524712407040
noncomputable def q_sv2 : Nat := 14742718205407825369398542318203653893284141000537630838691539150078321214631529036661351637392482563647972385530173194732486852692512918542165497895233313524712407040
/-! one desk of the three -/
noncomputable def servedCall (k : Int) (tk jl dl : Nat) : Code := .call (.ref 130) ⟨[.int k tk, .ref jl, .ref dl], []⟩
noncomputable def dtO (c : Int) (tc : Nat) (s : Int) (ts : Nat) : Obj := { cls := .type "tuple", dict := none, data := .seq ⟨[.int c tc, .int s ts]⟩ 0, slots := #[] }
noncomputable def svL (dl d0 d1 d2 d : Nat) (e : Nat) (c : Int) (tc : Nat) (s : Int) (ts : Nat) : Led := [(dl, lsO [.ref d0, .ref d1, .ref d2] e), (d, dtO c tc s ts)]
@[reducible] noncomputable def svRun_p (P : Params) (top : Nat → Option Obj) (k : Int) (q i : Nat) (d : Nat → Nat → Nat → Nat) (call : Nat → Int → Nat → Int → Nat → Code) := fun B t₀ tk jl dl d0 d1 d2 e c tc s ts => (toldLp P top [] (svL dl d0 d1 d2 (d d0 d1 d2) e c tc s ts) B t₀ 200 (servedCall k tk jl dl) q [0, 1] [] (.call (call jl c tc s ts)) 0 4 i true [(dl, some (lsO [.ref d0, .ref d1, .ref d2] e)), (d d0 d1 d2, some (dtO c tc s ts))] [] [] : Tale × Tale)
@[reducible] noncomputable def svRun (P : Params) (top : Nat → Option Obj) (k : Int) (q i : Nat) (d : Nat → Nat → Nat → Nat) (call : Nat → Int → Nat → Int → Nat → Code) : Prop := ∀ B t₀ tk jl dl d0 d1 d2 e c tc s ts, IsT (svRun_p P top k q i d call B t₀ tk jl dl d0 d1 d2 e c tc s ts)
@[reducible] noncomputable def svBack_p (P : Params) (top : Nat → Option Obj) (k : Int) (q : Nat) (d : Nat → Nat → Nat → Nat) := fun B t₀ tk jl dl d0 d1 d2 e c tc s ts B2 t2 dn => (toldGp P top [] [] B2 t2 50 ((runQ (vOf P top [] (svL dl d0 d1 d2 (d d0 d1 d2) e c tc s ts) B t₀) 200 (startC (servedCall k tk jl dl) (btOf ((svL dl d0 d1 d2 (d d0 d1 d2) e c tc s ts).map (·.2))) q)).resume (.ok (.ret (.ref dn))) (btOf []) 0) [] [] (.fin (.ok (.ret (.ref dn)))) 0 0 0 true [] [] [] : Tale × Tale)
@[reducible] noncomputable def svBack (P : Params) (top : Nat → Option Obj) (k : Int) (q : Nat) (d : Nat → Nat → Nat → Nat) : Prop := ∀ B t₀ tk jl dl d0 d1 d2 e c tc s ts B2 t2 dn, IsT (svBack_p P top k q d B t₀ tk jl dl d0 d1 d2 e c tc s ts B2 t2 dn)
structure SvRuns (P : Params) (top : Nat → Option Obj) : Prop where
  r0 : svRun P top 0 q_sv0 6 (fun a _ _ => a) heapCall
  r1 : svRun P top 1 q_sv1 7 (fun _ b _ => b) rowCall
  r2 : svRun P top 2 q_sv2 7 (fun _ _ c => c) lineCall
  b0 : svBack P top 0 q_sv0 (fun a _ _ => a)
  b1 : svBack P top 1 q_sv1 (fun _ b _ => b)
  b2 : svBack P top 2 q_sv2 (fun _ _ c => c)
structure Runs (P : Params) (top : Nat → Option Obj) : Prop where
  hr : HrRuns P top
  bi : BiRuns P top
  in' : InRuns P top
  en : EnRuns P top
  ro : RoRuns P top
  he : HeRuns P top
  li : LiRuns P top
  sv : SvRuns P top
/-- the three desks as they lie -/
structure Desks (h : Heap) (dl d0 d1 d2 e : Nat) (c : Nat → Nat) (s : Nat → Int) (tc ts : Nat → Nat) : Prop where
  list : h.get? dl = some (lsO [.ref d0, .ref d1, .ref d2] e)
  t0 : h.get? d0 = some (dtO (c 0) (tc 0) (s 0) (ts 0))
  t1 : h.get? d1 = some (dtO (c 1) (tc 1) (s 1) (ts 1))
  t2 : h.get? d2 = some (dtO (c 2) (tc 2) (s 2) (ts 2))
  low : 143 ≤ dl ∧ 143 ≤ d0 ∧ 143 ≤ d1 ∧ 143 ≤ d2
theorem Desks.chg {h h' : Heap} {dl d0 d1 d2 e : Nat} {c : Nat → Nat} {s : Nat → Int} {tc ts : Nat → Nat} (D : Desks h dl d0 d1 d2 e c s tc ts) (k : Chg h h' []) : Desks h' dl d0 d1 d2 e c s tc ts :=
  ⟨k.kp D.list (by simp), k.kp D.t0 (by simp), k.kp D.t1 (by simp), k.kp D.t2 (by simp), D.low⟩
theorem lsO_ne_dtO {h : Heap} {a b : Nat} {xs : List Value} {e : Nat} {c s : Int} {tc ts : Nat} (h1 : h.get? a = some (lsO xs e)) (h2 : h.get? b = some (dtO c tc s ts)) : a ≠ b := by
  intro q; subst q
  rw [h1] at h2
  have : Value.type "list" = Value.type "tuple" := congrArg Obj.cls (Option.some.inj h2)
  exact absurd this (by decide +kernel)
section
variable {P : Params} {top : Nat → Option Obj} {w : World} {A : Around} {R : Result → Shared → Prop} {g : Array GenState} {dr : Drawn} {os : OsState}
theorem served_spec (hP : P = w.params) (Z : Runs P top) (sep : TopSep top) {h : Heap} {t₀ : Nat} (T : TopOk top h) {nr : Nat} (a : Rm A nr) (ha : nr ≤ 340) {jl ej dl d0 d1 d2 e c1 c2 tk : Nat} {c : Nat → Nat} {s : Nat → Int} {tc ts : Nat → Nat} {tl : List Nat} {js : List Job} (hc : ∀ k, 1 ≤ c k ∧ c k ≤ 4) (hs : ∀ k, 0 ≤ s k) (h4 : 4 ≤ js.length) (h7 : js.length ≤ 7) (hB : 143 ≤ h.objs.size) (J : Jobs h jl tl js ej) (up : Up (0 :: hrs js)) (h97 : h.get? 97 = some (o97 c1 c2)) (D : Desks h dl d0 d1 d2 e c s tc ts) (k : Nat) (hk : k < 3)
    (X : DeskPost h js (c k) (s k) [] R g dr os) : codeAny (Md w) A (servedCall k tk jl dl) R ⟨h, g, dr, t₀, os⟩ := by
  have key : ∀ {q i : Nat} {d : Nat → Nat → Nat → Nat} {call : Nat → Int → Nat → Int → Nat → Code}, svRun P top k q i d call → svBack P top k q d → h.get? (d d0 d1 d2) = some (dtO (c k) (tc k) (s k) (ts k)) → 143 ≤ d d0 d1 d2 →
      (∀ h1 A' R', TopOk top h1 → Chg h h1 [] → Rm A' (nr + 5) → DeskPost h1 js (c k) (s k) [] R' g dr os → ∀ t₁, codeAny (Md w) A' (call jl (c k) (tc k) (s k) (ts k)) R' ⟨h1, g, dr, t₁, os⟩) → codeAny (Md w) A (servedCall k tk jl dl) R ⟨h, g, dr, t₀, os⟩ := by
    intro q i d call r1 r2 hd hd' Y
    refine code_stop (pre_two T D.list hd D.low.1 hd' (lsO_ne_dtO D.list hd)) sep hP a (by (first | lia | omega)) rfl (r1 _ t₀ tk jl dl d0 d1 d2 e (c k) (tc k) (s k) (ts k)) trivial fun h1 B1 A' a' => ?_
    have k1 : Chg h h1 [] := B1.chg.drop fun b hb hn => by
      simp at hb
      rcases hb with rfl | rfl
      · exact same_of D.list (B1.at 0 rfl)
      · exact same_of hd (B1.at 1 rfl)
    have T1 : TopOk top h1 := T.chg sep k1 (by simp)
    refine Y h1 A' _ T1 k1 a' (fun h2 t2 dn ds' D' ed' J' g1 g2 k2 g3 => ?_) _
    have k12 : Chg h h2 [] := (k1.trans k2).none fun b hb => by simp at hb
    have T2 : TopOk top h2 := T.chg sep k12 (by simp)
    refine res_fin (L := []) (pre_nil T2) sep hP a (by (first | lia | omega)) (r2 _ t₀ tk jl dl d0 d1 d2 e (c k) (tc k) (s k) (ts k) _ t2 dn) trivial fun h3 B3 => ?_
    have k3 : Chg h2 h3 [] := B3.chg
    exact X h3 _ dn ds' D' ed' (J'.chg k3 (by simp) (by simp)) g1 g2 ((k12.trans k3).none fun b hb => by simp at hb) (Nat.le_trans k1.size g3)
  have : k = 0 ∨ k = 1 ∨ k = 2 := by (first | lia | omega)
  rcases this with rfl | rfl | rfl
  · exact key Z.sv.r0 Z.sv.b0 D.t0 D.low.2.1 fun h1 A' R' T1 k1 a' X' t₁ => heap_spec hP Z.hr Z.he Z.en sep T1 a' (by (first | lia | omega)) (hc 0).1 (hc 0).2 (hs 0) h4 h7 (Nat.le_trans hB k1.size) (J.chg k1 (by simp) (by simp)) up X'
  · exact key Z.sv.r1 Z.sv.b1 D.t1 D.low.2.2.1 fun h1 A' R' T1 k1 a' X' t₁ => row_spec hP Z.bi Z.in' Z.ro Z.en sep T1 a' (by (first | lia | omega)) (hc 1).1 (Nat.le_trans (hc 1).2 (by decide)) (hs 1) h4 h7 (Nat.le_trans hB k1.size) (J.chg k1 (by simp) (by simp)) up X'
  · exact key Z.sv.r2 Z.sv.b2 D.t2 D.low.2.2.2 fun h1 A' R' T1 k1 a' X' t₁ => line_spec hP Z.li Z.en sep T1 a' (by (first | lia | omega)) (hc 2).1 (hc 2).2 (hs 2) h4 h7 (Nat.le_trans hB k1.size) (J.chg k1 (by simp) (by simp)) up (k1.kp h97 (by simp)) X'
end
end
end Mine

end
section
set_option Elab.async false
set_option maxHeartbeats 2000000
set_option genInjectivity false
set_option genSizeOfSpec false
namespace Mine
/-! the order of the desks is all one -/
noncomputable def at' (D : List Int) (n : Nat) : Int := D[n]?.getD 0
theorem deskGo_pre {c : Nat} {s : Int} : ∀ (hs D : List Int) (n : Nat), n < D.length → (deskGo c s D hs)[n]? = D[n]?
  | [], D, n, _ => rfl
  | h :: r, D, n, hn => by
    show (deskGo c s (D ++ [max h (lastZ c D) + s]) r)[n]? = _
    rw [deskGo_pre r _ n (by simp; (first | lia | omega)), List.getElem?_append_left hn]
theorem deskGo_at {c : Nat} {s : Int} (hc : 1 ≤ c) : ∀ (hs D : List Int) (n : Nat), D.length ≤ n → n < D.length + hs.length →
    at' (deskGo c s D hs) n = max (at' hs (n - D.length)) (if c ≤ n then at' (deskGo c s D hs) (n - c) else 0) + s
  | [], D, n, h1, h2 => by simp at h2; (first | lia | omega)
  | h :: r, D, n, h1, h2 => by
    show at' (deskGo c s (D ++ [max h (lastZ c D) + s]) r) n = max _ (if c ≤ n then at' (deskGo c s (D ++ [max h (lastZ c D) + s]) r) (n - c) else 0) + s
    by_cases hn : n = D.length
    · subst hn
      have e1 : at' (deskGo c s (D ++ [max h (lastZ c D) + s]) r) D.length = max h (lastZ c D) + s := by
        unfold at'
        rw [deskGo_pre r _ _ (by simp), List.getElem?_append_right (Nat.le_refl _)]
        simp
      rw [e1, Nat.sub_self]
      have e2 : at' (h :: r) 0 = h := rfl
      rw [e2]
      have e3 : lastZ c D = if c ≤ D.length then at' (deskGo c s (D ++ [max h (lastZ c D) + s]) r) (D.length - c) else 0 := by
        conv => lhs; unfold lastZ
        split
        · unfold at'
          rw [deskGo_pre r _ _ (by simp; (first | lia | omega)), List.getElem?_append_left (by (first | lia | omega))]
        · rfl
      rw [← e3]
    · have z := deskGo_at (s := s) hc r (D ++ [max h (lastZ c D) + s]) n (by simp; (first | lia | omega)) (by simp at h2 ⊢; (first | lia | omega))
      rw [z]
      have e4 : at' r (n - (D ++ [max h (lastZ c D) + s]).length) = at' (h :: r) (n - D.length) := by
        have : n - D.length = (n - (D ++ [max h (lastZ c D) + s]).length) + 1 := by simp; (first | lia | omega)
        rw [this]; rfl
      rw [e4]
/-- ways back: from n to m, with a gain g -/
noncomputable def Ways : List (Nat × Int) → Nat → Nat → Int → Prop
  | [], n, m, g => m = n ∧ g = 0
  | d :: r, n, m, g => ∃ (i : Nat) (g' : Int), i * d.1 ≤ n ∧ Ways r (n - i * d.1) m g' ∧ g = g' + (i + 1) * d.2
/-- v is the best of f over the ways -/
noncomputable def Top' (f : Nat → Int) (ds : List (Nat × Int)) (n : Nat) (v : Int) : Prop := (∃ m g, Ways ds n m g ∧ v = f m + g) ∧ ∀ m g, Ways ds n m g → f m + g ≤ v
theorem Top'.uniq {f : Nat → Int} {ds : List (Nat × Int)} {n : Nat} {v v' : Int} (a : Top' f ds n v) (b : Top' f ds n v') : v = v' := by
  obtain ⟨⟨m, g, w, rfl⟩, ha⟩ := a
  obtain ⟨⟨m', g', w', rfl⟩, hb⟩ := b
  have := ha _ _ w'
  have := hb _ _ w
  (first | lia | omega)
/-- one desk -/
theorem desk_top {c : Nat} {s : Int} (hc : 1 ≤ c) (hrs : List Int) (nn : ∀ x ∈ hrs, 0 ≤ x) : ∀ n, n < hrs.length → Top' (at' hrs) [(c, s)] n (at' (deskGo c s [] hrs) n) := by
  have h0 : ∀ k, 0 ≤ at' hrs k := fun k => by
    unfold at'
    cases e : hrs[k]? with
    | none => simp
    | some x => exact nn x (List.mem_of_getElem? e)
  intro n
  induction n using Nat.strongRecOn with
  | _ n ih =>
    intro hn
    have z := deskGo_at (s := s) hc hrs [] n (by simp) (by simpa using hn)
    simp only [List.length_nil, Nat.sub_zero] at z
    by_cases hcn : c ≤ n
    · rw [if_pos hcn] at z
      obtain ⟨⟨m, g, w, e⟩, hb⟩ := ih (n - c) (by (first | lia | omega)) (by (first | lia | omega))
      obtain ⟨i, g', hi, ⟨hm, hg'⟩, hg⟩ := w
      dsimp only at hi hm hg
      have hb' : ∀ i : Nat, i * c ≤ n - c → at' hrs (n - c - i * c) + (i + 1) * s ≤ at' (deskGo c s [] hrs) (n - c) := fun i hi => by
        have := hb (n - c - i * c) ((i + 1) * s) ⟨i, 0, hi, ⟨rfl, rfl⟩, by simp⟩
        exact this
      rw [z]
      constructor
      · rcases Int.le_total (at' (deskGo c s [] hrs) (n - c)) (at' hrs n) with hle | hle
        · refine ⟨n, s, ⟨0, 0, by simp, ⟨by simp, rfl⟩, by simp⟩, ?_⟩
          rw [Int.max_eq_left hle]
        · refine ⟨m, g + s, ⟨i + 1, 0, ?_, ⟨?_, rfl⟩, ?_⟩, ?_⟩
          · show (i + 1) * c ≤ n
            rw [Nat.add_mul]; (first | lia | omega)
          · show m = n - (i + 1) * c
            rw [Nat.add_mul]; (first | lia | omega)
          · show g + s = 0 + ((i + 1 : Nat) + 1) * s
            rw [hg, hg']
            push_cast
            rw [Int.add_mul ((i : Int) + 1) 1 s]
            (first | lia | omega)
          · rw [Int.max_eq_right hle, e]; (first | lia | omega)
      · intro m' g1 w'
        obtain ⟨i', g2, hi', ⟨hm', hg2⟩, hg1⟩ := w'
        dsimp only at hi' hm' hg1
        subst hm' hg2
        rw [hg1]
        cases i' with
        | zero =>
          have := Int.le_max_left (at' hrs n) (at' (deskGo c s [] hrs) (n - c))
          simp
          (first | lia | omega)
        | succ j =>
          have hj : (j + 1) * c = j * c + c := by rw [Nat.add_mul]; (first | lia | omega)
          have q := hb' j (by (first | lia | omega))
          have e1 : n - c - j * c = n - (j + 1) * c := by (first | lia | omega)
          rw [e1] at q
          have := Int.le_max_right (at' hrs n) (at' (deskGo c s [] hrs) (n - c))
          push_cast
          rw [Int.add_mul ((j : Int) + 1) 1 s]
          (first | lia | omega)
    · rw [if_neg hcn] at z
      have : max (at' hrs n) 0 = at' hrs n := Int.max_eq_left (h0 n)
      rw [this] at z
      rw [z]
      constructor
      · exact ⟨n, s, ⟨0, 0, by simp, ⟨by simp, rfl⟩, by simp⟩, rfl⟩
      · intro m' g1 w'
        obtain ⟨i', g2, hi', ⟨hm', hg2⟩, hg1⟩ := w'
        dsimp only at hi' hm' hg1
        have hi0 : i' = 0 := by
          rcases Nat.eq_zero_or_pos i' with h | h
          · exact h
          · have : c ≤ i' * c := Nat.le_mul_of_pos_left c h
            (first | lia | omega)
        subst hi0 hm' hg2
        rw [hg1]
        simp
theorem desk_nn {c : Nat} {s : Int} (hc : 1 ≤ c) (hs : 0 ≤ s) (hrs : List Int) (nn : ∀ x ∈ hrs, 0 ≤ x) : ∀ x ∈ deskGo c s [] hrs, 0 ≤ x := by
  intro x hx
  obtain ⟨n, hn, rfl⟩ := List.getElem_of_mem hx
  have hn' : n < hrs.length := by rw [deskGo_length] at hn; simpa using hn
  obtain ⟨⟨m, g, ⟨i, g', _, ⟨_, hg'⟩, hg⟩, e⟩, _⟩ := desk_top (s := s) hc hrs nn n hn'
  have h0 : 0 ≤ at' hrs m := by
    unfold at'
    cases e : hrs[m]? with
    | none => simp
    | some x => exact nn x (List.mem_of_getElem? e)
  have e2 : at' (deskGo c s [] hrs) n = (deskGo c s [] hrs)[n] := by unfold at'; rw [List.getElem?_eq_getElem hn]; rfl
  rw [← e2, e, hg, hg']
  have : 0 ≤ ((i : Int) + 1) * s := Int.mul_nonneg (by (first | lia | omega)) hs
  simp only
  (first | lia | omega)
theorem ways_cons {ds ds' : List (Nat × Int)} (h : ∀ n m g, Ways ds n m g ↔ Ways ds' n m g) (d : Nat × Int) (n m : Nat) (g : Int) : Ways (d :: ds) n m g ↔ Ways (d :: ds') n m g := by
  constructor
  · rintro ⟨i, g', h1, h2, h3⟩; exact ⟨i, g', h1, (h _ _ _).mp h2, h3⟩
  · rintro ⟨i, g', h1, h2, h3⟩; exact ⟨i, g', h1, (h _ _ _).mpr h2, h3⟩
theorem ways_swap1 {ds : List (Nat × Int)} (d e : Nat × Int) (n m : Nat) (g : Int) : Ways (d :: e :: ds) n m g → Ways (e :: d :: ds) n m g := by
  rintro ⟨i, g', h1, ⟨j, g'', h4, h5, h6⟩, h3⟩
  refine ⟨j, g'' + (i + 1) * d.2, by (first | lia | omega), ⟨i, g'', by (first | lia | omega), ?_, rfl⟩, by (first | lia | omega)⟩
  have : n - j * e.1 - i * d.1 = n - i * d.1 - j * e.1 := by (first | lia | omega)
  rw [this]; exact h5
theorem ways_perm {ds ds' : List (Nat × Int)} (p : ds.Perm ds') : ∀ n m g, Ways ds n m g ↔ Ways ds' n m g := by
  induction p with
  | nil => intros; exact Iff.rfl
  | cons d _ ih => exact fun n m g => ways_cons ih d n m g
  | swap d e l => exact fun n m g => ⟨ways_swap1 _ _ n m g, ways_swap1 _ _ n m g⟩
  | trans _ _ h1 h2 => exact fun n m g => (h1 n m g).trans (h2 n m g)
theorem Top'.perm {f : Nat → Int} {ds ds' : List (Nat × Int)} {n : Nat} {v : Int} (t : Top' f ds n v) (p : ds.Perm ds') : Top' f ds' n v :=
  ⟨t.1.elim fun m q => q.elim fun g q => ⟨m, g, (ways_perm p n m g).mp q.1, q.2⟩, fun m g h => t.2 m g ((ways_perm p n m g).mpr h)⟩
theorem top_comp {f f1 : Nat → Int} {ds : List (Nat × Int)} {d : Nat × Int} {N n : Nat} {v : Int} (h1 : ∀ n, n < N → Top' f ds n (f1 n)) (hn : n < N) (h2 : Top' f1 [d] n v) : Top' f (d :: ds) n v := by
  obtain ⟨⟨m, g, ⟨i, g', hi, ⟨hm, hg'⟩, hg⟩, e⟩, hb⟩ := h2
  constructor
  · obtain ⟨⟨m', g1, w1, e1⟩, _⟩ := h1 m (by (first | lia | omega))
    subst hm hg'
    exact ⟨m', g1 + (i + 1) * d.2, ⟨i, g1, hi, w1, rfl⟩, by (first | lia | omega)⟩
  · rintro m' g1 ⟨i', g2, hi', w', rfl⟩
    have q1 := (h1 (n - i' * d.1) (by (first | lia | omega))).2 _ _ w'
    have q2 := hb (n - i' * d.1) ((i' + 1) * d.2) ⟨i', 0, hi', ⟨rfl, rfl⟩, by (first | lia | omega)⟩
    (first | lia | omega)
noncomputable def servedBy (ds : List (Nat × Int)) (hs : List Int) : List Int := ds.foldl (fun h d => deskGo d.1 d.2 [] h) hs
theorem served_top : ∀ (ds ds₀ : List (Nat × Int)) (f : Nat → Int) (hs : List Int), (∀ d ∈ ds, 1 ≤ d.1 ∧ 0 ≤ d.2) → (∀ x ∈ hs, 0 ≤ x) → (∀ n, n < hs.length → Top' f ds₀ n (at' hs n)) →
    (servedBy ds hs).length = hs.length ∧ ∀ n, n < hs.length → Top' f (ds.reverse ++ ds₀) n (at' (servedBy ds hs) n)
  | [], ds₀, f, hs, _, _, h => ⟨rfl, h⟩
  | d :: r, ds₀, f, hs, hd, nn, h => by
    have hd0 := hd d (by simp)
    have hl : (deskGo d.1 d.2 [] hs).length = hs.length := by rw [deskGo_length]; simp
    obtain ⟨q1, q2⟩ := served_top r (d :: ds₀) f (deskGo d.1 d.2 [] hs) (fun x hx => hd x (by simp [hx])) (desk_nn hd0.1 hd0.2 hs nn) (fun n hn => top_comp h (by (first | lia | omega)) (desk_top hd0.1 hs nn n (by (first | lia | omega))))
    refine ⟨q1.trans hl, fun n hn => ?_⟩
    have := q2 n (by (first | lia | omega))
    rw [List.reverse_cons, List.append_assoc]
    exact this
theorem list_ext' {D E : List Int} (hl : D.length = E.length) (h : ∀ n, n < D.length → at' D n = at' E n) : D = E := by
  apply List.ext_getElem hl
  intro n h1 h2
  have := h n h1
  unfold at' at this
  rw [List.getElem?_eq_getElem h1, List.getElem?_eq_getElem h2] at this
  exact this
/-- whatever the order of the desks: a list that is the best at each place is what comes out -/
theorem served_is {ds ds' : List (Nat × Int)} {hs E : List Int} (hd : ∀ d ∈ ds, 1 ≤ d.1 ∧ 0 ≤ d.2) (nn : ∀ x ∈ hs, 0 ≤ x) (p : ds.Perm ds') (hl : E.length = hs.length) (hE : ∀ n, n < hs.length → Top' (at' hs) ds' n (at' E n)) : servedBy ds hs = E := by
  obtain ⟨q1, q2⟩ := served_top ds [] (at' hs) hs hd nn (fun n _ => ⟨⟨n, 0, ⟨rfl, rfl⟩, by (first | lia | omega)⟩, fun m g ⟨h1, h2⟩ => by subst h1 h2; (first | lia | omega)⟩)
  refine list_ext' (by (first | lia | omega)) fun n hn => ?_
  have t := q2 n (by (first | lia | omega))
  rw [List.append_nil] at t
  exact (t.perm ((List.reverse_perm ds).trans p)).uniq (hE n (by (first | lia | omega)))
end Mine

end
section
open PySem PySem.W PySem.W.X PyProof.Rows
set_option maxRecDepth 100000
set_option Elab.async false
set_option maxHeartbeats 2000000
set_option genInjectivity false
set_option genSizeOfSpec false
namespace Mine
noncomputable section
/-! max and sum of a list of ints -/
noncomputable def Alive (h : Heap) : Prop := ∃ o, h.get? (h.objs.size - 1) = some o
theorem Alive.size {h h' : Heap} (a : Alive h) (hk : ∀ b o, h.get? b = some o → h'.get? b = some o) : h.objs.size ≤ h'.objs.size := by
  obtain ⟨o, ho⟩ := a
  have : h.objs.size - 1 < h'.objs.size := Heap.lt_size (hk _ _ ho)
  (first | lia | omega)
theorem isList_ivs {h : Heap} {l : Nat} {xs : List (Int × Nat)} {e : Nat} (hl : h.get? l = some (lsO (ivs xs) e)) : h.IsList l (intItems ⟨xs⟩) := ⟨_, hl, rfl, e, by simp [intItems, lsO]⟩
section
variable {w : World} {A : Around} {R : Result → Shared → Prop} {h : Heap} {g : Array GenState} {dr : Drawn} {os : OsState} {t₀ : Nat}
theorem callsTo_of_any {f : Value} {pos : List Value} {s : Shared} (z : wpAny (Md w) A (call f pos) (fun v s' => R (.ok (.ret v)) s') (fun _ _ => False) s) : CallsTo (Md w) A (.call f ⟨pos, []⟩) R s := by
  intro Γ p hΓ
  have z := z Γ p hΓ
  unfold PySem.call at z
  rw [Sem.wp_runValue] at z
  refine wpCode_mono (fun r s' hr => ?_) z
  cases r with
  | error e => exact hr.elim
  | ok fl => cases fl <;> first | exact hr | exact hr.elim
theorem max_spec {l : Nat} {xs : List (Int × Nat)} {e : Nat} (hh : A.handled = none) (al : Alive h) (hl : h.get? l = some (lsO (ivs xs) e)) (hne : xs ≠ []) (X : ∀ h' t' M tM, M ∈ xs.map (·.1) → (∀ y ∈ xs.map (·.1), y ≤ M) → Chg h h' [] → R (.ok (.ret (.int M tM))) ⟨h', g, dr, t', os⟩) :
    CallsTo (Md w) A (.call (.builtin "max") ⟨[.ref l], []⟩) R ⟨h, g, dr, t₀, os⟩ := by
  refine callsTo_of_any (max_intList (s := ⟨h, g, dr, t₀, os⟩) hh (isList_ivs hl) (by cases xs with | nil => exact absurd rfl hne | cons => simp) fun v h' tk hv hk => ?_)
  have hsz : 0 < xs.length := by cases xs with | nil => exact absurd rfl hne | cons => simp
  obtain ⟨t, rfl⟩ := intItems_at hv
  obtain ⟨h1, h2⟩ := argBest_gt (numAt ⟨xs⟩) ((⟨xs⟩ : Array (Int × Nat)).size - 1)
  have hnum : ∀ i, i < xs.length → numAt ⟨xs⟩ i ∈ xs.map (·.1) := fun i hi => by
    have : (⟨xs⟩ : Array (Int × Nat))[i]? = some xs[i] := by simp [hi]
    unfold numAt
    rw [this]
    exact List.mem_map.mpr ⟨xs[i], List.getElem_mem hi, rfl⟩
  refine X h' tk _ t (hnum _ ?_) (fun y hy => ?_) ⟨al.size hk, fun b o hb _ => hk b o hb⟩
  · have : (⟨xs⟩ : Array (Int × Nat)).size = xs.length := rfl
    (first | lia | omega)
  · obtain ⟨z, hz, rfl⟩ := List.mem_map.mp hy
    obtain ⟨j, hj, rfl⟩ := List.getElem_of_mem hz
    have q := h2 j (by have : (⟨xs⟩ : Array (Int × Nat)).size = xs.length := rfl; (first | lia | omega))
    have e1 : numAt ⟨xs⟩ j = xs[j].1 := by unfold numAt; have : (⟨xs⟩ : Array (Int × Nat))[j]? = some xs[j] := by simp [hj]
                                           rw [this]; rfl
    rw [e1] at q
    exact q
theorem sum_spec {l : Nat} {xs : List (Int × Nat)} {e : Nat} (hh : A.handled = none) (al : Alive h) (hl : h.get? l = some (lsO (ivs xs) e)) (X : ∀ h' t' M tM, Chg h h' [] → R (.ok (.ret (.int M tM))) ⟨h', g, dr, t', os⟩) :
    CallsTo (Md w) A (.call (.builtin "sum") ⟨[.ref l], []⟩) R ⟨h, g, dr, t₀, os⟩ :=
  callsTo_of_any (sum_intListG (s := ⟨h, g, dr, t₀, os⟩) hh (isList_ivs hl) fun h' tk t' hk => X h' tk _ t' ⟨al.size hk, fun b o hb _ => hk b o hb⟩)
end
end
end Mine

end
section
open PySem PySem.W PySem.W.X PyProof.Rows
set_option maxRecDepth 100000
set_option Elab.async false
set_option maxHeartbeats 2000000
set_option genInjectivity false
set_option genSizeOfSpec false
namespace Mine
noncomputable section
noncomputable def q_du0 : Nat := 170965909153520951507147817229911659137538052344770584200171163434662611444294454635832527712065038821076786231806352539411564120512444345304974552696127025031810993336427187314814499143979272301055425471389582230673696281034936257275413083479008320363975196948249889946681125933809895868204666281750308936887601195885781995137262922999515427860826076321601701797349955737830154915775433235656517161682328240611758426604735697179520567848677301136455238254305948860416
noncomputable def q_dn1 : Nat := 129807223182868508831747048511450956525685709022492482268718752925152178538912961456635906
noncomputable def q_dn2 : Nat := 18518801676371100161
noncomputable def q_dn3 : Nat := 65794
noncomputable def q_di1 : Nat := 2169427529265231571513225550601739498239612806228517348601686083717104812489555631810595776495618
noncomputable def q_dj1 : Nat := 2385310794044480642436093176654352452006550163060292381392094041953613283241125581965240816396311158220521474
noncomputable def q_dk1 : Nat := 13565339852996423882272571782318552916345998816500715630701109950969412345553923102442308239264005749684894713462274715658558269378204421576523455857295362
noncomputable def q_rE : Nat := 216455360897155073
noncomputable def q_du1 : Nat := 1
/-! what is due -/
noncomputable def dueCall (hl dl : Nat) : Code := .call (.ref 137) ⟨[.ref hl, .ref dl], []⟩
structure DuS where
  hl : Nat
  dl : Nat
  a : Int
  ta : Nat
  s : Int
  ts : Nat
  b : Int
  tb : Nat
  t : Int
  tt : Nat
  c : Int
  tc : Nat
  u : Int
  tu : Nat
  du : Nat
noncomputable def zipN : List (List Nat) → List Value → Vs
  | x :: r, v :: l => (x, v) :: zipN r l
  | _, _ => []
noncomputable def DuS.vs (S : DuS) (ex : List Value) : Vs := [([104, 111, 117, 114, 115], .ref S.hl), ([100, 101, 115, 107, 115], .ref S.dl), ([97], .int S.a S.ta), ([115], .int S.s S.ts), ([98], .int S.b S.tb), ([116], .int S.t S.tt), ([99], .int S.c S.tc), ([117], .int S.u S.tu), ([100, 117, 101], .ref S.du)] ++ zipN [[110], [115, 117, 109, 115], [105], [106], [107]] ex
noncomputable def ledU (S : DuS) (H : List (Int × Nat)) (eh d0 d1 d2 e : Nat) : Led := [(S.hl, lsO (ivs H) eh), (S.dl, lsO [.ref d0, .ref d1, .ref d2] e), (d0, dtO S.a S.ta S.s S.ts), (d1, dtO S.b S.tb S.t S.tt), (d2, dtO S.c S.tc S.u S.tu)]
noncomputable def ledF (fr it : Nat) (vs : Vs) (aux : Nat → Int × Nat) (ep : Nat) (x l : Int) : Led := [(fr, dicF "frame" vs aux ep), (it, riO x l 1)]
noncomputable def ledK (fr it hl sm : Nat) (vs : Vs) (aux : Nat → Int × Nat) (ep : Nat) (x l : Int) (H : List (Int × Nat)) (eh : Nat) (xs : List (Int × Nat)) (es : Nat) : Led := [(fr, dicF "frame" vs aux ep), (it, riO x l 1), (hl, lsO (ivs H) eh), (sm, lsO (ivs xs) es)]
noncomputable def ex1 : Option Value → List Value
  | none => []
  | some v => [v]
noncomputable def ex2 : Option (Value × Value) → List Value
  | none => []
  | some (a, b) => [a, b]
noncomputable def ex3 : Option (Value × Value × Value) → List Value
  | none => []
  | some (a, b, c) => [a, b, c]
noncomputable def ex5 : Option (Value × Value × Value × Value × Value) → List Value
  | none => []
  | some (a, b, c, d, e) => [a, b, c, d, e]
noncomputable def tl1 : Option (Value × Value) → Option Value
  | none => none
  | some (_, b) => some b
noncomputable def tl2 : Option (Value × Value × Value) → Option (Value × Value)
  | none => none
  | some (_, b) => some b
noncomputable def tl3 : Option (Value × Value × Value × Value × Value) → Option (Value × Value × Value)
  | none => none
  | some (_, _, b) => some b
noncomputable def loopU (top : Nat → Option Obj) (k fr it : Nat) : Code := loopC top 137 k fr [] (.ref it)
noncomputable def runF (P : Params) (top : Nat → Option Obj) (B t₀ k fr it : Nat) (L : Led) (q : Nat) : RO := runQ (vOf P top [] L B t₀) 150 (startC (loopU top k fr it) (btOf (L.map (·.2))) q)
noncomputable def ledM (fr du : Nat) (vs : Vs) (aux : Nat → Int × Nat) (ep : Nat) (D : List Value) (ed : Nat) : Led := [(fr, dicF "frame" vs aux ep), (du, lsO D ed)]
noncomputable def runM (P : Params) (top : Nat → Option Obj) (B t₀ : Nat) (o : RO) (L : Led) : RO := runQ (vOf P top [] L B t₀) 50 (o.resume (.ok .next) (btOf (L.map (·.2))) q_dn2)
noncomputable def stO (a : Nat) : Obj := { cls := .type "StopIteration", dict := none, data := .fields #[.ref a, .none, .none, .none, .bool false, .none], slots := #[] }
noncomputable abbrev maxCall (l : Nat) : Code := .call (.builtin "max") ⟨[.ref l], []⟩
@[reducible] noncomputable def DuRuns_s0 (P : Params) (top : Nat → Option Obj) : Prop := ∀ fr it, isFor (loopU top 0 fr it) = true
@[reducible] noncomputable def DuRuns_s1 (P : Params) (top : Nat → Option Obj) : Prop := ∀ fr it, isFor (loopU top 1 fr it) = true
@[reducible] noncomputable def DuRuns_s2 (P : Params) (top : Nat → Option Obj) : Prop := ∀ fr it, isFor (loopU top 2 fr it) = true
@[reducible] noncomputable def DuRuns_s3 (P : Params) (top : Nat → Option Obj) : Prop := ∀ fr it, isFor (loopU top 3 fr it) = true
@[reducible] noncomputable def DuRuns_entry_p (P : Params) (top : Nat → Option Obj) := fun B t₀ (S : DuS) H eh d0 d1 d2 e => (toldLp P top [] (ledU S H eh d0 d1 d2 e) B t₀ 400 (dueCall S.hl S.dl) q_du0 [0, 1, 2, 3, 4, 18, 20] [5] (.call (loopU top 0 B (B + 15))) 0 16 13 true
    ((ledU S H eh d0 d1 d2 e).map (fun p => (p.1, some p.2)) ++ [(B + 13, some (lsO (ivs []) 0)), (B + 15, some (riO 0 (.ofNat (ivs H).length) 1))]) [(B, some (true, S.vs []))]
    [0 ≤ Int.ofNat (ivs H).length ∧ Int.ofNat (ivs H).length ≤ 100000, (ivs H).length ≤ 100000] : Tale × Tale)
@[reducible] noncomputable def DuRuns_entry (P : Params) (top : Nat → Option Obj) : Prop := ∀ B t₀ (S : DuS) H eh d0 d1 d2 e, S.du = B + 13 → IsT (DuRuns_entry_p P top B t₀ S H eh d0 d1 d2 e)
@[reducible] noncomputable def DuRuns_n1_p (P : Params) (top : Nat → Option Obj) := fun B t₀ (S : DuS) fr it aux ep n (m : Nat) o => (toldLp P top [] (ledF fr it (S.vs (ex5 o)) aux ep n (.ofNat (m + 1))) B t₀ 150 (loopU top 0 fr it) q_dn1 [1, 2, 4] [0] (.call (loopU top 1 fr (B + 2))) 0 3 8 true
    [(it, some (riO (n + 1) (.ofNat (m + 1) - 1) 1)), (B, some (lsO (ivs []) 0)), (B + 2, some (riO 0 (n.fdiv S.a + 1) 1))] [(fr, some (true, S.vs ([.int n t₀, .ref B] ++ ex3 (tl3 o))))]
    [0 ≤ n.fdiv S.a + 1 ∧ n.fdiv S.a + 1 ≤ 100000, S.a ≠ 0 ∧ -(2 ^ 63) < S.a ∧ S.a < 2 ^ 63] : Tale × Tale)
@[reducible] noncomputable def DuRuns_n1 (P : Params) (top : Nat → Option Obj) : Prop := ∀ B t₀ (S : DuS) fr it aux ep n (m : Nat) o, IsT (DuRuns_n1_p P top B t₀ S fr it aux ep n m o)
@[reducible] noncomputable def DuRuns_n2_p (P : Params) (top : Nat → Option Obj) := fun B t₀ (S : DuS) fr it aux ep n (m : Nat) o B2 t2 sm v0 v1 v2 v3 aux2 ep2 D ed => (toldGp P top [] (ledM fr S.du (S.vs [v0, .ref sm, v1, v2, v3]) aux2 ep2 D ed) B2 t2 50 ((runF P top B t₀ 0 fr it (ledF fr it (S.vs (ex5 o)) aux ep n (.ofNat (m + 1))) q_dn1).resume (.ok .next) (btOf ((ledM fr S.du (S.vs [v0, .ref sm, v1, v2, v3]) aux2 ep2 D ed).map (·.2))) q_dn2) [1] [0]
    (.call (maxCall sm)) 0 0 0 true [(S.du, some (lsO D ed))] [(fr, some (true, S.vs [v0, .ref sm, v1, v2, v3]))] [] : Tale × Tale)
@[reducible] noncomputable def DuRuns_n2 (P : Params) (top : Nat → Option Obj) : Prop := ∀ B t₀ (S : DuS) fr it aux ep n (m : Nat) o B2 t2 sm v0 v1 v2 v3 aux2 ep2 D ed, IsT (DuRuns_n2_p P top B t₀ S fr it aux ep n m o B2 t2 sm v0 v1 v2 v3 aux2 ep2 D ed)
@[reducible] noncomputable def DuRuns_n3_p (P : Params) (top : Nat → Option Obj) := fun B t₀ (S : DuS) fr it aux ep n (m : Nat) o B2 t2 sm v0 v1 v2 v3 aux2 ep2 D ed B3 t3 aux3 ep3 M tM => (toldGp P top [] (ledM fr S.du (S.vs [v0, .ref sm, v1, v2, v3]) aux3 ep3 D ed) B3 t3 50 ((runM P top B2 t2 (runF P top B t₀ 0 fr it (ledF fr it (S.vs (ex5 o)) aux ep n (.ofNat (m + 1))) q_dn1) (ledM fr S.du (S.vs [v0, .ref sm, v1, v2, v3]) aux2 ep2 D ed)).resume (.ok (.ret (.int M tM))) (btOf ((ledM fr S.du (S.vs [v0, .ref sm, v1, v2, v3]) aux3 ep3 D ed).map (·.2))) q_dn3) [1] [0]
    (.again (loopU top 0 fr it)) 0 0 0 true [(S.du, some (lsO (D ++ [.int M tM]) (ed + 1)))] [(fr, some (true, S.vs [v0, .ref sm, v1, v2, v3]))] [D.length ≤ 100000] : Tale × Tale)
@[reducible] noncomputable def DuRuns_n3 (P : Params) (top : Nat → Option Obj) : Prop := ∀ B t₀ (S : DuS) fr it aux ep n (m : Nat) o B2 t2 sm v0 v1 v2 v3 aux2 ep2 D ed B3 t3 aux3 ep3 M tM, IsT (DuRuns_n3_p P top B t₀ S fr it aux ep n m o B2 t2 sm v0 v1 v2 v3 aux2 ep2 D ed B3 t3 aux3 ep3 M tM)
@[reducible] noncomputable def DuRuns_i1_p (P : Params) (top : Nat → Option Obj) := fun B t₀ (S : DuS) fr it aux ep n tn sm i (m : Nat) o => (toldLp P top [] (ledF fr it (S.vs ([.int n tn, .ref sm] ++ ex3 o)) aux ep i (.ofNat (m + 1))) B t₀ 150 (loopU top 1 fr it) q_di1 [1, 3] [0] (.call (loopU top 2 fr (B + 1))) 0 2 9 true
    [(it, some (riO (i + 1) (.ofNat (m + 1) - 1) 1)), (B + 1, some (riO 0 ((n - i * S.a).fdiv S.b + 1) 1))] [(fr, some (true, S.vs ([.int n tn, .ref sm, .int i t₀] ++ ex2 (tl2 o))))]
    [0 ≤ (n - i * S.a).fdiv S.b + 1 ∧ (n - i * S.a).fdiv S.b + 1 ≤ 100000, S.b ≠ 0 ∧ -(2 ^ 63) < S.b ∧ S.b < 2 ^ 63, -(2 ^ 63) < i ∧ i < 2 ^ 63] : Tale × Tale)
@[reducible] noncomputable def DuRuns_i1 (P : Params) (top : Nat → Option Obj) : Prop := ∀ B t₀ (S : DuS) fr it aux ep n tn sm i (m : Nat) o, IsT (DuRuns_i1_p P top B t₀ S fr it aux ep n tn sm i m o)
@[reducible] noncomputable def DuRuns_i2_p (P : Params) (top : Nat → Option Obj) := fun B t₀ (S : DuS) fr it aux ep n tn sm i (m : Nat) o B2 t2 => (toldGp P top [] [] B2 t2 5 ((runF P top B t₀ 1 fr it (ledF fr it (S.vs ([.int n tn, .ref sm] ++ ex3 o)) aux ep i (.ofNat (m + 1))) q_di1).resume (.ok .next) (btOf []) 1) [] [] (.again (loopU top 1 fr it)) 0 0 0 true [] [] [] : Tale × Tale)
@[reducible] noncomputable def DuRuns_i2 (P : Params) (top : Nat → Option Obj) : Prop := ∀ B t₀ (S : DuS) fr it aux ep n tn sm i (m : Nat) o B2 t2, IsT (DuRuns_i2_p P top B t₀ S fr it aux ep n tn sm i m o B2 t2)
@[reducible] noncomputable def DuRuns_j1_p (P : Params) (top : Nat → Option Obj) := fun B t₀ (S : DuS) fr it aux ep n tn sm i ti j (m : Nat) o => (toldLp P top [] (ledF fr it (S.vs ([.int n tn, .ref sm, .int i ti] ++ ex2 o)) aux ep j (.ofNat (m + 1))) B t₀ 150 (loopU top 2 fr it) q_dj1 [1, 3] [0] (.call (loopU top 3 fr (B + 1))) 0 2 11 true
    [(it, some (riO (j + 1) (.ofNat (m + 1) - 1) 1)), (B + 1, some (riO 0 ((n - i * S.a - j * S.b).fdiv S.c + 1) 1))] [(fr, some (true, S.vs ([.int n tn, .ref sm, .int i ti, .int j t₀] ++ ex1 (tl1 o))))]
    [0 ≤ (n - i * S.a - j * S.b).fdiv S.c + 1 ∧ (n - i * S.a - j * S.b).fdiv S.c + 1 ≤ 100000, S.c ≠ 0 ∧ -(2 ^ 63) < S.c ∧ S.c < 2 ^ 63, -(2 ^ 63) < j ∧ j < 2 ^ 63, -(2 ^ 63) < i ∧ i < 2 ^ 63] : Tale × Tale)
@[reducible] noncomputable def DuRuns_j1 (P : Params) (top : Nat → Option Obj) : Prop := ∀ B t₀ (S : DuS) fr it aux ep n tn sm i ti j (m : Nat) o, IsT (DuRuns_j1_p P top B t₀ S fr it aux ep n tn sm i ti j m o)
@[reducible] noncomputable def DuRuns_j2_p (P : Params) (top : Nat → Option Obj) := fun B t₀ (S : DuS) fr it aux ep n tn sm i ti j (m : Nat) o B2 t2 => (toldGp P top [] [] B2 t2 5 ((runF P top B t₀ 2 fr it (ledF fr it (S.vs ([.int n tn, .ref sm, .int i ti] ++ ex2 o)) aux ep j (.ofNat (m + 1))) q_dj1).resume (.ok .next) (btOf []) 1) [] [] (.again (loopU top 2 fr it)) 0 0 0 true [] [] [] : Tale × Tale)
@[reducible] noncomputable def DuRuns_j2 (P : Params) (top : Nat → Option Obj) : Prop := ∀ B t₀ (S : DuS) fr it aux ep n tn sm i ti j (m : Nat) o B2 t2, IsT (DuRuns_j2_p P top B t₀ S fr it aux ep n tn sm i ti j m o B2 t2)
@[reducible] noncomputable def DuRuns_k1_p (P : Params) (top : Nat → Option Obj) := fun B t₀ (S : DuS) fr it aux ep n tn sm i ti j tj k (m : Nat) o H eh xs es y ty => (toldLp P top [.int y ty] (ledK fr it S.hl sm (S.vs ([.int n tn, .ref sm, .int i ti, .int j tj] ++ ex1 o)) aux ep k (.ofNat (m + 1)) H eh xs es) B t₀ 200 (loopU top 3 fr it) q_dk1 [1, 2, 3] [0] (.again (loopU top 3 fr it)) 0 0 20 true
    [(it, some (riO (k + 1) (.ofNat (m + 1) - 1) 1)), (S.hl, some (lsO (ivs H) eh)), (sm, some (lsO (ivs xs ++ [.int (y + (i + 1) * S.s + (j + 1) * S.t + (k + 1) * S.u) (t₀ + 19)]) (es + 1)))] [(fr, some (true, S.vs [.int n tn, .ref sm, .int i ti, .int j tj, .int k t₀]))]
    [(ivs xs).length ≤ 100000, -(2 ^ 63) < k + 1 ∧ k + 1 < 2 ^ 63, -(2 ^ 63) < j + 1 ∧ j + 1 < 2 ^ 63, -(2 ^ 63) < i + 1 ∧ i + 1 < 2 ^ 63,
     ItemAt (ivs H) (n - i * S.a - j * S.b - k * S.c) (.int y ty) ∧ -100000 ≤ n - i * S.a - j * S.b - k * S.c ∧ n - i * S.a - j * S.b - k * S.c ≤ 100000 ∧ (ivs H).length ≤ 100000,
     -(2 ^ 63) < k ∧ k < 2 ^ 63, -(2 ^ 63) < j ∧ j < 2 ^ 63, -(2 ^ 63) < i ∧ i < 2 ^ 63] : Tale × Tale)
@[reducible] noncomputable def DuRuns_k1 (P : Params) (top : Nat → Option Obj) : Prop := ∀ B t₀ (S : DuS) fr it aux ep n tn sm i ti j tj k (m : Nat) o H eh xs es y ty, IsT (DuRuns_k1_p P top B t₀ S fr it aux ep n tn sm i ti j tj k m o H eh xs es y ty)
@[reducible] noncomputable def DuRuns_rE_p (P : Params) (top : Nat → Option Obj) := fun B t₀ t b env it x => (toldLp P top [] [(it, riO x 0 1)] B t₀ 50 (.forLoop t (.ref it) b [] env) q_rE [2] [] (.fin (.ok .next)) 0 2 0 true [(B + 1, some (stO B))] [] [] : Tale × Tale)
@[reducible] noncomputable def DuRuns_rE (P : Params) (top : Nat → Option Obj) : Prop := ∀ B t₀ t b env it x, IsT (DuRuns_rE_p P top B t₀ t b env it x)
@[reducible] noncomputable def DuRuns_back_p (P : Params) (top : Nat → Option Obj) := fun B t₀ (S : DuS) H eh d0 d1 d2 e ex aux ep B2 t2 => (toldGp P top [] [(B, dicF "frame" (S.vs ex) aux ep)] B2 t2 50 ((runQ (vOf P top [] (ledU S H eh d0 d1 d2 e) B t₀) 400 (startC (dueCall S.hl S.dl) (btOf ((ledU S H eh d0 d1 d2 e).map (·.2))) q_du0)).resume (.ok .next) (btOf ([(B, dicF "frame" (S.vs ex) aux ep)].map (·.2))) q_du1) [] [] (.fin (.ok (.ret (.ref S.du)))) 0 0 0 true [] [] [] : Tale × Tale)
@[reducible] noncomputable def DuRuns_back (P : Params) (top : Nat → Option Obj) : Prop := ∀ B t₀ (S : DuS) H eh d0 d1 d2 e ex aux ep B2 t2, S.du = B + 13 → IsT (DuRuns_back_p P top B t₀ S H eh d0 d1 d2 e ex aux ep B2 t2)
structure DuRuns (P : Params) (top : Nat → Option Obj) : Prop where
  s0 : DuRuns_s0 P top
  s1 : DuRuns_s1 P top
  s2 : DuRuns_s2 P top
  s3 : DuRuns_s3 P top
  entry : DuRuns_entry P top
  n1 : DuRuns_n1 P top
  n2 : DuRuns_n2 P top
  n3 : DuRuns_n3 P top
  i1 : DuRuns_i1 P top
  i2 : DuRuns_i2 P top
  j1 : DuRuns_j1 P top
  j2 : DuRuns_j2 P top
  k1 : DuRuns_k1 P top
  rE : DuRuns_rE P top
  back : DuRuns_back P top
end
end Mine

end
section
open PySem PySem.W PySem.W.X PyProof.Rows
set_option maxRecDepth 100000
set_option Elab.async false
set_option maxHeartbeats 2000000
set_option genInjectivity false
set_option genSizeOfSpec false
namespace Mine
noncomputable section
/-! what is due: the loops -/
theorem Chg.old {h h' : Heap} {ls ls' : List Nat} (c : Chg h h' ls) (hb : ∀ a ∈ ls, a ∈ ls' ∨ h.objs.size ≤ a) : Chg h h' ls' :=
  c.drop fun a ha hn o ho => by
    have h2 : a < h.objs.size := Heap.lt_size ho
    rcases hb a ha with h1 | h1
    · exact absurd h1 hn
    · (first | lia | omega)
theorem Chg.alive {h h' : Heap} {ls : List Nat} (c : Chg h h' ls) (al : Alive h) (hs : h'.objs.size = h.objs.size) (hn : h.objs.size - 1 ∉ ls) : Alive h' := by
  obtain ⟨o, ho⟩ := al
  exact ⟨o, by rw [hs]; exact c.keep _ _ ho hn⟩
noncomputable def valD (S : DuS) (H : List (Int × Nat)) (ca cb cc n i j k : Nat) : Int := at' (H.map (·.1)) (n - i * ca - j * cb - k * cc) + (i + 1) * S.s + (j + 1) * S.t + (k + 1) * S.u
theorem fdiv1 {x : Int} {p q : Nat} (hx : x = (p : Int)) : x.fdiv (q : Int) + 1 = Int.ofNat (p / q + 1) := by
  subst hx
  rw [← Int.ofNat_fdiv]
  rfl
section
variable {P : Params} {top : Nat → Option Obj} {w : World} {A : Around} {R : Result → Shared → Prop} {g : Array GenState} {dr : Drawn} {os : OsState}
theorem for_endR (hP : P = w.params) (Z : DuRuns P top) (sep : TopSep top) {h : Heap} {t₀ : Nat} (T : TopOk top h) {nr : Nat} (a : Rm A nr) (ha : nr ≤ 400) {it : Nat} {x : Int} (hi : h.get? it = some (riO x 0 1)) (hl : 143 ≤ it) {c : Code} (hc : isFor c = true) (hc' : ∀ tg it' b env, c = .forLoop tg it' b [] env → it' = .ref it)
    (X : ∀ h' t', Chg h h' [it] → Alive h' → R (.ok .next) ⟨h', g, dr, t', os⟩) : codeAny (Md w) A c R ⟨h, g, dr, t₀, os⟩ := by
  have : ∃ tg b env, c = .forLoop tg (.ref it) b [] env := by
    unfold isFor at hc
    split at hc
    · rename_i tg it' b env
      have := hc' _ _ _ _ rfl
      subst this
      exact ⟨_, _, _, rfl⟩
    · cases hc
  obtain ⟨tg, b, env, rfl⟩ := this
  refine code_fin (pre_one T hi hl) sep hP a ha rfl (Z.rE _ t₀ tg b env it x) trivial fun h' B => ?_
  refine X h' _ B.chg ⟨stO h.objs.size, ?_⟩
  have := B.size
  have e : h'.objs.size - 1 = h.objs.size + 1 := by (first | lia | omega)
  rw [e]
  exact B.at 0 rfl
theorem loopU_it {k fr it : Nat} {tg it' b env} (e : loopU top k fr it = .forLoop tg it' b [] env) : it' = .ref it :=
  loopC_cases (p := fun c => c = .forLoop tg it' b [] env → it' = .ref it) (fun _ _ _ _ e => nomatch e) (fun _ _ _ _ e => by cases e; rfl) (fun e => nomatch e) e
/-- the numbers of the desks -/
structure DuOk (S : DuS) (ca cb cc : Nat) : Prop where
  a : S.a = ca
  b : S.b = cb
  c : S.c = cc
  pa : 1 ≤ ca ∧ ca ≤ 1000
  pb : 1 ≤ cb ∧ cb ≤ 1000
  pc : 1 ≤ cc ∧ cc ≤ 1000
theorem due_k (hP : P = w.params) (Z : DuRuns P top) (sep : TopSep top) {nr : Nat} (a : Rm A nr) (ha : nr ≤ 400) {S : DuS} {ca cb cc : Nat} (D : DuOk S ca cb cc) {H : List (Int × Nat)} {eh fr it sm n tn i ti j tj : Nat} (hn : n < H.length) (hH : H.length ≤ 9) (hij : i * ca + j * cb ≤ n) (low : 143 ≤ fr ∧ 143 ≤ it ∧ 143 ≤ sm ∧ 143 ≤ S.hl) (nd : [fr, it, S.hl, sm].Nodup) :
    ∀ (m k : Nat) (xs : List (Int × Nat)) (es : Nat) (o : Option Value) (h : Heap) (t₀ : Nat), k + m = (n - i * ca - j * cb) / cc + 1 → TopOk top h → IsDic h fr "frame" (S.vs ([.int n tn, .ref sm, .int i ti, .int j tj] ++ ex1 o)) → h.get? it = some (riO k (.ofNat m) 1) → h.get? S.hl = some (lsO (ivs H) eh) → h.get? sm = some (lsO (ivs xs) es) → xs.length + m ≤ 100000 → (m = 0 → o ≠ none) →
      (∀ h' t' v xs' es', IsDic h' fr "frame" (S.vs [.int n tn, .ref sm, .int i ti, .int j tj, v]) → h'.get? sm = some (lsO (ivs xs') es') → (∀ z, z ∈ xs'.map (·.1) ↔ z ∈ xs.map (·.1) ∨ ∃ k', k ≤ k' ∧ k' < k + m ∧ z = valD S H ca cb cc n i j k') → xs'.length = xs.length + m → Chg h h' [fr, it, sm] → Alive h' → R (.ok .next) ⟨h', g, dr, t', os⟩) →
      codeAny (Md w) A (loopU top 3 fr it) R ⟨h, g, dr, t₀, os⟩ := by
  have so : Ds [fr, it, S.hl, sm] := ⟨nd, fun q hq => by simp at hq; (first | lia | omega)⟩
  have x0 : Ix [fr, it, S.hl, sm] (fr) 0 := ix0
  have x1 : Ix [fr, it, S.hl, sm] (it) 1 := ixs ix0
  have x2 : Ix [fr, it, S.hl, sm] (S.hl) 2 := ixs (ixs ix0)
  have x3 : Ix [fr, it, S.hl, sm] (sm) 3 := ixs (ixs (ixs ix0))
  intro m
  induction m with
  | zero =>
    intro k xs es o h t₀ hk T hfr hit hhl hsm hl ho X
    refine for_endR hP Z sep T a ha hit low.2.1 (Z.s3 _ _) (fun _ _ _ _ e => loopU_it e) fun h' t' c al => ?_
    obtain ⟨aux, ep, hfr⟩ := hfr
    cases o with
    | none => exact absurd rfl (ho rfl)
    | some v =>
      have nd' : fr ≠ it ∧ sm ≠ it := by simp at nd; (first | lia | omega)
      refine X h' t' v xs es ⟨aux, ep, c.keep _ _ hfr (by simpa using nd'.1)⟩ (c.keep _ _ hsm (by simpa using nd'.2)) (fun z => ⟨.inl, ?_⟩) rfl (by first | exact Chg.cut c (by (repeat' (first | exact Cut.nil | refine Cut.kept ix0 ?_ | refine Cut.kept (ixs ix0) ?_ | refine Cut.kept (ixs (ixs ix0)) ?_ | refine Cut.kept (ixs (ixs (ixs ix0))) ?_ | refine Cut.kept (ixs (ixs (ixs (ixs ix0)))) ?_ | refine Cut.kept (ixs (ixs (ixs (ixs (ixs ix0))))) ?_ | refine Cut.kept (ixs (ixs (ixs (ixs (ixs (ixs ix0)))))) ?_ | refine Cut.kept (ixs (ixs (ixs (ixs (ixs (ixs (ixs ix0))))))) ?_ | refine Cut.kept (ixs (ixs (ixs (ixs (ixs (ixs (ixs (ixs ix0)))))))) ?_ | refine Cut.fresh (by (first | lia | omega)) ?_)); done) | exact Chg.drop c fun b hb hn => by simp at hb hn; (first | lia | omega)) al
      rintro (hz | ⟨k', h1, h2, _⟩)
      · exact hz
      · (first | lia | omega)
  | succ m ih =>
    intro k xs es o h t₀ hk T hfr hit hhl hsm hl ho X
    obtain ⟨aux, ep, hfr⟩ := hfr
    have hkc : k * cc ≤ n - i * ca - j * cb := by
      have h1 : k ≤ (n - i * ca - j * cb) / cc := by (first | lia | omega)
      exact Nat.le_trans (Nat.mul_le_mul_right cc h1) (Nat.div_mul_le_self _ _)
    have hi9 : i ≤ n := by have := Nat.le_mul_of_pos_right i D.pa.1; (first | lia | omega)
    have hj9 : j ≤ n := by have := Nat.le_mul_of_pos_right j D.pb.1; (first | lia | omega)
    have hk9 : k ≤ n := by have := Nat.le_mul_of_pos_right k D.pc.1; (first | lia | omega)
    have hidx : (n : Int) - i * S.a - j * S.b - k * S.c = ((n - i * ca - j * cb - k * cc : Nat) : Int) := by
      rw [D.a, D.b, D.c]
      have e1 : (i : Int) * (ca : Int) = ((i * ca : Nat) : Int) := by push_cast; rfl
      have e2 : (j : Int) * (cb : Int) = ((j * cb : Nat) : Int) := by push_cast; rfl
      have e3 : (k : Int) * (cc : Int) = ((k * cc : Nat) : Int) := by push_cast; rfl
      rw [e1, e2, e3]
      (first | lia | omega)
    have hlt : n - i * ca - j * cb - k * cc < H.length := by (first | lia | omega)
    obtain ⟨y, hy⟩ : ∃ y, H[n - i * ca - j * cb - k * cc]? = some y := ⟨_, List.getElem?_eq_getElem hlt⟩
    have hat : at' (H.map (·.1)) (n - i * ca - j * cb - k * cc) = y.1 := by unfold at'; rw [List.getElem?_map, hy]; rfl
    have pre : Pre top h (ledK fr it S.hl sm (S.vs ([.int n tn, .ref sm, .int i ti, .int j tj] ++ ex1 o)) aux ep k (.ofNat (m + 1)) H eh xs es) := by
      refine pre_mk T ?_ nd ?_
      · intro q hq
        simp only [ledK, List.mem_cons, List.not_mem_nil, or_false] at hq
        rcases hq with rfl | rfl | rfl | rfl
        · exact hfr
        · exact hit
        · exact hhl
        · exact hsm
      · intro q hq
        simp [ledK] at hq
        (first | lia | omega)
    simp only [List.nodup_cons, List.mem_cons, List.not_mem_nil, or_false] at nd
    refine code_again pre sep hP a ha (ok_for (Z.s3 _ _)) (Z.k1 _ t₀ S fr it aux ep n tn sm i ti j tj k m o H eh xs es y.1 y.2) ⟨?_, ?_, ?_, ?_, ⟨?_, ?_, ?_, ?_⟩, ?_, ?_, ?_, trivial⟩ fun h1 B1 => ?_
    · simp; (first | lia | omega)
    · constructor <;> (first | lia | omega)
    · constructor <;> (first | lia | omega)
    · constructor <;> (first | lia | omega)
    · rw [hidx]
      exact .inl ⟨by (first | lia | omega), by simpa using ivs_get hy⟩
    · rw [hidx]; (first | lia | omega)
    · rw [hidx]; (first | lia | omega)
    · simp; (first | lia | omega)
    · constructor <;> (first | lia | omega)
    · constructor <;> (first | lia | omega)
    · constructor <;> (first | lia | omega)
    have c1 : Chg h h1 [fr, it, sm] := Chg.cut B1.chg (by repeat' (first | exact Cut.nil | refine Cut.kept ix0 ?_ | refine Cut.kept (ixs ix0) ?_ | refine Cut.kept (ixs (ixs ix0)) ?_ | refine Cut.kept (ixs (ixs (ixs ix0))) ?_ | refine Cut.kept (ixs (ixs (ixs (ixs ix0)))) ?_ | refine Cut.kept (ixs (ixs (ixs (ixs (ixs ix0))))) ?_ | refine Cut.kept (ixs (ixs (ixs (ixs (ixs (ixs ix0)))))) ?_ | refine Cut.kept (ixs (ixs (ixs (ixs (ixs (ixs (ixs ix0))))))) ?_ | refine Cut.kept (ixs (ixs (ixs (ixs (ixs (ixs (ixs (ixs ix0)))))))) ?_ | refine Cut.same hhl (B1.at 1 rfl) ?_ | refine Cut.fresh (by (first | lia | omega)) ?_))
    have T1 : TopOk top h1 := T.chg sep c1 (by first | ((apply so.notin <;> repeat' (first | assumption | exact Ixs.nil | apply Ixs.cons | exact rfl)); done) | ((apply so.lows <;> repeat' (first | assumption | exact Ixs.nil | apply Ixs.cons | exact rfl)); done) | (simp; (first | lia | omega)))
    have hsm1 : h1.get? sm = some (lsO (ivs (xs ++ [(y.1 + ((i : Int) + 1) * S.s + ((j : Int) + 1) * S.t + ((k : Int) + 1) * S.u, t₀ + 19)])) (es + 1)) := by
      have q := B1.at 2 rfl
      rw [q]; simp
    have hit1 : h1.get? it = some (riO ((k + 1 : Nat) : Int) (.ofNat m) 1) := by
      have q := B1.at 0 rfl
      have e1 : Int.ofNat (m + 1) - 1 = Int.ofNat m := by simp
      rw [e1] at q
      exact q
    refine ih (k + 1) _ (es + 1) (some (.int k t₀)) h1 _ (by (first | lia | omega)) T1 (B1.dicAt 0 rfl) hit1 (B1.at 1 rfl) hsm1 (by first | ((apply so.notin <;> repeat' (first | assumption | exact Ixs.nil | apply Ixs.cons | exact rfl)); done) | ((apply so.lows <;> repeat' (first | assumption | exact Ixs.nil | apply Ixs.cons | exact rfl)); done) | (simp; (first | lia | omega))) (fun _ e => nomatch e) fun h' t' v xs' es' g1 g2 g3 g4 g5 g6 => ?_
    refine X h' t' v xs' es' g1 g2 (fun z => ?_) (by rw [g4]; simp; (first | lia | omega)) (by first | exact Chg.cut (c1.trans g5) (by (repeat' (first | exact Cut.nil | refine Cut.kept ix0 ?_ | refine Cut.kept (ixs ix0) ?_ | refine Cut.kept (ixs (ixs ix0)) ?_ | refine Cut.kept (ixs (ixs (ixs ix0))) ?_ | refine Cut.kept (ixs (ixs (ixs (ixs ix0)))) ?_ | refine Cut.kept (ixs (ixs (ixs (ixs (ixs ix0))))) ?_ | refine Cut.kept (ixs (ixs (ixs (ixs (ixs (ixs ix0)))))) ?_ | refine Cut.kept (ixs (ixs (ixs (ixs (ixs (ixs (ixs ix0))))))) ?_ | refine Cut.kept (ixs (ixs (ixs (ixs (ixs (ixs (ixs (ixs ix0)))))))) ?_ | refine Cut.fresh (by (first | lia | omega)) ?_)); done) | exact Chg.drop (c1.trans g5) fun b hb hn => by simp at hb hn; (first | lia | omega)) g6
    rw [g3]
    simp only [List.map_append, List.map_cons, List.map_nil, List.mem_append, List.mem_singleton]
    constructor
    · rintro ((hz | hz) | ⟨k', h1, h2, h3⟩)
      · exact .inl hz
      · exact .inr ⟨k, by (first | lia | omega), by (first | lia | omega), by rw [hz]; unfold valD; rw [hat]⟩
      · exact .inr ⟨k', by (first | lia | omega), by (first | lia | omega), h3⟩
    · rintro (hz | ⟨k', h1, h2, h3⟩)
      · exact .inl (.inl hz)
      · by_cases hkk : k' = k
        · subst hkk
          exact .inl (.inr (by rw [h3]; unfold valD; rw [hat]))
        · exact .inr ⟨k', by (first | lia | omega), by (first | lia | omega), h3⟩
theorem pre_F {h : Heap} (T : TopOk top h) {fr it : Nat} {vs : Vs} {aux : Nat → Int × Nat} {ep : Nat} {x l : Int} (h1 : h.get? fr = some (dicF "frame" vs aux ep)) (h2 : h.get? it = some (riO x l 1)) (l1 : 143 ≤ fr) (l2 : 143 ≤ it) (hn : fr ≠ it) : Pre top h (ledF fr it vs aux ep x l) := pre_two T h1 h2 l1 l2 hn
theorem due_j (hP : P = w.params) (Z : DuRuns P top) (sep : TopSep top) {nr : Nat} (a : Rm A nr) (ha : nr ≤ 390) {S : DuS} {ca cb cc : Nat} (D : DuOk S ca cb cc) {H : List (Int × Nat)} {eh fr it sm n tn i ti : Nat} (hn : n < H.length) (hH : H.length ≤ 9) (hi : i * ca ≤ n) (low : 143 ≤ fr ∧ 143 ≤ it ∧ 143 ≤ sm ∧ 143 ≤ S.hl) (nd : [fr, it, S.hl, sm].Nodup) :
    ∀ (m j : Nat) (xs : List (Int × Nat)) (es : Nat) (o : Option (Value × Value)) (h : Heap) (t₀ : Nat), j + m = (n - i * ca) / cb + 1 → TopOk top h → IsDic h fr "frame" (S.vs ([.int n tn, .ref sm, .int i ti] ++ ex2 o)) → h.get? it = some (riO j (.ofNat m) 1) → h.get? S.hl = some (lsO (ivs H) eh) → h.get? sm = some (lsO (ivs xs) es) → xs.length + 9 * m ≤ 100000 → (m = 0 → o ≠ none) →
      (∀ h' t' v1 v2 xs' es', IsDic h' fr "frame" (S.vs [.int n tn, .ref sm, .int i ti, v1, v2]) → h'.get? sm = some (lsO (ivs xs') es') → (∀ z, z ∈ xs'.map (·.1) ↔ z ∈ xs.map (·.1) ∨ ∃ j' k', j ≤ j' ∧ j' < j + m ∧ k' < (n - i * ca - j' * cb) / cc + 1 ∧ z = valD S H ca cb cc n i j' k') → xs'.length ≤ xs.length + 9 * m → Chg h h' [fr, it, sm] → Alive h' → R (.ok .next) ⟨h', g, dr, t', os⟩) →
      codeAny (Md w) A (loopU top 2 fr it) R ⟨h, g, dr, t₀, os⟩ := by
  have so : Ds [fr, it, S.hl, sm] := ⟨nd, fun q hq => by simp at hq; (first | lia | omega)⟩
  have x0 : Ix [fr, it, S.hl, sm] (fr) 0 := ix0
  have x1 : Ix [fr, it, S.hl, sm] (it) 1 := ixs ix0
  have x2 : Ix [fr, it, S.hl, sm] (S.hl) 2 := ixs (ixs ix0)
  have x3 : Ix [fr, it, S.hl, sm] (sm) 3 := ixs (ixs (ixs ix0))
  intro m
  induction m with
  | zero =>
    intro j xs es o h t₀ hk T hfr hit hhl hsm hl ho X
    refine for_endR hP Z sep T a (by (first | lia | omega)) hit low.2.1 (Z.s2 _ _) (fun _ _ _ _ e => loopU_it e) fun h' t' c al => ?_
    obtain ⟨aux, ep, hfr⟩ := hfr
    rcases o with _ | ⟨v1, v2⟩
    · exact absurd rfl (ho rfl)
    · have nd' : fr ≠ it ∧ sm ≠ it := by simp at nd; (first | lia | omega)
      refine X h' t' v1 v2 xs es ⟨aux, ep, c.keep _ _ hfr (by simpa using nd'.1)⟩ (c.keep _ _ hsm (by simpa using nd'.2)) (fun z => ⟨.inl, ?_⟩) (by (first | lia | omega)) (by first | exact Chg.cut c (by (repeat' (first | exact Cut.nil | refine Cut.kept ix0 ?_ | refine Cut.kept (ixs ix0) ?_ | refine Cut.kept (ixs (ixs ix0)) ?_ | refine Cut.kept (ixs (ixs (ixs ix0))) ?_ | refine Cut.kept (ixs (ixs (ixs (ixs ix0)))) ?_ | refine Cut.kept (ixs (ixs (ixs (ixs (ixs ix0))))) ?_ | refine Cut.kept (ixs (ixs (ixs (ixs (ixs (ixs ix0)))))) ?_ | refine Cut.kept (ixs (ixs (ixs (ixs (ixs (ixs (ixs ix0))))))) ?_ | refine Cut.kept (ixs (ixs (ixs (ixs (ixs (ixs (ixs (ixs ix0)))))))) ?_ | refine Cut.fresh (by (first | lia | omega)) ?_)); done) | exact Chg.drop c fun b hb hn => by simp at hb hn; (first | lia | omega)) al
      rintro (hz | ⟨j', k', h1, h2, _⟩)
      · exact hz
      · (first | lia | omega)
  | succ m ih =>
    intro j xs es o h t₀ hk T hfr hit hhl hsm hl ho X
    obtain ⟨aux, ep, hfr⟩ := hfr
    have nd' : fr ≠ it ∧ sm ≠ it ∧ fr ≠ sm ∧ S.hl ≠ fr ∧ S.hl ≠ it ∧ S.hl ≠ sm := by simp at nd; (first | lia | omega)
    have hjc : j * cb ≤ n - i * ca := by
      have h1 : j ≤ (n - i * ca) / cb := by (first | lia | omega)
      exact Nat.le_trans (Nat.mul_le_mul_right cb h1) (Nat.div_mul_le_self _ _)
    have hi9 : i ≤ n := by have := Nat.le_mul_of_pos_right i D.pa.1; (first | lia | omega)
    have hj9 : j ≤ n := by have := Nat.le_mul_of_pos_right j D.pb.1; (first | lia | omega)
    have hidx : (n : Int) - i * S.a - j * S.b = ((n - i * ca - j * cb : Nat) : Int) := by
      rw [D.a, D.b]
      have e1 : (i : Int) * (ca : Int) = ((i * ca : Nat) : Int) := by push_cast; rfl
      have e2 : (j : Int) * (cb : Int) = ((j * cb : Nat) : Int) := by push_cast; rfl
      rw [e1, e2]
      (first | lia | omega)
    have hfd : ((n : Int) - i * S.a - j * S.b).fdiv S.c + 1 = Int.ofNat ((n - i * ca - j * cb) / cc + 1) := by rw [D.c]; exact fdiv1 hidx
    have hm9 : (n - i * ca - j * cb) / cc + 1 ≤ 9 := by have := Nat.div_le_self (n - i * ca - j * cb) cc; (first | lia | omega)
    have hfs : fr < h.objs.size := Heap.lt_size hfr
    have his : it < h.objs.size := Heap.lt_size hit
    have hhs : S.hl < h.objs.size := Heap.lt_size hhl
    have hss : sm < h.objs.size := Heap.lt_size hsm
    have hpc := D.pc
    have hcc := D.c
    refine code_stop (pre_F T hfr hit low.1 low.2.1 nd'.1) sep hP a (by (first | lia | omega)) (ok_for (Z.s2 _ _)) (Z.j1 _ t₀ S fr it aux ep n tn sm i ti j m o) ⟨?_, ?_, ?_, ?_, trivial⟩ fun h1 B1 A' a' => ?_
    · rw [hfd]
      constructor
      · exact Int.natCast_nonneg _
      · show ((_ : Nat) : Int) ≤ 100000; (first | lia | omega)
    · refine ⟨?_, ?_, ?_⟩ <;> (first | lia | omega)
    · constructor <;> (first | lia | omega)
    · constructor <;> (first | lia | omega)
    have s1 := B1.size
    have c1 : Chg h h1 [fr, it] := B1.chg
    have T1 : TopOk top h1 := T.chg sep c1 (by first | ((apply so.notin <;> repeat' (first | assumption | exact Ixs.nil | apply Ixs.cons | exact rfl)); done) | ((apply so.lows <;> repeat' (first | assumption | exact Ixs.nil | apply Ixs.cons | exact rfl)); done) | (simp; (first | lia | omega)))
    have hit1 : h1.get? it = some (riO ((j + 1 : Nat) : Int) (.ofNat m) 1) := by
      have q := B1.at 0 rfl
      have e1 : Int.ofNat (m + 1) - 1 = Int.ofNat m := by simp
      rw [e1] at q
      exact q
    have hit2 : h1.get? (h.objs.size + 1) = some (riO ((0 : Nat) : Int) (.ofNat ((n - i * ca - j * cb) / cc + 1)) 1) := by
      have q := B1.at 1 rfl
      rw [hfd] at q
      exact q
    have hhl1 := c1.kp hhl (by first | ((apply so.notin <;> repeat' (first | assumption | exact Ixs.nil | apply Ixs.cons | exact rfl)); done) | ((apply so.lows <;> repeat' (first | assumption | exact Ixs.nil | apply Ixs.cons | exact rfl)); done) | (simp; (first | lia | omega)))
    have hsm1 := c1.kp hsm (by first | ((apply so.notin <;> repeat' (first | assumption | exact Ixs.nil | apply Ixs.cons | exact rfl)); done) | ((apply so.lows <;> repeat' (first | assumption | exact Ixs.nil | apply Ixs.cons | exact rfl)); done) | (simp; (first | lia | omega)))
    refine due_k hP Z sep a' (by (first | lia | omega)) D hn hH (by (first | lia | omega)) (by (first | lia | omega)) (by first | ((apply so.notin <;> repeat' (first | assumption | exact Ixs.nil | apply Ixs.cons | exact rfl)); done) | ((apply so.lows <;> repeat' (first | assumption | exact Ixs.nil | apply Ixs.cons | exact rfl)); done) | (simp; (first | lia | omega))) ((n - i * ca - j * cb) / cc + 1) 0 xs es (tl1 o) h1 _ (by (first | lia | omega)) T1 (B1.dicAt 0 rfl) hit2 hhl1 hsm1 (by (first | lia | omega)) (fun e => nomatch e) fun h2 t2 v xs2 es2 g1 g2 g3 g4 g5 g6 => ?_
    have T2 : TopOk top h2 := T1.chg sep g5 (by first | ((apply so.notin <;> repeat' (first | assumption | exact Ixs.nil | apply Ixs.cons | exact rfl)); done) | ((apply so.lows <;> repeat' (first | assumption | exact Ixs.nil | apply Ixs.cons | exact rfl)); done) | (simp; (first | lia | omega)))
    refine res_again (L := []) (pre_nil T2) sep hP a (by (first | lia | omega)) (Z.j2 _ t₀ S fr it aux ep n tn sm i ti j m o _ t2) trivial fun h3 B3 => ?_
    have c3 : Chg h2 h3 [] := B3.chg
    have T3 : TopOk top h3 := T2.chg sep c3 (by simp)
    have c13 : Chg h1 h3 [fr, h.objs.size + 1, sm] := (by first | exact Chg.cut (g5.trans c3) (by (repeat' (first | exact Cut.nil | refine Cut.kept ix0 ?_ | refine Cut.kept (ixs ix0) ?_ | refine Cut.kept (ixs (ixs ix0)) ?_ | refine Cut.kept (ixs (ixs (ixs ix0))) ?_ | refine Cut.kept (ixs (ixs (ixs (ixs ix0)))) ?_ | refine Cut.kept (ixs (ixs (ixs (ixs (ixs ix0))))) ?_ | refine Cut.kept (ixs (ixs (ixs (ixs (ixs (ixs ix0)))))) ?_ | refine Cut.kept (ixs (ixs (ixs (ixs (ixs (ixs (ixs ix0))))))) ?_ | refine Cut.kept (ixs (ixs (ixs (ixs (ixs (ixs (ixs (ixs ix0)))))))) ?_ | refine Cut.fresh (by (first | lia | omega)) ?_)); done) | exact Chg.drop (g5.trans c3) fun b hb hn => by simp at hb hn; (first | lia | omega))
    have c03 : Chg h h3 [fr, it, sm] := (c1.trans c13).old fun b hb => by simp at hb ⊢; (first | lia | omega)
    obtain ⟨aux3, ep3, g1⟩ := g1
    refine ih (j + 1) xs2 es2 (some (.int j t₀, v)) h3 _ (by (first | lia | omega)) T3 ⟨aux3, ep3, c3.kp g1 (by simp)⟩ (c13.kp hit1 (by first | ((apply so.notin <;> repeat' (first | assumption | exact Ixs.nil | apply Ixs.cons | exact rfl)); done) | ((apply so.lows <;> repeat' (first | assumption | exact Ixs.nil | apply Ixs.cons | exact rfl)); done) | (simp; (first | lia | omega)))) (c13.kp hhl1 (by first | ((apply so.notin <;> repeat' (first | assumption | exact Ixs.nil | apply Ixs.cons | exact rfl)); done) | ((apply so.lows <;> repeat' (first | assumption | exact Ixs.nil | apply Ixs.cons | exact rfl)); done) | (simp; (first | lia | omega)))) (c3.kp g2 (by simp)) (by (first | lia | omega)) (fun _ e => nomatch e) fun h' t' v1 v2 xs' es' k1 k2 k3 k4 k5 k6 => ?_
    refine X h' t' v1 v2 xs' es' k1 k2 (fun z => ?_) (by (first | lia | omega)) (by first | exact Chg.cut (c03.trans k5) (by (repeat' (first | exact Cut.nil | refine Cut.kept ix0 ?_ | refine Cut.kept (ixs ix0) ?_ | refine Cut.kept (ixs (ixs ix0)) ?_ | refine Cut.kept (ixs (ixs (ixs ix0))) ?_ | refine Cut.kept (ixs (ixs (ixs (ixs ix0)))) ?_ | refine Cut.kept (ixs (ixs (ixs (ixs (ixs ix0))))) ?_ | refine Cut.kept (ixs (ixs (ixs (ixs (ixs (ixs ix0)))))) ?_ | refine Cut.kept (ixs (ixs (ixs (ixs (ixs (ixs (ixs ix0))))))) ?_ | refine Cut.kept (ixs (ixs (ixs (ixs (ixs (ixs (ixs (ixs ix0)))))))) ?_ | refine Cut.fresh (by (first | lia | omega)) ?_)); done) | exact Chg.drop (c03.trans k5) fun b hb hn => by simp at hb hn; (first | lia | omega)) k6
    rw [k3, g3]
    constructor
    · rintro ((hz | ⟨k', h1, h2, h3⟩) | ⟨j', k', h1, h2, h3, h4⟩)
      · exact .inl hz
      · exact .inr ⟨j, k', by (first | lia | omega), by (first | lia | omega), by (first | lia | omega), h3⟩
      · exact .inr ⟨j', k', by (first | lia | omega), by (first | lia | omega), h3, h4⟩
    · rintro (hz | ⟨j', k', h1, h2, h3, h4⟩)
      · exact .inl (.inl hz)
      · by_cases hjj : j' = j
        · subst hjj
          exact .inl (.inr ⟨k', by (first | lia | omega), by (first | lia | omega), h4⟩)
        · exact .inr ⟨j', k', by (first | lia | omega), by (first | lia | omega), h3, h4⟩
theorem due_i (hP : P = w.params) (Z : DuRuns P top) (sep : TopSep top) {nr : Nat} (a : Rm A nr) (ha : nr ≤ 380) {S : DuS} {ca cb cc : Nat} (D : DuOk S ca cb cc) {H : List (Int × Nat)} {eh fr it sm n tn : Nat} (hn : n < H.length) (hH : H.length ≤ 9) (low : 143 ≤ fr ∧ 143 ≤ it ∧ 143 ≤ sm ∧ 143 ≤ S.hl) (nd : [fr, it, S.hl, sm].Nodup) :
    ∀ (m i : Nat) (xs : List (Int × Nat)) (es : Nat) (o : Option (Value × Value × Value)) (h : Heap) (t₀ : Nat), i + m = n / ca + 1 → TopOk top h → IsDic h fr "frame" (S.vs ([.int n tn, .ref sm] ++ ex3 o)) → h.get? it = some (riO i (.ofNat m) 1) → h.get? S.hl = some (lsO (ivs H) eh) → h.get? sm = some (lsO (ivs xs) es) → xs.length + 81 * m ≤ 100000 → (m = 0 → o ≠ none) →
      (∀ h' t' v1 v2 v3 xs' es', IsDic h' fr "frame" (S.vs [.int n tn, .ref sm, v1, v2, v3]) → h'.get? sm = some (lsO (ivs xs') es') → (∀ z, z ∈ xs'.map (·.1) ↔ z ∈ xs.map (·.1) ∨ ∃ i' j' k', i ≤ i' ∧ i' < i + m ∧ j' < (n - i' * ca) / cb + 1 ∧ k' < (n - i' * ca - j' * cb) / cc + 1 ∧ z = valD S H ca cb cc n i' j' k') → Chg h h' [fr, it, sm] → Alive h' → R (.ok .next) ⟨h', g, dr, t', os⟩) →
      codeAny (Md w) A (loopU top 1 fr it) R ⟨h, g, dr, t₀, os⟩ := by
  have so : Ds [fr, it, S.hl, sm] := ⟨nd, fun q hq => by simp at hq; (first | lia | omega)⟩
  have x0 : Ix [fr, it, S.hl, sm] (fr) 0 := ix0
  have x1 : Ix [fr, it, S.hl, sm] (it) 1 := ixs ix0
  have x2 : Ix [fr, it, S.hl, sm] (S.hl) 2 := ixs (ixs ix0)
  have x3 : Ix [fr, it, S.hl, sm] (sm) 3 := ixs (ixs (ixs ix0))
  intro m
  induction m with
  | zero =>
    intro i xs es o h t₀ hk T hfr hit hhl hsm hl ho X
    refine for_endR hP Z sep T a (by (first | lia | omega)) hit low.2.1 (Z.s1 _ _) (fun _ _ _ _ e => loopU_it e) fun h' t' c al => ?_
    obtain ⟨aux, ep, hfr⟩ := hfr
    rcases o with _ | ⟨v1, v2, v3⟩
    · exact absurd rfl (ho rfl)
    · have nd' : fr ≠ it ∧ sm ≠ it := by simp at nd; (first | lia | omega)
      refine X h' t' v1 v2 v3 xs es ⟨aux, ep, c.keep _ _ hfr (by simpa using nd'.1)⟩ (c.keep _ _ hsm (by simpa using nd'.2)) (fun z => ⟨.inl, ?_⟩) (by first | exact Chg.cut c (by (repeat' (first | exact Cut.nil | refine Cut.kept ix0 ?_ | refine Cut.kept (ixs ix0) ?_ | refine Cut.kept (ixs (ixs ix0)) ?_ | refine Cut.kept (ixs (ixs (ixs ix0))) ?_ | refine Cut.kept (ixs (ixs (ixs (ixs ix0)))) ?_ | refine Cut.kept (ixs (ixs (ixs (ixs (ixs ix0))))) ?_ | refine Cut.kept (ixs (ixs (ixs (ixs (ixs (ixs ix0)))))) ?_ | refine Cut.kept (ixs (ixs (ixs (ixs (ixs (ixs (ixs ix0))))))) ?_ | refine Cut.kept (ixs (ixs (ixs (ixs (ixs (ixs (ixs (ixs ix0)))))))) ?_ | refine Cut.fresh (by (first | lia | omega)) ?_)); done) | exact Chg.drop c fun b hb hn => by simp at hb hn; (first | lia | omega)) al
      rintro (hz | ⟨i', j', k', h1, h2, _⟩)
      · exact hz
      · (first | lia | omega)
  | succ m ih =>
    intro i xs es o h t₀ hk T hfr hit hhl hsm hl ho X
    obtain ⟨aux, ep, hfr⟩ := hfr
    have nd' : fr ≠ it ∧ sm ≠ it ∧ fr ≠ sm ∧ S.hl ≠ fr ∧ S.hl ≠ it ∧ S.hl ≠ sm := by simp at nd; (first | lia | omega)
    have hic : i * ca ≤ n := by
      have h1 : i ≤ n / ca := by (first | lia | omega)
      exact Nat.le_trans (Nat.mul_le_mul_right ca h1) (Nat.div_mul_le_self _ _)
    have hi9 : i ≤ n := by have := Nat.le_mul_of_pos_right i D.pa.1; (first | lia | omega)
    have hidx : (n : Int) - i * S.a = ((n - i * ca : Nat) : Int) := by
      rw [D.a]
      have e1 : (i : Int) * (ca : Int) = ((i * ca : Nat) : Int) := by push_cast; rfl
      rw [e1]
      (first | lia | omega)
    have hfd : ((n : Int) - i * S.a).fdiv S.b + 1 = Int.ofNat ((n - i * ca) / cb + 1) := by rw [D.b]; exact fdiv1 hidx
    have hm9 : (n - i * ca) / cb + 1 ≤ 9 := by have := Nat.div_le_self (n - i * ca) cb; (first | lia | omega)
    have hfs : fr < h.objs.size := Heap.lt_size hfr
    have his : it < h.objs.size := Heap.lt_size hit
    have hhs : S.hl < h.objs.size := Heap.lt_size hhl
    have hss : sm < h.objs.size := Heap.lt_size hsm
    have hpb := D.pb
    have hcb := D.b
    refine code_stop (pre_F T hfr hit low.1 low.2.1 nd'.1) sep hP a (by (first | lia | omega)) (ok_for (Z.s1 _ _)) (Z.i1 _ t₀ S fr it aux ep n tn sm i m o) ⟨?_, ?_, ?_, trivial⟩ fun h1 B1 A' a' => ?_
    · rw [hfd]
      constructor
      · exact Int.natCast_nonneg _
      · show ((_ : Nat) : Int) ≤ 100000; (first | lia | omega)
    · refine ⟨?_, ?_, ?_⟩ <;> (first | lia | omega)
    · constructor <;> (first | lia | omega)
    have s1 := B1.size
    have c1 : Chg h h1 [fr, it] := B1.chg
    have T1 : TopOk top h1 := T.chg sep c1 (by first | ((apply so.notin <;> repeat' (first | assumption | exact Ixs.nil | apply Ixs.cons | exact rfl)); done) | ((apply so.lows <;> repeat' (first | assumption | exact Ixs.nil | apply Ixs.cons | exact rfl)); done) | (simp; (first | lia | omega)))
    have hit1 : h1.get? it = some (riO ((i + 1 : Nat) : Int) (.ofNat m) 1) := by
      have q := B1.at 0 rfl
      have e1 : Int.ofNat (m + 1) - 1 = Int.ofNat m := by simp
      rw [e1] at q
      exact q
    have hit2 : h1.get? (h.objs.size + 1) = some (riO ((0 : Nat) : Int) (.ofNat ((n - i * ca) / cb + 1)) 1) := by
      have q := B1.at 1 rfl
      rw [hfd] at q
      exact q
    have hhl1 := c1.kp hhl (by first | ((apply so.notin <;> repeat' (first | assumption | exact Ixs.nil | apply Ixs.cons | exact rfl)); done) | ((apply so.lows <;> repeat' (first | assumption | exact Ixs.nil | apply Ixs.cons | exact rfl)); done) | (simp; (first | lia | omega)))
    have hsm1 := c1.kp hsm (by first | ((apply so.notin <;> repeat' (first | assumption | exact Ixs.nil | apply Ixs.cons | exact rfl)); done) | ((apply so.lows <;> repeat' (first | assumption | exact Ixs.nil | apply Ixs.cons | exact rfl)); done) | (simp; (first | lia | omega)))
    refine due_j hP Z sep a' (by (first | lia | omega)) D hn hH hic (by (first | lia | omega)) (by first | ((apply so.notin <;> repeat' (first | assumption | exact Ixs.nil | apply Ixs.cons | exact rfl)); done) | ((apply so.lows <;> repeat' (first | assumption | exact Ixs.nil | apply Ixs.cons | exact rfl)); done) | (simp; (first | lia | omega))) ((n - i * ca) / cb + 1) 0 xs es (tl2 o) h1 _ (by (first | lia | omega)) T1 (B1.dicAt 0 rfl) hit2 hhl1 hsm1 (by (first | lia | omega)) (fun e => nomatch e) fun h2 t2 v1 v2 xs2 es2 g1 g2 g3 g4 g5 g6 => ?_
    have T2 : TopOk top h2 := T1.chg sep g5 (by first | ((apply so.notin <;> repeat' (first | assumption | exact Ixs.nil | apply Ixs.cons | exact rfl)); done) | ((apply so.lows <;> repeat' (first | assumption | exact Ixs.nil | apply Ixs.cons | exact rfl)); done) | (simp; (first | lia | omega)))
    refine res_again (L := []) (pre_nil T2) sep hP a (by (first | lia | omega)) (Z.i2 _ t₀ S fr it aux ep n tn sm i m o _ t2) trivial fun h3 B3 => ?_
    have c3 : Chg h2 h3 [] := B3.chg
    have T3 : TopOk top h3 := T2.chg sep c3 (by simp)
    have c13 : Chg h1 h3 [fr, h.objs.size + 1, sm] := (by first | exact Chg.cut (g5.trans c3) (by (repeat' (first | exact Cut.nil | refine Cut.kept ix0 ?_ | refine Cut.kept (ixs ix0) ?_ | refine Cut.kept (ixs (ixs ix0)) ?_ | refine Cut.kept (ixs (ixs (ixs ix0))) ?_ | refine Cut.kept (ixs (ixs (ixs (ixs ix0)))) ?_ | refine Cut.kept (ixs (ixs (ixs (ixs (ixs ix0))))) ?_ | refine Cut.kept (ixs (ixs (ixs (ixs (ixs (ixs ix0)))))) ?_ | refine Cut.kept (ixs (ixs (ixs (ixs (ixs (ixs (ixs ix0))))))) ?_ | refine Cut.kept (ixs (ixs (ixs (ixs (ixs (ixs (ixs (ixs ix0)))))))) ?_ | refine Cut.fresh (by (first | lia | omega)) ?_)); done) | exact Chg.drop (g5.trans c3) fun b hb hn => by simp at hb hn; (first | lia | omega))
    have c03 : Chg h h3 [fr, it, sm] := (c1.trans c13).old fun b hb => by simp at hb ⊢; (first | lia | omega)
    obtain ⟨aux3, ep3, g1⟩ := g1
    refine ih (i + 1) xs2 es2 (some (.int i t₀, v1, v2)) h3 _ (by (first | lia | omega)) T3 ⟨aux3, ep3, c3.kp g1 (by simp)⟩ (c13.kp hit1 (by first | ((apply so.notin <;> repeat' (first | assumption | exact Ixs.nil | apply Ixs.cons | exact rfl)); done) | ((apply so.lows <;> repeat' (first | assumption | exact Ixs.nil | apply Ixs.cons | exact rfl)); done) | (simp; (first | lia | omega)))) (c13.kp hhl1 (by first | ((apply so.notin <;> repeat' (first | assumption | exact Ixs.nil | apply Ixs.cons | exact rfl)); done) | ((apply so.lows <;> repeat' (first | assumption | exact Ixs.nil | apply Ixs.cons | exact rfl)); done) | (simp; (first | lia | omega)))) (c3.kp g2 (by simp)) (by (first | lia | omega)) (fun _ e => nomatch e) fun h' t' w1 w2 w3 xs' es' k1 k2 k3 k5 k6 => ?_
    refine X h' t' w1 w2 w3 xs' es' k1 k2 (fun z => ?_) (by first | exact Chg.cut (c03.trans k5) (by (repeat' (first | exact Cut.nil | refine Cut.kept ix0 ?_ | refine Cut.kept (ixs ix0) ?_ | refine Cut.kept (ixs (ixs ix0)) ?_ | refine Cut.kept (ixs (ixs (ixs ix0))) ?_ | refine Cut.kept (ixs (ixs (ixs (ixs ix0)))) ?_ | refine Cut.kept (ixs (ixs (ixs (ixs (ixs ix0))))) ?_ | refine Cut.kept (ixs (ixs (ixs (ixs (ixs (ixs ix0)))))) ?_ | refine Cut.kept (ixs (ixs (ixs (ixs (ixs (ixs (ixs ix0))))))) ?_ | refine Cut.kept (ixs (ixs (ixs (ixs (ixs (ixs (ixs (ixs ix0)))))))) ?_ | refine Cut.fresh (by (first | lia | omega)) ?_)); done) | exact Chg.drop (c03.trans k5) fun b hb hn => by simp at hb hn; (first | lia | omega)) k6
    rw [k3, g3]
    constructor
    · rintro ((hz | ⟨j', k', h1, h2, h3, h4⟩) | ⟨i', j', k', h1, h2, h3, h4, h5⟩)
      · exact .inl hz
      · exact .inr ⟨i, j', k', by (first | lia | omega), by (first | lia | omega), by (first | lia | omega), h3, h4⟩
      · exact .inr ⟨i', j', k', by (first | lia | omega), by (first | lia | omega), h3, h4, h5⟩
    · rintro (hz | ⟨i', j', k', h1, h2, h3, h4, h5⟩)
      · exact .inl (.inl hz)
      · by_cases hii : i' = i
        · subst hii
          exact .inl (.inr ⟨j', k', by (first | lia | omega), by (first | lia | omega), h4, h5⟩)
        · exact .inr ⟨i', j', k', by (first | lia | omega), by (first | lia | omega), h3, h4, h5⟩
/-- the sums are the ways -/
theorem ways_sum {S : DuS} {H : List (Int × Nat)} {ca cb cc n : Nat} (ha : 1 ≤ ca) (hb : 1 ≤ cb) (hc : 1 ≤ cc) {L : List Int} {M : Int} (hL : ∀ z, z ∈ L ↔ ∃ i' j' k', i' < n / ca + 1 ∧ j' < (n - i' * ca) / cb + 1 ∧ k' < (n - i' * ca - j' * cb) / cc + 1 ∧ z = valD S H ca cb cc n i' j' k') (h1 : M ∈ L) (h2 : ∀ y ∈ L, y ≤ M) :
    Top' (at' (H.map (·.1))) [(ca, S.s), (cb, S.t), (cc, S.u)] n M := by
  have key : ∀ z, z ∈ L ↔ ∃ m gn, Ways [(ca, S.s), (cb, S.t), (cc, S.u)] n m gn ∧ z = at' (H.map (·.1)) m + gn := by
    intro z
    rw [hL]
    constructor
    · rintro ⟨i, j, k, h1, h2, h3, h4⟩
      have e1 : i * ca ≤ n := Nat.le_trans (Nat.mul_le_mul_right ca (show i ≤ n / ca by (first | lia | omega))) (Nat.div_mul_le_self _ _)
      have e2 : j * cb ≤ n - i * ca := Nat.le_trans (Nat.mul_le_mul_right cb (show j ≤ (n - i * ca) / cb by (first | lia | omega))) (Nat.div_mul_le_self _ _)
      have e3 : k * cc ≤ n - i * ca - j * cb := Nat.le_trans (Nat.mul_le_mul_right cc (show k ≤ (n - i * ca - j * cb) / cc by (first | lia | omega))) (Nat.div_mul_le_self _ _)
      refine ⟨n - i * ca - j * cb - k * cc, 0 + (k + 1) * S.u + (j + 1) * S.t + (i + 1) * S.s, ⟨i, _, e1, ⟨j, _, e2, ⟨k, _, e3, ⟨rfl, rfl⟩, rfl⟩, rfl⟩, rfl⟩, ?_⟩
      rw [h4]; unfold valD; (first | lia | omega)
    · rintro ⟨m, gn, ⟨i, g1, e1, ⟨j, g2, e2, ⟨k, g3, e3, ⟨e4, e5⟩, e6⟩, e7⟩, e8⟩, e9⟩
      dsimp only at e1 e2 e3 e4 e6 e7 e8
      have f1 : i ≤ n / ca := (Nat.le_div_iff_mul_le (by (first | lia | omega))).mpr e1
      have f2 : j ≤ (n - i * ca) / cb := (Nat.le_div_iff_mul_le (by (first | lia | omega))).mpr e2
      have f3 : k ≤ (n - i * ca - j * cb) / cc := (Nat.le_div_iff_mul_le (by (first | lia | omega))).mpr e3
      refine ⟨i, j, k, by (first | lia | omega), by (first | lia | omega), by (first | lia | omega), ?_⟩
      rw [e9, e8, e7, e6, e5, e4]; unfold valD; (first | lia | omega)
  refine ⟨(key M).mp h1, fun m gn hw => h2 _ ((key _).mpr ⟨m, gn, hw, rfl⟩)⟩
theorem pre_M {h : Heap} (T : TopOk top h) {fr du : Nat} {vs : Vs} {aux : Nat → Int × Nat} {ep : Nat} {D : List Value} {ed : Nat} (h1 : h.get? fr = some (dicF "frame" vs aux ep)) (h2 : h.get? du = some (lsO D ed)) (l1 : 143 ≤ fr) (l2 : 143 ≤ du) (hn : fr ≠ du) : Pre top h (ledM fr du vs aux ep D ed) := pre_two T h1 h2 l1 l2 hn
theorem due_n (hP : P = w.params) (Z : DuRuns P top) (sep : TopSep top) {nr : Nat} (a : Rm A nr) (ha : nr ≤ 370) {S : DuS} {ca cb cc : Nat} (K : DuOk S ca cb cc) {H : List (Int × Nat)} {eh fr it : Nat} (hH : H.length ≤ 9) (low : 143 ≤ fr ∧ 143 ≤ it ∧ 143 ≤ S.du ∧ 143 ≤ S.hl) (nd : [fr, it, S.hl, S.du].Nodup) :
    ∀ (m n : Nat) (D : List (Int × Nat)) (ed : Nat) (o : Option (Value × Value × Value × Value × Value)) (h : Heap) (t₀ : Nat), n + m = H.length → TopOk top h → IsDic h fr "frame" (S.vs (ex5 o)) → h.get? it = some (riO n (.ofNat m) 1) → h.get? S.hl = some (lsO (ivs H) eh) → h.get? S.du = some (lsO (ivs D) ed) → D.length = n → (∀ n', n' < n → Top' (at' (H.map (·.1))) [(ca, S.s), (cb, S.t), (cc, S.u)] n' (at' (D.map (·.1)) n')) →
      (∀ h' t' ex D' ed', IsDic h' fr "frame" (S.vs ex) → h'.get? S.du = some (lsO (ivs D') ed') → D'.length = H.length → (∀ n', n' < H.length → Top' (at' (H.map (·.1))) [(ca, S.s), (cb, S.t), (cc, S.u)] n' (at' (D'.map (·.1)) n')) → Chg h h' [fr, it, S.du] → R (.ok .next) ⟨h', g, dr, t', os⟩) →
      codeAny (Md w) A (loopU top 0 fr it) R ⟨h, g, dr, t₀, os⟩ := by
  have so : Ds [fr, it, S.hl, S.du] := ⟨nd, fun q hq => by simp at hq; (first | lia | omega)⟩
  have x0 : Ix [fr, it, S.hl, S.du] (fr) 0 := ix0
  have x1 : Ix [fr, it, S.hl, S.du] (it) 1 := ixs ix0
  have x2 : Ix [fr, it, S.hl, S.du] (S.hl) 2 := ixs (ixs ix0)
  have x3 : Ix [fr, it, S.hl, S.du] (S.du) 3 := ixs (ixs (ixs ix0))
  intro m
  induction m with
  | zero =>
    intro n D ed o h t₀ hk T hfr hit hhl hdu hD hT X
    refine for_endR hP Z sep T a (by (first | lia | omega)) hit low.2.1 (Z.s0 _ _) (fun _ _ _ _ e => loopU_it e) fun h' t' c al => ?_
    obtain ⟨aux, ep, hfr⟩ := hfr
    have nd' : fr ≠ it ∧ S.du ≠ it := by simp at nd; (first | lia | omega)
    exact X h' t' _ D ed ⟨aux, ep, c.keep _ _ hfr (by simpa using nd'.1)⟩ (c.keep _ _ hdu (by simpa using nd'.2)) (by (first | lia | omega)) (fun n' hn' => hT n' (by (first | lia | omega))) (by first | exact Chg.cut c (by (repeat' (first | exact Cut.nil | refine Cut.kept ix0 ?_ | refine Cut.kept (ixs ix0) ?_ | refine Cut.kept (ixs (ixs ix0)) ?_ | refine Cut.kept (ixs (ixs (ixs ix0))) ?_ | refine Cut.kept (ixs (ixs (ixs (ixs ix0)))) ?_ | refine Cut.kept (ixs (ixs (ixs (ixs (ixs ix0))))) ?_ | refine Cut.kept (ixs (ixs (ixs (ixs (ixs (ixs ix0)))))) ?_ | refine Cut.kept (ixs (ixs (ixs (ixs (ixs (ixs (ixs ix0))))))) ?_ | refine Cut.kept (ixs (ixs (ixs (ixs (ixs (ixs (ixs (ixs ix0)))))))) ?_ | refine Cut.fresh (by (first | lia | omega)) ?_)); done) | exact Chg.drop c fun b hb hn => by simp at hb hn; (first | lia | omega))
  | succ m ih =>
    intro n D ed o h t₀ hk T hfr hit hhl hdu hD hT X
    obtain ⟨aux, ep, hfr⟩ := hfr
    have nd' : fr ≠ it ∧ S.du ≠ it ∧ fr ≠ S.du ∧ S.hl ≠ fr ∧ S.hl ≠ it ∧ S.hl ≠ S.du := by simp at nd; (first | lia | omega)
    have hfd : (n : Int).fdiv S.a + 1 = Int.ofNat (n / ca + 1) := by rw [K.a]; exact fdiv1 rfl
    have hm9 : n / ca + 1 ≤ 9 := by have := Nat.div_le_self n ca; (first | lia | omega)
    have hfs : fr < h.objs.size := Heap.lt_size hfr
    have his : it < h.objs.size := Heap.lt_size hit
    have hhs : S.hl < h.objs.size := Heap.lt_size hhl
    have hds : S.du < h.objs.size := Heap.lt_size hdu
    have hpa := K.pa
    have hca := K.a
    refine code_stop (pre_F T hfr hit low.1 low.2.1 nd'.1) sep hP a (by (first | lia | omega)) (ok_for (Z.s0 _ _)) (Z.n1 _ t₀ S fr it aux ep n m o) ⟨?_, ?_, trivial⟩ fun h1 B1 A' a' => ?_
    · rw [hfd]
      constructor
      · exact Int.natCast_nonneg _
      · show ((_ : Nat) : Int) ≤ 100000; (first | lia | omega)
    · refine ⟨?_, ?_, ?_⟩ <;> (first | lia | omega)
    have s1 := B1.size
    have c1 : Chg h h1 [fr, it] := B1.chg
    have T1 : TopOk top h1 := T.chg sep c1 (by first | ((apply so.notin <;> repeat' (first | assumption | exact Ixs.nil | apply Ixs.cons | exact rfl)); done) | ((apply so.lows <;> repeat' (first | assumption | exact Ixs.nil | apply Ixs.cons | exact rfl)); done) | (simp; (first | lia | omega)))
    have hit1 : h1.get? it = some (riO ((n + 1 : Nat) : Int) (.ofNat m) 1) := by
      have q := B1.at 0 rfl
      have e1 : Int.ofNat (m + 1) - 1 = Int.ofNat m := by simp
      rw [e1] at q
      exact q
    have hit2 : h1.get? (h.objs.size + 2) = some (riO ((0 : Nat) : Int) (.ofNat (n / ca + 1)) 1) := by
      have q := B1.at 2 rfl
      rw [hfd] at q
      exact q
    have hhl1 := c1.kp hhl (by first | ((apply so.notin <;> repeat' (first | assumption | exact Ixs.nil | apply Ixs.cons | exact rfl)); done) | ((apply so.lows <;> repeat' (first | assumption | exact Ixs.nil | apply Ixs.cons | exact rfl)); done) | (simp; (first | lia | omega)))
    have hdu1 := c1.kp hdu (by first | ((apply so.notin <;> repeat' (first | assumption | exact Ixs.nil | apply Ixs.cons | exact rfl)); done) | ((apply so.lows <;> repeat' (first | assumption | exact Ixs.nil | apply Ixs.cons | exact rfl)); done) | (simp; (first | lia | omega)))
    refine due_i hP Z sep a' (by (first | lia | omega)) K (show n < H.length by (first | lia | omega)) hH (sm := h.objs.size) (by (first | lia | omega)) (by first | ((apply so.notin <;> repeat' (first | assumption | exact Ixs.nil | apply Ixs.cons | exact rfl)); done) | ((apply so.lows <;> repeat' (first | assumption | exact Ixs.nil | apply Ixs.cons | exact rfl)); done) | (simp; (first | lia | omega))) (n / ca + 1) 0 [] 0 (tl3 o) h1 _ (by (first | lia | omega)) T1 (B1.dicAt 0 rfl) hit2 hhl1 (B1.at 1 rfl) (by first | ((apply so.notin <;> repeat' (first | assumption | exact Ixs.nil | apply Ixs.cons | exact rfl)); done) | ((apply so.lows <;> repeat' (first | assumption | exact Ixs.nil | apply Ixs.cons | exact rfl)); done) | (simp; (first | lia | omega))) (fun e => nomatch e) fun h2 t2 v1 v2 v3 xs es g1 g2 g3 g5 g6 => ?_
    have s2 := g5.size
    have T2 : TopOk top h2 := T1.chg sep g5 (by first | ((apply so.notin <;> repeat' (first | assumption | exact Ixs.nil | apply Ixs.cons | exact rfl)); done) | ((apply so.lows <;> repeat' (first | assumption | exact Ixs.nil | apply Ixs.cons | exact rfl)); done) | (simp; (first | lia | omega)))
    obtain ⟨aux2, ep2, g1⟩ := g1
    have hdu2 := g5.kp hdu1 (by first | ((apply so.notin <;> repeat' (first | assumption | exact Ixs.nil | apply Ixs.cons | exact rfl)); done) | ((apply so.lows <;> repeat' (first | assumption | exact Ixs.nil | apply Ixs.cons | exact rfl)); done) | (simp; (first | lia | omega)))
    refine res_stopW (pre_M T2 g1 hdu2 low.1 low.2.2.1 nd'.2.2.1) sep hP a (by (first | lia | omega)) (Z.n2 _ t₀ S fr it aux ep n m o _ t2 h.objs.size _ v1 v2 v3 aux2 ep2 (ivs D) ed) trivial fun h3 B3 A'' a'' => ?_
    have s3 := B3.size
    have c3 : Chg h2 h3 [fr] := Chg.cut B3.chg (by repeat' (first | exact Cut.nil | refine Cut.kept ix0 ?_ | refine Cut.kept (ixs ix0) ?_ | refine Cut.kept (ixs (ixs ix0)) ?_ | refine Cut.kept (ixs (ixs (ixs ix0))) ?_ | refine Cut.kept (ixs (ixs (ixs (ixs ix0)))) ?_ | refine Cut.kept (ixs (ixs (ixs (ixs (ixs ix0))))) ?_ | refine Cut.kept (ixs (ixs (ixs (ixs (ixs (ixs ix0)))))) ?_ | refine Cut.kept (ixs (ixs (ixs (ixs (ixs (ixs (ixs ix0))))))) ?_ | refine Cut.kept (ixs (ixs (ixs (ixs (ixs (ixs (ixs (ixs ix0)))))))) ?_ | refine Cut.same hdu2 (B3.at 0 rfl) ?_ | refine Cut.fresh (by (first | lia | omega)) ?_))
    have T3 : TopOk top h3 := T2.chg sep c3 (by first | ((apply so.notin <;> repeat' (first | assumption | exact Ixs.nil | apply Ixs.cons | exact rfl)); done) | ((apply so.lows <;> repeat' (first | assumption | exact Ixs.nil | apply Ixs.cons | exact rfl)); done) | (simp; (first | lia | omega)))
    have hsm3 := c3.kp g2 (by first | ((apply so.notin <;> repeat' (first | assumption | exact Ixs.nil | apply Ixs.cons | exact rfl)); done) | ((apply so.lows <;> repeat' (first | assumption | exact Ixs.nil | apply Ixs.cons | exact rfl)); done) | (simp; (first | lia | omega)))
    have hne : xs ≠ [] := by
      intro e
      have : valD S H ca cb cc n 0 0 0 ∈ xs.map (·.1) := (g3 _).mpr (.inr ⟨0, 0, 0, Nat.le_refl _, by rw [Nat.zero_add]; exact Nat.succ_pos _, Nat.succ_pos _, Nat.succ_pos _, rfl⟩)
      rw [e] at this
      simp at this
    refine max_spec a''.handled (c3.alive g6 (by (first | lia | omega)) (by first | ((apply so.notin <;> repeat' (first | assumption | exact Ixs.nil | apply Ixs.cons | exact rfl)); done) | ((apply so.lows <;> repeat' (first | assumption | exact Ixs.nil | apply Ixs.cons | exact rfl)); done) | (simp; (first | lia | omega)))) hsm3 hne fun h4 t4 M tM hM1 hM2 c4 => ?_
    have s4 := c4.size
    have T4 : TopOk top h4 := T3.chg sep c4 (by simp)
    obtain ⟨aux3, ep3, hfr3⟩ := B3.dicAt 0 rfl
    have hdu4 := c4.kp (B3.at 0 rfl) (by simp)
    refine res_again (pre_M T4 (c4.kp hfr3 (by simp)) hdu4 low.1 low.2.2.1 nd'.2.2.1) sep hP a (by (first | lia | omega)) (Z.n3 _ t₀ S fr it aux ep n m o _ t2 h.objs.size _ v1 v2 v3 aux2 ep2 (ivs D) ed _ t4 aux3 ep3 M tM) ⟨by simp; (first | lia | omega), trivial⟩ fun h5 B5 => ?_
    have s5 := B5.size
    have c5 : Chg h4 h5 [fr, S.du] := B5.chg
    have T5 : TopOk top h5 := T4.chg sep c5 (by first | ((apply so.notin <;> repeat' (first | assumption | exact Ixs.nil | apply Ixs.cons | exact rfl)); done) | ((apply so.lows <;> repeat' (first | assumption | exact Ixs.nil | apply Ixs.cons | exact rfl)); done) | (simp; (first | lia | omega)))
    have c15 : Chg h1 h5 [fr, h.objs.size + 2, h.objs.size, S.du] := (((g5.trans c3).trans c4).trans c5).drop fun b hb hn => by simp at hb hn; (first | lia | omega)
    have c05 : Chg h h5 [fr, it, S.du] := (c1.trans c15).old fun b hb => by simp at hb ⊢; (first | lia | omega)
    have hdu5 : h5.get? S.du = some (lsO (ivs (D ++ [(M, tM)])) (ed + 1)) := by
      have q := B5.at 0 rfl
      rw [q]; simp
    refine ih (n + 1) (D ++ [(M, tM)]) (ed + 1) (some (_, _, _, _, _)) h5 _ (by (first | lia | omega)) T5 (B5.dicAt 0 rfl) (c15.kp hit1 (by first | ((apply so.notin <;> repeat' (first | assumption | exact Ixs.nil | apply Ixs.cons | exact rfl)); done) | ((apply so.lows <;> repeat' (first | assumption | exact Ixs.nil | apply Ixs.cons | exact rfl)); done) | (simp; (first | lia | omega)))) (c15.kp hhl1 (by first | ((apply so.notin <;> repeat' (first | assumption | exact Ixs.nil | apply Ixs.cons | exact rfl)); done) | ((apply so.lows <;> repeat' (first | assumption | exact Ixs.nil | apply Ixs.cons | exact rfl)); done) | (simp; (first | lia | omega)))) hdu5 (by first | ((apply so.notin <;> repeat' (first | assumption | exact Ixs.nil | apply Ixs.cons | exact rfl)); done) | ((apply so.lows <;> repeat' (first | assumption | exact Ixs.nil | apply Ixs.cons | exact rfl)); done) | (simp; (first | lia | omega))) ?_ fun h' t' ex D' ed' k1 k2 k3 k4 k5 => ?_
    · intro n' hn'
      have hlD : (D.map (·.1)).length = n := by simpa using hD
      by_cases e : n' = n
      · subst e
        have e1 : at' ((D ++ [(M, tM)]).map (·.1)) n' = M := by
          unfold at'
          rw [List.map_append, List.getElem?_append_right (by (first | lia | omega)), hlD]
          simp
        rw [e1]
        refine ways_sum K.pa.1 K.pb.1 K.pc.1 (fun z => ?_) hM1 hM2
        rw [g3]
        constructor
        · rintro (hz | ⟨i', j', k', _, h2, h3, h4, h5⟩)
          · simp at hz
          · exact ⟨i', j', k', by (first | lia | omega), h3, h4, h5⟩
        · rintro ⟨i', j', k', h2, h3, h4, h5⟩
          exact .inr ⟨i', j', k', by (first | lia | omega), by (first | lia | omega), h3, h4, h5⟩
      · have e1 : at' ((D ++ [(M, tM)]).map (·.1)) n' = at' (D.map (·.1)) n' := by
          unfold at'
          rw [List.map_append, List.getElem?_append_left (by (first | lia | omega))]
        rw [e1]
        exact hT n' (by (first | lia | omega))
    · exact X h' t' ex D' ed' k1 k2 k3 k4 (by first | exact Chg.cut (c05.trans k5) (by (repeat' (first | exact Cut.nil | refine Cut.kept ix0 ?_ | refine Cut.kept (ixs ix0) ?_ | refine Cut.kept (ixs (ixs ix0)) ?_ | refine Cut.kept (ixs (ixs (ixs ix0))) ?_ | refine Cut.kept (ixs (ixs (ixs (ixs ix0)))) ?_ | refine Cut.kept (ixs (ixs (ixs (ixs (ixs ix0))))) ?_ | refine Cut.kept (ixs (ixs (ixs (ixs (ixs (ixs ix0)))))) ?_ | refine Cut.kept (ixs (ixs (ixs (ixs (ixs (ixs (ixs ix0))))))) ?_ | refine Cut.kept (ixs (ixs (ixs (ixs (ixs (ixs (ixs (ixs ix0)))))))) ?_ | refine Cut.fresh (by (first | lia | omega)) ?_)); done) | exact Chg.drop (c05.trans k5) fun b hb hn => by simp at hb hn; (first | lia | omega))
theorem due_spec (hP : P = w.params) (Z : DuRuns P top) (sep : TopSep top) {h : Heap} {t₀ : Nat} (T : TopOk top h) {nr : Nat} (a : Rm A nr) (ha : nr ≤ 360) {hl dl d0 d1 d2 e eh : Nat} {c : Nat → Nat} {s : Nat → Int} {tc ts : Nat → Nat} {H : List (Int × Nat)} (hc : ∀ k, 1 ≤ c k ∧ c k ≤ 4) (hH : H.length ≤ 9) (hhl : h.get? hl = some (lsO (ivs H) eh)) (D : Desks h dl d0 d1 d2 e c s tc ts) (low : 143 ≤ hl) (hB : 143 ≤ h.objs.size) (nd : [hl, dl, d0, d1, d2].Nodup)
    (X : ∀ h' t' du D' ed', h'.get? du = some (lsO (ivs D') ed') → D'.length = H.length → (∀ n', n' < H.length → Top' (at' (H.map (·.1))) [(c 0, s 0), (c 1, s 1), (c 2, s 2)] n' (at' (D'.map (·.1)) n')) → Chg h h' [] → h.objs.size ≤ du → R (.ok (.ret (.ref du))) ⟨h', g, dr, t', os⟩) :
    codeAny (Md w) A (dueCall hl dl) R ⟨h, g, dr, t₀, os⟩ := by
  let S : DuS := ⟨hl, dl, c 0, tc 0, s 0, ts 0, c 1, tc 1, s 1, ts 1, c 2, tc 2, s 2, ts 2, h.objs.size + 13⟩
  have K : DuOk S (c 0) (c 1) (c 2) := ⟨rfl, rfl, rfl, by have := hc 0; (first | lia | omega), by have := hc 1; (first | lia | omega), by have := hc 2; (first | lia | omega)⟩
  have Dl := D.low
  have hsz : hl < h.objs.size := Heap.lt_size hhl
  have pre : Pre top h (ledU S H eh d0 d1 d2 e) := by
    refine pre_mk T ?_ nd ?_
    · intro q hq
      simp only [ledU, List.mem_cons, List.not_mem_nil, or_false] at hq
      rcases hq with rfl | rfl | rfl | rfl | rfl
      · exact hhl
      · exact D.list
      · exact D.t0
      · exact D.t1
      · exact D.t2
    · intro q hq
      simp [ledU, S] at hq
      (first | lia | omega)
  refine code_stop pre sep hP a (by (first | lia | omega)) rfl (Z.entry _ t₀ S H eh d0 d1 d2 e rfl) ⟨⟨Int.natCast_nonneg _, by simp; (first | lia | omega)⟩, by simp; (first | lia | omega), trivial⟩ fun h1 B1 A' a' => ?_
  have s1 := B1.size
  have c1 : Chg h h1 [] := B1.chg.drop fun b hb hn => by
    simp [ledU, S] at hb
    rcases hb with rfl | rfl | rfl | rfl | rfl
    · exact same_of hhl (B1.at 0 rfl)
    · exact same_of D.list (B1.at 1 rfl)
    · exact same_of D.t0 (B1.at 2 rfl)
    · exact same_of D.t1 (B1.at 3 rfl)
    · exact same_of D.t2 (B1.at 4 rfl)
  have T1 : TopOk top h1 := T.chg sep c1 (by simp)
  have hit : h1.get? (h.objs.size + 15) = some (riO ((0 : Nat) : Int) (.ofNat H.length) 1) := by
    have q := B1.at 6 rfl
    have e1 : (ivs H).length = H.length := by simp
    rw [e1] at q
    exact q
  refine due_n hP Z sep a' (by (first | lia | omega)) K hH ⟨show 143 ≤ h.objs.size by (first | lia | omega), show 143 ≤ h.objs.size + 15 by (first | lia | omega), show 143 ≤ h.objs.size + 13 by (first | lia | omega), low⟩ (by simp [S]; (first | lia | omega)) H.length 0 [] 0 none h1 _ (by (first | lia | omega)) T1 (B1.dicAt 0 rfl) hit (c1.kp hhl (by simp)) (B1.at 5 rfl) rfl (fun n' hn' => by (first | lia | omega)) fun h2 t2 ex D' ed' g1 g2 g3 g4 g5 => ?_
  have c2 : Chg h h2 [] := (c1.trans g5).none fun b hb => by simp [S] at hb; (first | lia | omega)
  have T2 : TopOk top h2 := T.chg sep c2 (by simp)
  obtain ⟨aux, ep, g1⟩ := g1
  refine res_fin (pre_one T2 g1 hB) sep hP a (by (first | lia | omega)) (Z.back _ t₀ S H eh d0 d1 d2 e ex aux ep _ t2 rfl) trivial fun h3 B3 => ?_
  have c3 : Chg h2 h3 [h.objs.size] := B3.chg
  exact X h3 _ _ D' ed' (c3.kp g2 (by simp [S])) g3 g4 ((c2.trans c3).none fun b hb => by simp at hb; (first | lia | omega)) (by simp [S])
end
end
end Mine

end
section
open PySem PySem.W PySem.W.X PyProof.Rows
set_option maxRecDepth 100000
set_option Elab.async false
set_option maxHeartbeats 2000000
set_option genInjectivity false
set_option genSizeOfSpec false
namespace Mine
noncomputable section
/-! statements one by one: runs of parts of a body -/
noncomputable abbrev zwExecs := ZFast.zw12563942051412417395
noncomputable abbrev zwEval := ZFast.zw14044960220447912780
noncomputable abbrev zwIsTrue := ZFast.zw15418851999007992765
noncomputable def flowT (m : Sem Flow) : Sem PySem.Fin := R.bindR m fun f => .pure (.done f)
noncomputable def valT (m : Sem Value) : Sem PySem.Fin := R.bindR m fun v => .pure (.done (.ret v))
noncomputable def boolT (m : Sem Bool) : Sem PySem.Fin := R.bindR m fun b => .pure (.done (.ret (.bool b)))
noncomputable def stT (c : Code) (t : Sem PySem.Fin) (T : BT) (q : Nat) : RS := ⟨c, .base, 0, t, T, 0, 0, q, [], []⟩
theorem stT_inv {c : Code} {t : Sem PySem.Fin} {T : BT} {q : Nat} (hk : okCode c = true) : Inv (stT c t T q) := ⟨rfl, (ok_weight hk).1, (ok_weight hk).2, Nat.zero_le _⟩
noncomputable abbrev OwnP (w : World) (A : Around) (c : Code) (b : List Stmt) (env : Env) (Q : Flow → Shared → Prop) (s : Shared) : Prop := wpOwn (Md w) A c (execs b env) Q (fun _ _ => False) s
noncomputable def okR (Q : Flow → Shared → Prop) : Result → Shared → Prop := fun r s => match r with
  | .ok f => Q f s
  | .error _ => False
noncomputable def valR (Q : Value → Shared → Prop) : Result → Shared → Prop := fun r s => match r with
  | .ok (.ret v) => Q v s
  | _ => False
noncomputable def boolR (Q : Bool → Shared → Prop) : Result → Shared → Prop := fun r s => match r with
  | .ok (.ret (.bool b)) => Q b s
  | _ => False
section
variable {w : World} {A : Around} {c : Code} {s : Shared} {env : Env}
theorem own_of_goal {b : List Stmt} {Q : Flow → Shared → Prop} (x : GoalP w A (okR Q) .base c (flowT (zwExecs b env)) s) : OwnP w A c b env Q s := by
  intro Γ p hc hΓ
  have z := x Γ p hc hΓ
  unfold flowT at z
  rw [bindR_is, Sem.wp_bind', show zwExecs b env = execs b env from by rw [show zwExecs = execs from ZFast.ze12563942051412417395.symm]] at z
  exact Sem.wp_mono _ Γ _ (fun f p' s' h => h) (fun e p' s' h => h) p s z
theorem ownV_of_goal {e : Expr} {Q : Value → Shared → Prop} (x : GoalP w A (valR Q) .base c (valT (zwEval e env)) s) : wpOwn (Md w) A c (eval e env) Q (fun _ _ => False) s := by
  intro Γ p hc hΓ
  have z := x Γ p hc hΓ
  unfold valT at z
  rw [bindR_is, Sem.wp_bind', show zwEval e env = eval e env from by rw [show zwEval = eval from ZFast.ze14044960220447912780.symm]] at z
  exact Sem.wp_mono _ Γ _ (fun f p' s' h => h) (fun e p' s' h => h) p s z
theorem ownB_of_goal {e : Expr} {Q : Bool → Shared → Prop} (x : GoalP w A (boolR Q) .base c (boolT (zwIsTrue e env (zwEval e env))) s) : wpOwn (Md w) A c (PySem.isTrue e env (eval e env)) Q (fun _ _ => False) s := by
  intro Γ p hc hΓ
  have z := x Γ p hc hΓ
  unfold boolT at z
  rw [bindR_is, Sem.wp_bind', show zwIsTrue e env (zwEval e env) = PySem.isTrue e env (eval e env) from by rw [show zwEval = eval from ZFast.ze14044960220447912780.symm, show zwIsTrue = PySem.isTrue from ZFast.ze15418851999007992765.symm]] at z
  exact Sem.wp_mono _ Γ _ (fun f p' s' h => h) (fun e p' s' h => h) p s z
theorem own_nil {Q : Flow → Shared → Prop} (h : Q .next s) : OwnP w A c [] env Q s := fun _ _ _ _ => h
theorem execs_app : ∀ (xs ys : List Stmt), execs (xs ++ ys) env = (do match ← execs xs env with | .next => execs ys env | f => pure f)
  | [], ys => rfl
  | x :: xs, ys => by
    have ih := execs_app xs ys
    rw [List.cons_append, execs_cons, execs_cons, ih]
    simp only [bind_assoc]
    congr 1
    funext f
    cases f <;> rfl
theorem own_app {xs ys : List Stmt} {Q : Flow → Shared → Prop} (h : OwnP w A c xs env (fun f s' => match f with | .next => OwnP w A c ys env Q s' | f => Q f s') s) : OwnP w A c (xs ++ ys) env Q s := by
  show wpOwn _ _ _ (execs (xs ++ ys) env) _ _ _
  rw [execs_app]
  refine wpOwn_bind (wpOwn_mono h (fun f s' h' => ?_) fun _ _ x => x)
  cases f <;> first | exact h' | exact fun _ _ _ _ => h'
theorem own_mono {b : List Stmt} {Q Q' : Flow → Shared → Prop} (h : OwnP w A c b env Q s) (x : ∀ f s, Q f s → Q' f s) : OwnP w A c b env Q' s := wpOwn_mono h x fun _ _ x => x
theorem func_own {b : List Stmt} {R : Result → Shared → Prop} (h : OwnP w A (.func b env) b env (fun f s' => R (.ok (.ret (match f with | .ret v => v | _ => .none))) s') s) : codeAny (Md w) A (.func b env) R s := by
  refine codeAny_of_own ?_
  show wpOwn _ A _ (do point; match ← (execs b env).onRaise (leaving env) with | .ret v => ret v | _ => ret .none) _ _ s
  refine wpOwn_bind (wpOwn_of_wpAny (wpAny_point ?_))
  refine wpOwn_bind (fun Γ p hc hΓ => ?_)
  rw [Sem.wp_onRaise]
  refine Sem.wp_mono _ Γ _ (fun f p' s' h' => ?_) (fun e p' s' h' => h'.elim) p s (h Γ p hc hΓ)
  cases f <;> exact fun _ _ _ _ => h'
theorem own_if {t : Expr} {b o : List Stmt} {pos : Pos} {Q : Flow → Shared → Prop} (h : wpOwn (Md w) A c (PySem.isTrue t env (eval t env)) (fun k s' => if k = true then OwnP w A c b env Q s' else OwnP w A c o env Q s') (fun _ _ => False) s) : OwnP w A c [.If t b o pos] env Q s := by
  show wpOwn _ _ _ (execs [.If t b o pos] env) _ _ _
  rw [execs_cons, exec_If]
  refine wpOwn_bind (wpOwn_bind (wpOwn_of_wpAny (wpAny_standAt ?_)))
  refine wpOwn_bind (wpOwn_mono h (fun k s' h' => ?_) fun _ _ x => x)
  have key : ∀ {b : List Stmt}, OwnP w A c b env Q s' → wpOwn (Md w) A c (execs b env) (fun f s' => wpOwn (Md w) A c (match f with | .next => execs [] env | f => pure f) Q (fun _ _ => False) s') (fun _ _ => False) s' := fun h => wpOwn_mono h (fun f s'' h'' => by cases f <;> exact fun _ _ _ _ => h'') fun _ _ x => x
  cases k with
  | true => exact key h'
  | false => exact key h'
/-- a test left != right of two lists that are equal -/
theorem own_ne {l r : Expr} {pos : Pos} {Q : Bool → Shared → Prop} (hm : behindInMarks .NotEq r = false) (h : wpOwn (Md w) A c (eval l env) (fun lv s1 => wpOwn (Md w) A c (eval r env) (fun rv s2 => wpAny (Md w) (A.under c) (compareOp .NotEq lv rv) (fun v s3 => v = .bool false ∧ Q false s3) (fun _ _ => False) s2) (fun _ _ => False) s1) (fun _ _ => False) s) :
    wpOwn (Md w) A c (PySem.isTrue (.Compare l [.NotEq] [r] pos) env (eval (.Compare l [.NotEq] [r] pos) env)) Q (fun _ _ => False) s := by
  rw [show PySem.isTrue (.Compare l [.NotEq] [r] pos) env (eval (.Compare l [.NotEq] [r] pos) env) = (do testChain pos (← eval l env) [.NotEq] (markedEach [.NotEq] [r] (evalEach [r] env))) from by kernel_rfl]
  refine wpOwn_bind (wpOwn_mono h (fun lv s1 h1 => ?_) fun _ _ x => x)
  show wpOwn _ _ _ (testChain pos lv [.NotEq] (markedEach [.NotEq] [r] (evalEach [r] env))) _ _ _
  have he : markedEach [.NotEq] [r] (evalEach [r] env) = [eval r env] := by
    show [markedBehindIn .NotEq r (eval r env)] = _
    unfold markedBehindIn
    rw [hm]
  rw [he]
  show wpOwn _ _ _ (do let rv ← holding [lv] (eval r env); standAt pos; let c ← operate [lv, rv] (compareOp .NotEq lv rv); holding [c] (truthy c)) _ _ _
  refine wpOwn_bind (fun Γ p hc hΓ => ?_)
  rw [Sem.wp_holding]
  refine Sem.wp_mono _ Γ _ (fun rv p' s' h' => ?_) (fun e p' s' h' => h') p s1 (h1 Γ p hc hΓ)
  refine wpOwn_bind (wpOwn_of_wpAny (wpAny_standAt ?_))
  refine wpOwn_bind (wpOwn_of_wpAny (wpAny_operateT (wpAny_mono h' (fun v s3 h3 => ?_) fun _ _ x => x)))
  obtain ⟨rfl, h3⟩ := h3
  exact wpOwn_of_wpAny (wpAny_holding (wpAny_truthy_bool h3))
theorem own_or {x y : Expr} {pos : Pos} {Q : Bool → Shared → Prop} (h : wpOwn (Md w) A c (PySem.isTrue x env (eval x env)) (fun k s1 => k = false ∧ wpOwn (Md w) A c (PySem.isTrue y env (eval y env)) (fun k s2 => k = false ∧ Q false s2) (fun _ _ => False) s1) (fun _ _ => False) s) :
    wpOwn (Md w) A c (PySem.isTrue (.BoolOp .Or [x, y] pos) env (eval (.BoolOp .Or [x, y] pos) env)) Q (fun _ _ => False) s := by
  show wpOwn _ _ _ (PySem.isTrue (.BoolOp .Or [x, y] pos) env (eval (.BoolOp .Or [x, y] pos) env)) _ _ _
  have e1 : PySem.isTrue (.BoolOp .Or [x, y] pos) env (eval (.BoolOp .Or [x, y] pos) env) = allTrue .Or [x, y] env := by kernel_rfl
  have e2 : ∀ x l, allTrue .Or (x :: l) env = (do match BoolOp.Or, ← PySem.isTrue x env (eval x env) with | .And, false => pure false | .Or, true => pure true | _, _ => allTrue .Or l env) := fun _ _ => by kernel_rfl
  rw [e1, e2]
  refine wpOwn_bind (wpOwn_mono h (fun k s1 h1 => ?_) fun _ _ x => x)
  obtain ⟨rfl, h1⟩ := h1
  show wpOwn _ _ _ (allTrue .Or [y] env) _ _ _
  rw [e2]
  refine wpOwn_bind (wpOwn_mono h1 (fun k s2 h2 => ?_) fun _ _ x => x)
  obtain ⟨rfl, h2⟩ := h2
  show wpOwn _ _ _ (allTrue .Or [] env) _ _ _
  rw [show allTrue .Or [] env = pure (BoolOp.Or == .And) from by kernel_rfl]
  exact fun _ _ _ _ => h2
end
/-! lists of pairs (int, str), alike -/
theorem eqAt_pair {A : Around} {s : Shared} (hu : A.units < cLine) {a b : Nat} {j j' : Job} (ha : s.heap.get? a = some (tuO j)) (hb : s.heap.get? b = some (tuO j')) (h1 : j.1.1 = j'.1.1) (h2 : j.2.1 = j'.2.1) : PySem.SeqAt.EqAt A s (.ref a) (.ref b) true := by
  by_cases e : a = b
  · subst e; exact PySem.SeqAt.EqAt.same _
  obtain ⟨⟨x, t⟩, ⟨n, u⟩⟩ := j
  obtain ⟨⟨x', t'⟩, ⟨n', u'⟩⟩ := j'
  cases h1; cases h2
  refine PySem.SeqAt.EqAt.of_refs e ?_
  have la : s.heap.IsTuple a ⟨[.int x t, .str n u]⟩ := ⟨_, ha, rfl, 0, rfl⟩
  have lb : s.heap.IsTuple b ⟨[.int x t', .str n u']⟩ := ⟨_, hb, rfl, 0, rfl⟩
  have z := PySem.SeqAt.RcAt.tuples (A := A) (s := s) (e := fun _ => true) la lb hu (fun i h1 h2 => by
    have : i = 0 ∨ i = 1 := by simp at h1; (first | lia | omega)
    rcases this with rfl | rfl
    · have q := (PySem.MeetsSeq.EqGives.int x x t t').at A.in1 s
      rw [beq_self_eq_true] at q
      exact q
    · have q := (PySem.SeqRoads2.EqGives.str n n u u').at A.in1 s
      rw [beq_self_eq_true] at q
      exact q)
  have ez : ((List.range (min (⟨[.int x t, .str n u]⟩ : Array Value).size (⟨[.int x t', .str n u']⟩ : Array Value).size)).all (fun _ => true) && (⟨[.int x t, .str n u]⟩ : Array Value).size == (⟨[.int x t', .str n u']⟩ : Array Value).size) = true := by simp
  rw [ez] at z
  exact z
theorem ne_jobs {w : World} {A : Around} {s : Shared} {Q : Value → Shared → Prop} {E : Value → Shared → Prop} (hu : A.units + 1 < cLine) {l1 l2 e1 e2 : Nat} {t1 t2 : List Nat} {D1 D2 : List Job} (J1 : Jobs s.heap l1 t1 D1 e1) (J2 : Jobs s.heap l2 t2 D2 e2) (h1 : hrs D1 = hrs D2) (h2 : nms D1 = nms D2) (h : Q (.bool false) s) :
    wpAny (Md w) A (compareOp .NotEq (.ref l1) (.ref l2)) Q E s := by
  have il : s.heap.IsList l1 ⟨rfs t1⟩ := ⟨_, J1.list, rfl, e1, rfl⟩
  have ir : s.heap.IsList l2 ⟨rfs t2⟩ := ⟨_, J2.list, rfl, e2, rfl⟩
  have len : D1.length = D2.length := by have := congrArg List.length h1; simpa using this
  have hsz : (⟨rfs t1⟩ : Array Value).size = (⟨rfs t2⟩ : Array Value).size := by
    have e1 := J1.len
    have e2 := J2.len
    simp; (first | lia | omega)
  have z := PySem.SeqAt.RcNeAt.lists (A := A) (s := s) (e := fun _ => true) il ir hsz (by (first | lia | omega)) (fun i g1 g2 => by
    have f1 : i < t1.length := by simpa using g1
    have f2 : i < t2.length := by simpa using g2
    have k1 : i < D1.length := by have := J1.len; (first | lia | omega)
    have k2 : i < D2.length := by (first | lia | omega)
    have x1 : (⟨rfs t1⟩ : Array Value)[i] = .ref t1[i] := by simp
    have x2 : (⟨rfs t2⟩ : Array Value)[i] = .ref t2[i] := by simp
    rw [x1, x2]
    have p1 := (J1.tup i t1[i] D1[i] (List.getElem?_eq_getElem f1) (List.getElem?_eq_getElem k1)).1
    have p2 := (J2.tup i t2[i] D2[i] (List.getElem?_eq_getElem f2) (List.getElem?_eq_getElem k2)).1
    refine eqAt_pair (by show A.units + 1 < cLine; exact hu) p1 p2 ?_ ?_
    · have q := congrArg (fun l => l[i]?) h1
      simpa [k1, k2] using q
    · have q := congrArg (fun l => l[i]?) h2
      simpa [k1, k2] using q)
  have ez : (!(List.range (⟨rfs t1⟩ : Array Value).size).all (fun _ => true)) = false := by simp
  rw [ez] at z
  exact z _ w E Q h
end
end Mine

end
section
open PySem PySem.W PySem.W.X PyProof.Rows
set_option maxRecDepth 100000
set_option Elab.async false
set_option maxHeartbeats 2000000
set_option genInjectivity false
set_option genSizeOfSpec false
namespace Mine
noncomputable section
noncomputable def q_lx1 : Nat := 4759259971017081225216
noncomputable def q_lx2 : Nat := 135791518948697630370260812787660210457525625260597839088538744218804147525990884626483600004140400643199606251026862071031215667048306993253083101290187638629307726020247543357697264900326177993130656289667672705554456771886018333599594563507208037632864535377796064132214197056946913165953090784666875451444462566344674269871109806378430904107381099479220142725408162308796713355437861012771093677641697689993474
/-! a lexer is made -/
noncomputable def lexCall (l : List Nat) (t : Nat) : Code := .call (.ref 102) ⟨[.str ⟨⟨l⟩⟩ t], []⟩
noncomputable def lamOf (top : Nat → Option Obj) (k : Nat) : Option (Arguments × PySem.Expr × Scope) := match (fdAt top 102).body with
  | .stmts b => match nthS b k with
    | some (.Assign _ (.Lambda a e s _) _) => some (a, e, s)
    | _ => none
  | _ => none
noncomputable def lamN : Str := ⟨⟨[60, 108, 97, 109, 98, 100, 97, 62]⟩⟩
noncomputable def lamQ : Str := ⟨⟨[95, 108, 97, 119, 95, 108, 101, 120, 101, 114, 46, 60, 108, 111, 99, 97, 108, 115, 62, 46, 60, 108, 97, 109, 98, 100, 97, 62]⟩⟩
noncomputable def sgN : Str := ⟨⟨[115, 105, 103, 110, 115]⟩⟩
/-- the function that reads a sign -/
noncomputable def rdO (top : Nat → Option Obj) (ce c2 ct : Nat) : Obj := match lamOf top 3 with
  | some (a, e, s) => { cls := .type "function", dict := none, data := .func { name := lamN, qualname := lamQ, params := a, body := .expr e, scope := s, globals := 3, closure := [(sgN, ce)], defaults := .none, kwdefaults := .none, doc := .none, pyModule := (fdAt top 102).pyModule, annotations := none, code := .ref c2, closureTuple := .ref ct, builtins := 0 }, slots := #[] }
  | none => default
noncomputable def smO (top : Nat → Option Obj) (dd c1 : Nat) : Obj := match lamOf top 2 with
  | some (a, e, s) => { cls := .type "function", dict := some dd, data := .func { name := lamN, qualname := lamQ, params := a, body := .expr e, scope := s, globals := 3, closure := [], defaults := .none, kwdefaults := .none, doc := .none, pyModule := (fdAt top 102).pyModule, annotations := none, code := .ref c1, closureTuple := .none, builtins := 0 }, slots := #[] }
  | none => default
noncomputable def o97e : Obj := { cls := .none, dict := none, data := .fields #[], slots := #[] }
noncomputable def rdD (rd : Nat) : Vs := [([114, 101, 97, 100], .ref rd)]
noncomputable def lxA (P : Params) (top : Nat → Option Obj) (l : List Nat) (t B t₀ : Nat) : RO := runQ (vOf P top [] [(97, o97e)] B t₀) 100 (startC (lexCall l t) (btOf ([(97, o97e)].map (·.2))) q_lx1)
noncomputable def lxLB (B : Nat) (l : List Nat) (t : Nat) (aux : Nat → Int × Nat) (ep sg : Nat) (xs : List Value) (e : Nat) : Led := [(B, dicF "frame" (vsT (.str ⟨⟨l⟩⟩ t)) aux ep), (B + 1, ceO none), (sg, lsO xs e), (97, o97e)]
noncomputable def fileN : Str := ⟨⟨[47, 99, 108, 97, 105, 109, 47, 99, 117, 116, 46, 112, 121]⟩⟩
noncomputable def coO (v0 : Value) (tq : Nat) (vs : List Value) : Obj := { cls := .type "code", dict := none, data := .fields ⟨v0 :: .str lamQ tq :: vs⟩, slots := #[] }
noncomputable def coT (B2 t2 : Nat) : List Value := [.str fileN (t2 + 8), rawInt 108, rawInt 1, rawInt 0, rawInt 0, rawInt 19, .ref (B2 + 8), .bool true, rawInt 181, .ref (B2 + 9), .none, .ref (B2 + 10), .ref (B2 + 11), .ref (B2 + 12), .int (.ofNat (t2 + 11)) 0, rawInt 108, .str fileN (t2 + 12)]
noncomputable def wsN : Str := ⟨⟨[10, 9, 13, 32]⟩⟩
@[reducible] noncomputable def LxRuns_r1_p (P : Params) (top : Nat → Option Obj) := fun B t₀ l t => (toldLp P top [] [(97, o97e)] B t₀ 100 (lexCall l t) q_lx1 [2, 0] [1] (.call (.call (.type "list") ⟨[.str ⟨⟨l⟩⟩ t], []⟩)) 0 2 1 true [(B + 1, some (ceO none)), (97, some o97e)] [(B, some (true, vsT (.str ⟨⟨l⟩⟩ t)))] [] : Tale × Tale)
@[reducible] noncomputable def LxRuns_r1 (P : Params) (top : Nat → Option Obj) : Prop := ∀ B t₀ l t, IsT (LxRuns_r1_p P top B t₀ l t)
@[reducible] noncomputable def LxRuns_r2_p (P : Params) (top : Nat → Option Obj) := fun B t₀ l t aux ep sg xs e B2 t2 => (toldGp P top [] (lxLB B l t aux ep sg xs e) B2 t2 400 ((lxA P top l t B t₀).resume (.ok (.ret (.ref sg))) (btOf ((lxLB B l t aux ep sg xs e).map (·.2))) q_lx2) [3, 1, 2, 10, 17, 18, 21, 23] [19, 20]
    (.fin (.ok (.ret (.ref (B2 + 17))))) 0 20 27 true
    [(97, some (o97 (B2 + 5) (B2 + 13))), (B + 1, some (ceO (some (.ref sg)))), (sg, some (lsO xs.reverse e)), (B2 + 6, some (smO top (B2 + 15) (B2 + 5))), (B2 + 13, some (coO (.str lamN (t2 + 6)) (t2 + 7) (coT B2 t2))), (B2 + 14, some (rdO top (B + 1) (B2 + 13) (B2 + 7))), (B2 + 17, some (lxO (B2 + 16))), (B2 + 19, some (lsO [] 0))]
    [(B2 + 15, some (false, rdD (B2 + 14))), (B2 + 16, some (false, vsD (.int 1 (t2 + 17)) (.ref (B2 + 6)) (.str wsN (t2 + 22)) (B2 + 19)))] [xs.length ≤ 100000] : Tale × Tale)
@[reducible] noncomputable def LxRuns_r2 (P : Params) (top : Nat → Option Obj) : Prop := ∀ B t₀ l t aux ep sg xs e B2 t2, IsT (LxRuns_r2_p P top B t₀ l t aux ep sg xs e B2 t2)
structure LxRuns (P : Params) (top : Nat → Option Obj) : Prop where
  r1 : LxRuns_r1 P top
  r2 : LxRuns_r2 P top
end
end Mine

end
section
open PySem PySem.W PySem.W.X PyProof.Rows
set_option maxRecDepth 100000
set_option Elab.async false
set_option maxHeartbeats 2000000
set_option genInjectivity false
set_option genSizeOfSpec false
namespace Mine
noncomputable section
noncomputable def q_txT : List Nat := [361479345542446895309794633497511451748513059573816989111926836339289269158878103374629487183495958777202012146839581676220847364657446255948809383954942344055388596696002618597102569316412596987774540005922646531906863106, 933430107229734499071723469657830029036505418654473209488613100096532432834850823402603780949888368776387579200149142288084027499380535301575222714366263623637768314121058880067931602976861980498744188253440987302776610169751542783168482879411736913836240886547304966435348026635527854207460750049895929541675236302465710413282219661275037698, 361479345542446895309794633497511451748513059573816989111926836339289269158878103374629487183495958777202012146839590850215311324943492699232390592302705530315345269820497568952460117007916950927006820080135087034653081602, 933429995957918999346034696857201017845370915456257268840099584697801088732402264975111533763316423140051207090196012170166262071863295651394676390660011599415017824432884292930782005011638911501679641811510968271956348176906756937879887968319697698314652850515862447616041126998194765997756420099914081651771060076223490299002452083818496002, 361479345542446895309794633497511451748513059573816989111926836339289269158878103374629487183495958777202012146839600024209775285229539142515971800650468716575301942944992519307817664699421304866239100154347527537399300098, 933429995957918999346034696857201017845370915456257268840099584697801088732402264975111533763316423140051207090196012170166262071863295651394676390660011599415017824432884292930782005011638911501679641811510968271956348176906756937879897142314161658600699293799443655963804313258151439122251370455271629343275414015455770373214892586564714498, 361479345542446895309794633497511451748513059573816989111926836339289269158878103374629487183495958777202012146839581676220847364657446255948809383954949245801735387259790053352964846341865048096746710392477809056130662402, 1364209630050217251890196428667770597395773908635906408541783002543908602949460564708111235881417225241989052385671184279116858236839916278223044958577659255598771809956890238713654639212836564620189381803421401934698203263942093311573944293306684111568394653210021792169052788708190651524803625474834522328468285520093722019524523370105554568652024324735372662764137071737603170927655387138, 361479345542446895309794633497511451748513059573816989111926836339289269158878103374629487183495958777202012146839590850215311324943492699232390592302712432061692060384285003708322394033369402035978990466690249558876880898, 1364209467426276710258960773585890482331937367772433794999520419432778127893084632311856579440175948174423664222833466243476111496471693648168905768891618541890634889267366654507086736506846726157946405663430455877044903081228387881128961997017599979720577594892070459182164842795431519632304266525357570476145587868000513281713839001066995007554912671207332177075449028144304508997539594242, 361479345542446895309794633497511451748513059573816989111926836339289269158878103374629487183495958777202012146839600024209775285229539142515971800650475618321648733508779954063679941724873755975211270540902690061623099394, 1364209467426276710258960773585890482331937367772433794999520419432778127893084632311856579440175948174423664222833466243476111496471693648168905768891618541890634889267366654507086736506846726157946405663430455877044903081228387881128961997017599979720577594892070459182164842795431528806298730485643616919429169076348276467973795674191489957910270218898836531014681308218516949500285812738, 361479345542446895309794633497511451748513059573816989111926836339289269158878103374629487183495958777202012146839581676220847364657446255948809383954956147548082177823577488108827123367317499205718880779032971580354461698, 1364209630050217251890196428667770597395773908635906408541783002543908602949460564708111235881417225241989052385671184279116858236839916278223044958577659255598771809956890238713654639212836564620189381803421401934698203263942093311573944293306684111568394653210021792169052788708190651524803625474834522328468285520093728921270870160669342003407886601760825113873109242124158333451879186434, 361479345542446895309794633497511451748513059573816989111926836339289269158878103374629487183495958777202012146839590850215311324943492699232390592302719333808038850948072438464184671058821853144951160853245412083100680194, 1364209467426276710258960773585890482331937367772433794999520419432778127893084632311856579440175948174423664222833466243476111496471693648168905768891618541890634889267366654507086736506846726157946405663430455877044903081228387881128961997017599979720577594892070459182164842795431519632304266525357570476145587868000520183460185791630782442310774948232784628184421198530859671521763393538, 361479345542446895309794633497511451748513059573816989111926836339289269158878103374629487183495958777202012146839600024209775285229539142515971800650482520067995524072567388819542218750326207084183440927457852585846898690, 1364209467426276710258960773585890482331937367772433794999520419432778127893084632311856579440175948174423664222833466243476111496471693648168905768891618541890634889267366654507086736506846726157946405663430455877044903081228387881128961997017599979720577594892070459182164842795431528806298730485643616919429169076348283369720142464755277392666132495924288982123653478605072112024509612034, 361479345542446895309794633497511451748513059573816989111926836339289269158878103374629487183495958777202012146839581676220847364657446255948809383954963049294428968387364922864689400392769950314691051165588134104578260994, 1364209630050217251890196428667770597395773908635906408541783002543908602949460564708111235881417225241989052385671184279116858236839916278223044958577659255598771809956890238713654639212836564620189381803421401934698203263942093311573944293306684111568394653210021792169052788708190651524803625474834522328468285520093735823017216951233129438163748878786277564982081412510713495976102985730, 361479345542446895309794633497511451748513059573816989111926836339289269158878103374629487183495958777202012146839590850215311324943492699232390592302726235554385641511859873220046948084274304253923331239800574607324479490, 1364209467426276710258960773585890482331937367772433794999520419432778127893084632311856579440175948174423664222833466243476111496471693648168905768891618541890634889267366654507086736506846726157946405663430455877044903081228387881128961997017599979720577594892070459182164842795431519632304266525357570476145587868000527085206532582194569877066637225258237079293393368917414834045987192834, 361479345542446895309794633497511451748513059573816989111926836339289269158878103374629487183495958777202012146839600024209775285229539142515971800650489421814342314636354823575404495775778658193155611314013015110070697986, 1364209467426276710258960773585890482331937367772433794999520419432778127893084632311856579440175948174423664222833466243476111496471693648168905768891618541890634889267366654507086736506846726157946405663430455877044903081228387881128961997017599979720577594892070459182164842795431528806298730485643616919429169076348290271466489255319064827421994772949741433232625648991627274548733411330]
noncomputable def q_t0T : Nat := 4009050826902379123881367991906528641921669412978531095041442905809056671932645178735770674583448446571856746551063561194157589343714889784927974166622666783733784809012235382306273040327675880931633207649787539394602911675174511805677855938813503882237416071273636052463399162010846660728789475613715514420622739518966414586505164363630648962532376578
noncomputable def q_txF : List Nat := [361479345542446895309794633497511451748513059573816989111926836339289269158878103374629487183495958777202012146839581676220847364657446255948809383954942344055388596696002618597102569316412596987774540005922646531906863106, 262737217693514650896039586072889149688284522954604593732763657785296895477612600069511884336379878358736711823212570506020225588252118835477812270997140381973785310630707388401723145791143589263060138415791340140081812614154145464232397882842446363613957828486912213636788540535580647514351208936143098775030040223140725287728504545438400183370265961562114, 361479345542446895309794633497511451748513059573816989111926836339289269158878103374629487183495958777202012146839590850215311324943492699232390592302705530315345269820497568952460117007916950927006820080135087034653081602, 262737186373282974558340016392303565454952396677067957091074544085253339166727328470429223581505542021855154157500182986783593757489106557699303138026328534185944959365697227003644654598934592390891485814420300323465916505037843089917544205249802699597520126362153411107352721844890062277523645858936820482177649999864745409639157626203277770189240568774658, 361479345542446895309794633497511451748513059573816989111926836339289269158878103374629487183495958777202012146839600024209775285229539142515971800650468716575301942944992519307817664699421304866239100154347527537399300098, 262737186373282974558340016392303565454952396677067957091074544085253339166727328470429223581505542021855154157500182986783593757489106557699303138026328534185944959365697227003644654598934592390891485814420300323465916505037843089917544205249802699606694120826113697153796005426098410040709905815609944977128005357412436913993096858483351982629743314993154, 361479345542446895309794633497511451748513059573816989111926836339289269158878103374629487183495958777202012146839581676220847364657446255948809383954949245801735387259790053352964846341865048096746710392477809056130662402, 383990873846837538623546185753825874086804305097609051898103270306923954417236853801813904198259750767519902334090511351047536108469987757414548444979443871188807176783893020353283999928012782202827837025298181142347770144266108719005102590115467649031149117835747380842502327736643536825864634987775241590597660305264040486054788033584227609203885043382136808957911648248854452632497256242903992028495874, 361479345542446895309794633497511451748513059573816989111926836339289269158878103374629487183495958777202012146839590850215311324943492699232390592302712432061692060384285003708322394033369402035978990466690249558876880898, 383990828072267662072788039335821984966465081239334257940765641090530340354451300701936607673580367766810823326797332084821188426766453545934283116478151773777263516587125714527772248213571237899996203767901912508811107097468309173452940482568763465205688602890869149624848012351030519409814911626360391260357269026856178138045999528027607632003355007432310657188389760168364126791495184176941582614921218, 361479345542446895309794633497511451748513059573816989111926836339289269158878103374629487183495958777202012146839600024209775285229539142515971800650475618321648733508779954063679941724873755975211270540902690061623099394, 383990828072267662072788039335821984966465081239334257940765641090530340354451300701936607673580367766810823326797332084821188426766453545934283116478151773777263516587125714527772248213571237899996203767901912508811107097468309173452940482568763465205688602890869149624848012351030519409814911626369565254821229312902621421627207875790793891960028131927261012545937451672718066023775258389382085361139714, 361479345542446895309794633497511451748513059573816989111926836339289269158878103374629487183495958777202012146839581676220847364657446255948809383954956147548082177823577488108827123367317499205718880779032971580354461698, 383990873846837538623546185753825874086804305097609051898103270306923954417236853801813904198259750767519902334090511351047536108469987757414548444979443871188807176783893020353283999928012782202827837025298181142347770144266108719005102590115467649031149117835747380842502327736643536825864634987775241590597660305264040486054788033591129355550675607169571564820188673701305561604667642798066516252295170, 361479345542446895309794633497511451748513059573816989111926836339289269158878103374629487183495958777202012146839590850215311324943492699232390592302719333808038850948072438464184671058821853144951160853245412083100680194, 383990828072267662072788039335821984966465081239334257940765641090530340354451300701936607673580367766810823326797332084821188426766453545934283116478151773777263516587125714527772248213571237899996203767901912508811107097468309173452940482568763465205688602890869149624848012351030519409814911626360391260357269026856178138045999528034509378350145571219745413050666785620815235763665570732104106838720514, 361479345542446895309794633497511451748513059573816989111926836339289269158878103374629487183495958777202012146839600024209775285229539142515971800650482520067995524072567388819542218750326207084183440927457852585846898690, 383990828072267662072788039335821984966465081239334257940765641090530340354451300701936607673580367766810823326797332084821188426766453545934283116478151773777263516587125714527772248213571237899996203767901912508811107097468309173452940482568763465205688602890869149624848012351030519409814911626369565254821229312902621421627207875797695638306818695714695768408214477125169174995945644944544609584939010, 361479345542446895309794633497511451748513059573816989111926836339289269158878103374629487183495958777202012146839581676220847364657446255948809383954963049294428968387364922864689400392769950314691051165588134104578260994, 383990873846837538623546185753825874086804305097609051898103270306923954417236853801813904198259750767519902334090511351047536108469987757414548444979443871188807176783893020353283999928012782202827837025298181142347770144266108719005102590115467649031149117835747380842502327736643536825864634987775241590597660305264040486054788033598031101897466170957006320682465699153756670576838029353229040476094466, 361479345542446895309794633497511451748513059573816989111926836339289269158878103374629487183495958777202012146839590850215311324943492699232390592302726235554385641511859873220046948084274304253923331239800574607324479490, 383990828072267662072788039335821984966465081239334257940765641090530340354451300701936607673580367766810823326797332084821188426766453545934283116478151773777263516587125714527772248213571237899996203767901912508811107097468309173452940482568763465205688602890869149624848012351030519409814911626360391260357269026856178138045999528041411124696936135007180168912943811073266344735835957287266631062519810, 361479345542446895309794633497511451748513059573816989111926836339289269158878103374629487183495958777202012146839600024209775285229539142515971800650489421814342314636354823575404495775778658193155611314013015110070697986, 383990828072267662072788039335821984966465081239334257940765641090530340354451300701936607673580367766810823326797332084821188426766453545934283116478151773777263516587125714527772248213571237899996203767901912508811107097468309173452940482568763465205688602890869149624848012351030519409814911626369565254821229312902621421627207875804597384653609259502130524270491502577620283968116031499707133808738306]
noncomputable def q_t0F : Nat := 1128447488134183342680546221030095795384540510451552026841714854795746136985522153550132653109527806012825799257868126738592664944735260165702295405276509543362862155367000115174408176523926374468148979105116515255461329163489895566367668382466911853820490295522019040168278627413978115281331320011252215106679052391916205563227353225078935155634958097224998259392514
noncomputable def t_tx : List (List Nat) := [[41, 1, 39, 4, 18, 38, 4, 0], [43, 7, 33, 4, 36, 41, 4, 0], [41, 1, 39, 4, 18, 38, 4, 0], [44, 7, 42, 4, 36, 41, 4, 0], [42, 1, 40, 4, 19, 39, 4, 0], [45, 7, 43, 4, 37, 42, 4, 0], [42, 1, 40, 13, 19, 39, 13, 0], [49, 7, 39, 13, 42, 47, 13, 0], [42, 1, 40, 13, 19, 39, 13, 0], [50, 7, 48, 13, 42, 47, 13, 0], [43, 1, 41, 13, 20, 40, 13, 0], [51, 7, 49, 13, 43, 48, 13, 0], [43, 1, 41, 13, 19, 40, 13, 0], [49, 7, 39, 13, 42, 47, 13, 0], [43, 1, 41, 13, 19, 40, 13, 0], [50, 7, 48, 13, 42, 47, 13, 0], [44, 1, 42, 13, 20, 41, 13, 0], [51, 7, 49, 13, 43, 48, 13, 0], [43, 1, 41, 13, 19, 40, 13, 0], [49, 7, 39, 13, 42, 47, 13, 0], [43, 1, 41, 13, 19, 40, 13, 0], [50, 7, 48, 13, 42, 47, 13, 0], [44, 1, 42, 13, 20, 41, 13, 0], [51, 7, 49, 13, 43, 48, 13, 0]]
/-! the text: a turn of law's first loop -/
noncomputable def sv3 : Str := ⟨⟨[99, 111, 109, 112, 114, 101, 104, 101, 110, 115, 105, 111, 110, 45, 105, 116, 101, 114, 45, 116, 119, 105, 99, 101]⟩⟩
noncomputable def asksB3 (P : Params) : Bool := P.followText "comprehension-iter-twice"
noncomputable def txQ (b : Bool) (v : Nat) : Nat := match Nat.beq (q_txT.getD v 0) (q_txF.getD v 0) with
  | true => q_txT.getD v 0
  | false => match b with
    | true => q_txT.getD v 0
    | false => q_txF.getD v 0
noncomputable def t0Q (b : Bool) : Nat := match b with
  | true => q_t0T
  | false => q_t0F
noncomputable def lawCells (fr : Nat) : List (Str × Nat) := [(⟨⟨[116, 111, 108, 100]⟩⟩, fr + 4), (⟨⟨[104, 111, 117, 114, 115]⟩⟩, fr + 3), (⟨⟨[110, 97, 109, 101, 115]⟩⟩, fr + 2), (⟨⟨[116, 111, 116, 97, 108]⟩⟩, fr + 1)]
noncomputable def lawLoop (top : Nat → Option Obj) (k fr it : Nat) : Code := loopC top 142 k fr (lawCells fr) (.ref it)
noncomputable def nT : List (List Nat) := [[112, 108, 97, 99, 101], [120], [110, 97, 109, 101], [103, 97, 112]]
noncomputable def vsX (sl dr : Nat) (l : List Nat) (tt : Nat) (ex : List Value) : Vs := [([115, 99, 114, 105, 112, 116], .ref sl), ([100, 114, 97, 119, 115], .ref dr), ([116, 101, 120, 116], .str ⟨⟨l⟩⟩ tt)] ++ zipN nT ex
noncomputable def ledT (fr it : Nat) (vs : Vs) (aux : Nat → Int × Nat) (ep : Nat) (x n : Int) (dr : Nat) (D : List (Int × Nat)) (ed nl : Nat) (N : List Value) (en hl : Nat) (H : List (Int × Nat)) (eh : Nat) : Led :=
  [(fr, dicF "frame" vs aux ep), (it, riO x n 1), (dr, lsO (ivs D) ed), (fr + 2, ceO (some (.ref nl))), (fr + 3, ceO (some (.ref hl))), (nl, lsO N en), (hl, lsO (ivs H) eh)]
noncomputable def sfxL : Nat → List Nat
  | 0 => []
  | 1 => [10]
  | 2 => [34]
  | _ => [92]
noncomputable def nameL (p k : Nat) : List Nat := (97 + p) :: sfxL k
noncomputable def escL : Nat → List Nat
  | 0 => []
  | 1 => [10]
  | 2 => [92, 34]
  | _ => [92, 92]
noncomputable def repL (p k : Nat) : List Nat := (97 + p) :: escL k
noncomputable def bsL : Nat → List Nat
  | 0 => []
  | 1 => [92, 10]
  | 2 => [92, 34]
  | _ => [92, 92]
noncomputable def bareL (p k : Nat) : List Nat := 92 :: (97 + p) :: bsL k
noncomputable def nlsL : Nat → List Nat
  | 0 => []
  | 1 => [10]
  | _ => [10, 10]
noncomputable def gapL (g b : Nat) : List Nat := match b with
  | 0 => nlsL g ++ [32]
  | _ => match g with
    | 0 => []
    | 1 => [32]
    | _ => [10, 32]
noncomputable def g0L (g : Nat) : List Nat := match g with
  | 0 => [32]
  | _ => [10]
noncomputable def midL (l : List Nat) (p k g b : Nat) : List Nat := match b with
  | 0 => ((l ++ [34]) ++ repL p k) ++ [34]
  | _ => (l ++ bareL p k) ++ g0L g
noncomputable def finL (l : List Nat) (p k g b : Nat) : List Nat := match b with
  | 0 => midL l p k g 0 ++ gapL g 0
  | _ => match g with
    | 0 => midL l p k 0 1
    | 1 => midL l p k 1 1 ++ [32]
    | _ => midL l p k 2 1 ++ [10, 32]
noncomputable def vrT (k g b : Nat) : Nat := (k * 3 + g) * 2 + b
noncomputable def tkT (k g b j : Nat) : Nat := (t_tx.getD (vrT k g b) []).getD j 0
noncomputable def runT (P : Params) (top : Nat → Option Obj) (L : Led) (gv : List Value) (B t₀ fr it q : Nat) : RO := runQ (vOf P top gv L B t₀) 400 (startC (lawLoop top 0 fr it) (btOf (L.map (·.2))) q)
noncomputable def addC (l r : List Nat) : Prop := l ≠ [] ∧ r ≠ [] ∧ (l ++ r).length ≤ 100000
noncomputable def neC (a b : Nat) : Prop := a ≠ 0 ∧ b ≠ 0 ∧ a ≠ b
noncomputable def rpC (t₀ k g : Nat) : List Prop := match k with
  | 2 => [neC (t₀ + (30 + g / 2)) (t₀ + (31 + g / 2))]
  | 3 => [neC (t₀ + (28 + g / 2)) (t₀ + (29 + g / 2))]
  | _ => []
noncomputable def midC (t₀ : Nat) (l : List Nat) (p k g b : Nat) : List Prop := match b with
  | 0 => [addC ((l ++ [34]) ++ repL p k) [34], addC (l ++ [34]) (repL p k)] ++ rpC t₀ k g ++ [addC l [34]]
  | _ => [addC (l ++ bareL p k) (g0L g), addC l (bareL p k)]
noncomputable def endC (l : List Nat) (p k g b : Nat) : Prop := match b with
  | 0 => addC (midL l p k g 0) (gapL g 0)
  | _ => match g with
    | 0 => midL l p k 0 1 ≠ []
    | 1 => addC (midL l p k 1 1) [32]
    | _ => addC (midL l p k 2 1) [10, 32]
noncomputable def txC (t₀ : Nat) (l : List Nat) (p k g b : Nat) (x : Int) (tx : Nat) (D : List (Int × Nat)) (N : List Value) (H : List (Int × Nat)) : List Prop :=
  [endC l p k g b, (ivs H).length ≤ 100000, N.length ≤ 100000] ++ midC t₀ l p k g b ++ [Int.fmod (Int.fdiv x 12) 2 = .ofNat b, Int.fmod x 3 = .ofNat g, Int.fmod (Int.fdiv x 3) 4 = .ofNat k, ItemAt (ivs D) (.ofNat p) (.int x tx) ∧ -100000 ≤ Int.ofNat p ∧ Int.ofNat p ≤ 100000 ∧ (ivs D).length ≤ 100000]
noncomputable def exT (p : Int) (t₀ : Nat) (x : Int) (tx : Nat) (nm : List Nat) (tn : Nat) (gp : List Nat) (tg : Nat) : List Value := [.int p t₀, .int x tx, .str ⟨⟨nm⟩⟩ tn, .str ⟨⟨gp⟩⟩ tg]
@[reducible] noncomputable def txTurn_p (P : Params) (top : Nat → Option Obj) (p k g b : Nat) := fun B t₀ fr it sl dr l tt v1 v2 v3 v4 aux ep (m : Nat) D ed nl N en hl H eh x tx => (toldLp P top [.int x tx] (ledT fr it (vsX sl dr l tt [v1, v2, v3, v4]) aux ep (.ofNat p) (.ofNat (m + 1)) dr D ed nl N en hl H eh) B t₀ 400 (lawLoop top 0 fr it) (txQ (asksB3 P) (vrT k g b)) [1, 2, 5, 6, 3, 4] [0] (.again (lawLoop top 0 fr it)) 0 (tkT k g b 1) (tkT k g b 0) true
    [(it, some (riO (.ofNat p + 1) (.ofNat (m + 1) - 1) 1)), (dr, some (lsO (ivs D) ed)), (nl, some (lsO (N ++ [.str ⟨⟨nameL p k⟩⟩ (t₀ + tkT k g b 3)]) (en + 1))), (hl, some (lsO (ivs H ++ [.int (1 + .ofNat (occN (midL l p k g b) [10])) (t₀ + tkT k g b 5)]) (eh + 1))), (fr + 2, some (ceO (some (.ref nl)))), (fr + 3, some (ceO (some (.ref hl))))]
    [(fr, some (true, vsX sl dr (finL l p k g b) (t₀ + tkT k g b 2) (exT (.ofNat p) t₀ x tx (nameL p k) (t₀ + tkT k g b 3) (gapL g b) (t₀ + tkT k g b 4))))]
    (txC t₀ l p k g b x tx D N H) : Tale × Tale)
@[reducible] noncomputable def txTurn (P : Params) (top : Nat → Option Obj) (p k g b : Nat) : Prop := ∀ B t₀ fr it sl dr l tt v1 v2 v3 v4 aux ep (m : Nat) D ed nl N en hl H eh x tx, IsT (txTurn_p P top p k g b B t₀ fr it sl dr l tt v1 v2 v3 v4 aux ep m D ed nl N en hl H eh x tx)
@[reducible] noncomputable def tx0_p (P : Params) (top : Nat → Option Obj) := fun B t₀ fr it sl dr tt aux ep (m : Nat) D ed nl N en hl H eh x tx => (toldLp P top [.int x tx] (ledT fr it (vsX sl dr [] tt []) aux ep 0 (.ofNat (m + 1)) dr D ed nl N en hl H eh) B t₀ 400 (lawLoop top 0 fr it) (t0Q (asksB3 P)) [1, 2, 5, 6, 3, 4] [0] (.again (lawLoop top 0 fr it)) 0 7 43 true
    [(it, some (riO 1 (.ofNat (m + 1) - 1) 1)), (dr, some (lsO (ivs D) ed)), (nl, some (lsO (N ++ [.str ⟨⟨[97]⟩⟩ (t₀ + 4)]) (en + 1))), (hl, some (lsO (ivs H ++ [.int 2 (t₀ + 40)]) (eh + 1))), (fr + 2, some (ceO (some (.ref nl)))), (fr + 3, some (ceO (some (.ref hl))))]
    [(fr, some (true, vsX sl dr [92, 97, 10, 32] (t₀ + 41) (exT 0 t₀ x tx [97] (t₀ + 4) [32] (t₀ + 35))))]
    [(ivs H).length ≤ 100000, N.length ≤ 100000, Int.fmod (Int.fdiv x 12) 2 = 1, Int.fmod x 3 = 1, Int.fmod (Int.fdiv x 3) 4 = 0, ItemAt (ivs D) 0 (.int x tx) ∧ -100000 ≤ (0 : Int) ∧ (0 : Int) ≤ 100000 ∧ (ivs D).length ≤ 100000] : Tale × Tale)
@[reducible] noncomputable def tx0 (P : Params) (top : Nat → Option Obj) : Prop := ∀ B t₀ fr it sl dr tt aux ep (m : Nat) D ed nl N en hl H eh x tx, IsT (tx0_p P top B t₀ fr it sl dr tt aux ep m D ed nl N en hl H eh x tx)
end
end Mine

end
section
open PySem PySem.W PySem.W.X PyProof.Rows
set_option maxRecDepth 100000
set_option Elab.async false
set_option maxHeartbeats 2000000
set_option genInjectivity false
set_option genSizeOfSpec false
namespace Mine
noncomputable section
noncomputable def q_wsS : List Nat := [6064524882482078817440739447050695023033376669373113074927929020441368084484128145669067196610827329370051126064684449106816870552614999423840253564032224257786457098116838813551844437577379824886314866946233046752387659509465099, 6064524882482078817440739447050695023033376669373113074927929020441368084484128145669067196610827329370051126064684449106816870552614999423840253564032224257786457098116838813551844437577379824886314866946233046752387659509465099]
noncomputable def q_wsN : List Nat := [11781363835326829833424910132815913364574832670200218351420763907501390949213987513090607160714682978038084630342865857571526977328536581571471557742033361299569220775301133269118930734898706321390840180430754524507788186641899744530763462021086649471777045633635584333455810210025474297553931331292864106860314635, 11781363835326829833424910132815913364574832670200218351420763907501390949213987513090607160714682978038084630342865857571526977328536581571471557742033361299569220775301133269118930734898706321390840180430754524507788186641899744530763462021086649471777045633635584333455810210025474297553931331292864106860314635]
noncomputable def q_eof : List Nat := [4089808352149782602435395833866636887897351110228178209368601216161643549802872061501308274336326657767519318265330587999279804992338774275580660935017574122019586747704530756836239540235, 4089808352149782602435395833866636887897351110228178209368601216161643549802872061501308274336326657767519318265330587999279804992338774275580660935017574122019586747704530756836239540235]
noncomputable def q_tk : List Nat := [3095354415651553120267682659509202574970056984866514164861323663740936872036637059925912650097679905346687835817024077568020630829882356976956950529124244923688388190786560675746982777119794449644284697275160556139893039078279317361156913230360195933311368751354411646941262245110801623745557263598198453304682872504302471234495868361914317956245058328004750852395798647100408220121905320880792716618535592653616594339922862014787536850433811533852059478989574840867957151989576444334871203455595819514180819848626031435288091489895771963301938559845866834241386037348868656335970012288272464587006296746233939033899429897386621607540250244798702351344678908375929126923, 3095354415651553120267682659509202574970056984866514164861323663740936872036637059925912650097679905346687835817024077568020630829882356976956950529124244923688388190786560675746982777119794449644284697275160556139893039078279317361156913230360195933311368751354411646941262245110801623745557263598198453304682872504302471234495868361914317956245058328004750852395798647100408220121905320880792716618535592653616594339922862014787536850433811533852059478989574840867957151989576444334871203455595819514180819848626031435288091489895771963301938559845866834241386037348868656335970012288272464587006296746233939033899429897386621607540250244798702351344678908375929126923, 476418704706225550899962433088566036180050881649357128503374701751641021930993670643114054598212098231496847359455699103173024779194667264892262683802091367660177019495701941388926051247583250750931390076441742518228317355201891914921119220325398476524354880021887026677516696659896480319787406228217271587653042915287052777117142775941507528809550558408647451043735655359136974288060314572052552601904081149904528132796809115498709167255544657030566812003679109514733862339946313324951968670930084916875862985909551081661012000599827671615751882903524216165004119240946474568315804518892217448332882490870792633633506309632573827469114456798182778846927712664605919544353405332401335944115507475780289164709669089720228278788513088624914554353407075510694158914529189010487481401355, 476418704706225550899962433088566036180050881649357128503374701751641021930993670643114054598212098231496847359455699103173024779194667264892262683802091367660177019495701941388926051247583250750931390076441742518228317355201891914921119220325398476524354880021887026677516696659896480319787406228217271587653042915287052777117142775941507528809550558408647451043735655359136974288060314572052552601904081149904528132796809115498709167255544657030566812003679109514733862339946313324951968670930084916875862985909551081661012000599827671615751882903524216165004119240946474568315804518892217448332882490870792633633506309632573827469114456798182778846927712664605919544353405332401335944115507475780289164709669089720228278788513088624914554353407075510694158914529189010487481401355, 245239271917505908102562306921311296683965001736196022677628848492536043413342175821616663868163701976779296755619784518789684970587926194797163583805232601700776769115194818616956784029567415457002204649653744446600675586651860869145730620735445375919101553085929700816154781768496548182840153316827521791840648827673344614529993084160599542934756549085817583487946068521346518156313876200602125140899064826226978236702066091539070819314140495567551284111840245865004240696878434910411140660811506171818158431821734757121778670688393223421644440589561799643716301297792070133186963347602291021342638472305486693996268761852311806900596503812699536579752587569728072290977186809805010012755133661195, 245239271917505908102562306921311296683965001736196022677628848492536043413342175821616663868163701976779296755619784518789684970587926194797163583805232601700776769115194818616956784029567415457002204649653744446600675586651860869145730620735445375919101553085929700816154781768496548182840153316827521791840648827673344614529993084160599542934756549085817583487946068521346518156313876200602125140899064826226978236702066091539070819314140495567551284111840245865004240696878434910411140660811506171818158431821734757121778670688393223421644440589561799643716301297792070133186963347602291021342638472305486693996268761852311806900596503812699536579752587569728072290977186809805010012755133661195, 8490749180576404622524994861309777837270168812249607018214218937606225036984700872660442655936226917005043897571034585514716518821408194216479024777282799419173717875090073391679850576820683289934123614915421776561496716257453581539073520100688261555646047826948420394989240074051888017893405844060757552125478552571634190918207958841341088752935414281968863726825404788281898523368873034205885549390539621859069796863218205329989140247252602715626600799251990720754323976039935794848776285228346348911136620663996545601082938442566936723318314561630945933061832893651098600421092629738305172181910022945417862983172949720525743644359198902010816944135283032101350244588715426366101737199018784670674441179265932841453096140823457100183313446403468027665581178205292441044670093838574712440431272341449688936897983971717950316395080382621180454637637831618182834346244588655454405343547251351480765216010482366401421595994494323560029958686744263721674728695244738955771915, 8490749180576404622524994861309777837270168812249607018214218937606225036984700872660442655936226917005043897571034585514716518821408194216479024777282799419173717875090073391679850576820683289934123614915421776561496716257453581539073520100688261555646047826948420394989240074051888017893405844060757552125478552571634190918207958841341088752935414281968863726825404788281898523368873034205885549390539621859069796863218205329989140247252602715626600799251990720754323976039935794848776285228346348911136620663996545601082938442566936723318314561630945933061832893651098600421092629738305172181910022945417862983172949720525743644359198902010816944135283032101350244588715426366101737199018784670674441179265932841453096140823457100183313446403468027665581178205292441044670093838574712440431272341449688936897983971717950316395080382621180454637637831618182834346244588655454405343547251351480765216010482366401421595994494323560029958686744263721674728695244738955771915, 30958589997976286903582888036269629235069363403943106302589282471801858300101310756557989716486919500535753556389256243044266324515400521454719247060134293403667720101314758867917047749382426840220273822544785024146685974797003302198025182158221490892207350753734351132942689418278072883383742093278885549245056313449127331355019335440970556087542793406405978984850066928028033758066109737605342800171232042618124577050523925820808805380041321285795768755195880917932517285705980108452567520119503547951152439065918813257666177416753553424145491516442931558984386404220993258588139104214266219502548141750651811951593842613860766763467426291404174662936469868977712178559767152449594399696895721739651234365586831984062615267320631081660474248917421965328288522414980232364657453590723943971919425002995894973517604426226191489822073096109442582194179910392686821046860073642411917902217843528707516153909252420853076076046761116447969115238827395963543864468318838555251242679038108417930848347626134410490275771535953637409446717238273721087422985173823871654195743702572721383855489895765948752351274189189791180239823732404297192837305903957939000593497251150019984732923930064554627197422953608291167956953699608497262148587244701318159204717376902741685001748249625663907092337893761051720021198969588350987, 30958589997976286903582888036269629235069363403943106302589282471801858300101310756557989716486919500535753556389256243044266324515400521454719247060134293403667720101314758867917047749382426840220273822544785024146685974797003302198025182158221490892207350753734351132942689418278072883383742093278885549245056313449127331355019335440970556087542793406405978984850066928028033758066109737605342800171232042618124577050523925820808805380041321285795768755195880917932517285705980108452567520119503547951152439065918813257666177416753553424145491516442931558984386404220993258588139104214266219502548141750651811951593842613860766763467426291404174662936469868977712178559767152449594399696895721739651234365586831984062615267320631081660474248917421965328288522414980232364657453590723943971919425002995894973517604426226191489822073096109442582194179910392686821046860073642411917902217843528707516153909252420853076076046761116447969115238827395963543864468318838555251242679038108417930848347626134410490275771535953637409446717238273721087422985173823871654195743702572721383855489895765948752351274189189791180239823732404297192837305903957939000593497251150019984732923930064554627197422953608291167956953699608497262148587244701318159204717376902741685001748249625663907092337893761051720021198969588350987, 15936112490331184567643963371861620268356740051337838312279555181800265338351337500165705230172343851496513444306941367797754783206915430161358581826685058680569460439382127779492951885241771503914753699070933387719510729639712678354862275602546985317787814091913453049956447301766069495255791729854563810435253556141569642324274069753733440143259236625625742423366352618156189677740269343930080792505841206167480479955509917540018061473770985132380410351027854360078580595688529889017207645426217349552284041769129834059023706291019180379388617340856511822133131507765270764360593961054297224703374445262619965647124433839464824360977617471646158912394669530492062369893523907118921616825180696884733137343809337517795496504658831963984000293466571409885357862607719773398382221866421984596997471920557160426192291599565682894181826862871906012003759855133798185539117868393469588306697583487249761826778042831613425659096724874700267117580525890347079746305252088493156299428136833026421532789599989614928133859985256250223400582340011797067645253089602651611836033112566264500754409083654195664394253954166838322742941656732274490119281300538567936609742188701705792802783722911128179025783842289024738539346345384197013307403, 15936112490331184567643963371861620268356740051337838312279555181800265338351337500165705230172343851496513444306941367797754783206915430161358581826685058680569460439382127779492951885241771503914753699070933387719510729639712678354862275602546985317787814091913453049956447301766069495255791729854563810435253556141569642324274069753733440143259236625625742423366352618156189677740269343930080792505841206167480479955509917540018061473770985132380410351027854360078580595688529889017207645426217349552284041769129834059023706291019180379388617340856511822133131507765270764360593961054297224703374445262619965647124433839464824360977617471646158912394669530492062369893523907118921616825180696884733137343809337517795496504658831963984000293466571409885357862607719773398382221866421984596997471920557160426192291599565682894181826862871906012003759855133798185539117868393469588306697583487249761826778042831613425659096724874700267117580525890347079746305252088493156299428136833026421532789599989614928133859985256250223400582340011797067645253089602651611836033112566264500754409083654195664394253954166838322742941656732274490119281300538567936609742188701705792802783722911128179025783842289024738539346345384197013307403, 19940886010235717406067021337979723205813647058095612085714849491939045107949979235730779476677222591345139199902917432097897262093190137701948638369975191126391391251956075731743089497037192047712738325200996911393395214457286026392596370995489870048508837952869805068463290402797240139073596766413111200609427014187801453320114184077810902324826475746462385610485448080743830450031282737032036442226451524377149331931899519659338919769243837197372215549802743077306075065972668226791085032089794850436457368056192123307192191327737830314012202323895519563576345014650993091536507745025722946490858394085853336135091910878351889874454818321726622115484983856995281164166957510488723030058567003217019582912574801202469804772106750041824911030201342468434226152220561554284604423890592025473481836939911351180375941093865269893204085123217923246983674795164117322622921435384029187801075882871761010984949203774604605069070634617028458604559067355345653409856390127071909028879528420658394010095477690366764302557708767741010859732494004281617151097448773143611689562096679466500107, 19940886010235717406067021337979723205813647058095612085714849491939045107949979235730779476677222591345139199902917432097897262093190137701948638369975191126391391251956075731743089497037192047712738325200996911393395214457286026392596370995489870048508837952869805068463290402797240139073596766413111200609427014187801453320114184077810902324826475746462385610485448080743830450031282737032036442226451524377149331931899519659338919769243837197372215549802743077306075065972668226791085032089794850436457368056192123307192191327737830314012202323895519563576345014650993091536507745025722946490858394085853336135091910878351889874454818321726622115484983856995281164166957510488723030058567003217019582912574801202469804772106750041824911030201342468434226152220561554284604423890592025473481836939911351180375941093865269893204085123217923246983674795164117322622921435384029187801075882871761010984949203774604605069070634617028458604559067355345653409856390127071909028879528420658394010095477690366764302557708767741010859732494004281617151097448773143611689562096679466500107, 15936112490331184567643963371861620268356740051337838312279585007889714215781084446709579572211050630583994474696976198133835549862659795027551962383634916847962215322552991940823545141759493006965382027116857030235026782155449988867894424419499048611288784726097759934849856198787302317325363032650588723605957462853425385010821805191701094151013633610357437337422093394405875667247127228506560997357032208246209875552723251542178104868088162426894503769951345450940743872254523915787057977047245610282477483699012920500056399367198917874598805280640643949725647182633595001248646550551347484748870141360075436100984110010205634940621059704746709454379001036708314994093833848807344891239384914740956297161699748607386737567115436600551130950019422195309875067096615588902475407179597468025045889574760101165949163138234682606815564384892280597011082869607531865510269575065058405295004345443162245756536148089825926829010970676623974973521694496010451071260967087202556388401684077270841187149502725797953050752093017693954838788315543966602228299915785002684805488018203763072235834502124278654208091945910698347324293270395360169341116676622841030519138588233023789955907294850921454485188481449540104982282371957334494347275, 15936112490331184567643963371861620268356740051337838312279585007889714215781084446709579572211050630583994474696976198133835549862659795027551962383634916847962215322552991940823545141759493006965382027116857030235026782155449988867894424419499048611288784726097759934849856198787302317325363032650588723605957462853425385010821805191701094151013633610357437337422093394405875667247127228506560997357032208246209875552723251542178104868088162426894503769951345450940743872254523915787057977047245610282477483699012920500056399367198917874598805280640643949725647182633595001248646550551347484748870141360075436100984110010205634940621059704746709454379001036708314994093833848807344891239384914740956297161699748607386737567115436600551130950019422195309875067096615588902475407179597468025045889574760101165949163138234682606815564384892280597011082869607531865510269575065058405295004345443162245756536148089825926829010970676623974973521694496010451071260967087202556388401684077270841187149502725797953050752093017693954838788315543966602228299915785002684805488018203763072235834502124278654208091945910698347324293270395360169341116676622841030519138588233023789955907294850921454485188481449540104982282371957334494347275, 8203205679622053973272571474693786250590960566164782874269573694695559896482449529178760069548309922659973451518099229653241787748048009271016352254296462373595081607758988732755261025643585027333907080141781674568902054785307015731965282503839489019215426538387784642826953540740275626391575571807817067411567225864316392093915453253825939750741703085187725113697539486356803966072266379744653629688391687597833399083411901596526717869115094229894661974204457701070915281772070687961318597195063741044287081602439124126744434463778248324240167575574565228929423029813252725364525803230646311166618321047215737961308812541626790285532466282315456506522639986064725731987850206578282972694515988311752672365627363403252945551084312106949362411112552322577018080013722029897266978610727117590314220591218806997320542671663017046060649553065786406729983417073151955559752879899510810694804382079071961984762180152861788624529997979077887015917937287855687521008232217441799126735856231478030916664031754322654282524521320145072269595776729883396180324482075048643648539628278323610871348091973554074363911010827620153048192616143434588586439802891, 8203205679622053973272571474693786250590960566164782874269573694695559896482449529178760069548309922659973451518099229653241787748048009271016352254296462373595081607758988732755261025643585027333907080141781674568902054785307015731965282503839489019215426538387784642826953540740275626391575571807817067411567225864316392093915453253825939750741703085187725113697539486356803966072266379744653629688391687597833399083411901596526717869115094229894661974204457701070915281772070687961318597195063741044287081602439124126744434463778248324240167575574565228929423029813252725364525803230646311166618321047215737961308812541626790285532466282315456506522639986064725731987850206578282972694515988311752672365627363403252945551084312106949362411112552322577018080013722029897266978610727117590314220591218806997320542671663017046060649553065786406729983417073151955559752879899510810694804382079071961984762180152861788624529997979077887015917937287855687521008232217441799126735856231478030916664031754322654282524521320145072269595776729883396180324482075048643648539628278323610871348091973554074363911010827620153048192616143434588586439802891, 19940886010235717406067021337979723205813647058095612085714849491939045107949979235730779476677222591345139199902917432097897262093190137701948638369975191126391391251956075731743089497037192047712738325200996911393395214457286026392596370995489870048508837952869805068463290402797240139073596766413111200609427014187801453320114184077810902324826475746462385610485448080743830450031282737032036442226451524377149331931899519659338919769243837197372215549802743077306075065972668226791085032089794850436457368056192123307192191327737830314012202323895519563576345014650993091536507745025722946490858394085853336135091910878351889874454818321726622115484983856995281164166957510488723030058567003217019582912574801202469804772106750041824911030201342468434226152220561554284604423890592025473481836939911351180375941093865269893204085123217923246983674795164117322622921435384029187801075882871761010984949203774604605069070634617028458604559067355345653409856390127071909028879528420658394010095477690366764302557708767741010859732494004281617151097448773143611689562096679466500107, 19940886010235717406067021337979723205813647058095612085714849491939045107949979235730779476677222591345139199902917432097897262093190137701948638369975191126391391251956075731743089497037192047712738325200996911393395214457286026392596370995489870048508837952869805068463290402797240139073596766413111200609427014187801453320114184077810902324826475746462385610485448080743830450031282737032036442226451524377149331931899519659338919769243837197372215549802743077306075065972668226791085032089794850436457368056192123307192191327737830314012202323895519563576345014650993091536507745025722946490858394085853336135091910878351889874454818321726622115484983856995281164166957510488723030058567003217019582912574801202469804772106750041824911030201342468434226152220561554284604423890592025473481836939911351180375941093865269893204085123217923246983674795164117322622921435384029187801075882871761010984949203774604605069070634617028458604559067355345653409856390127071909028879528420658394010095477690366764302557708767741010859732494004281617151097448773143611689562096679466500107, 15936112490331184567643963371861620268356740051337838312279585007889714215781084446709579572211050630583994474696976198133835549862659795027551962383634916847962215322552991940823545141759493006965382027116857030235026782155449988867894424419499048611288784726097759934849856198787302317325363032650588723605957462853425385010821805191701094151013633610357437337422093394405875667247127228506560997357032208246209875552723251542178104868088162426894503769951345450940743872254523915787057977047245610282477483699012920500056399367198917874598805280640643949725647182633595001248646550551347484748870141360075436100984110010205634940621059704746709454379001036708314994093833848807344891239384914740956297161699748607386737567115436600551130950019422195309875067096615588902475407179597468025045889574760101165949163138234682606815564384892280597011082869607531865510269575065058405295004345443162245756536148089825926829010970676623974973521694496010451071260967087202556388401684077270841187149502725797953050752093017693954838788315543966602228299915785002684805488018203763072235834502124278654208091945910698347324293270395360169341116676622841030519138588233023789955907294850921454485188481449540104982282371957334494347275, 15936112490331184567643963371861620268356740051337838312279585007889714215781084446709579572211050630583994474696976198133835549862659795027551962383634916847962215322552991940823545141759493006965382027116857030235026782155449988867894424419499048611288784726097759934849856198787302317325363032650588723605957462853425385010821805191701094151013633610357437337422093394405875667247127228506560997357032208246209875552723251542178104868088162426894503769951345450940743872254523915787057977047245610282477483699012920500056399367198917874598805280640643949725647182633595001248646550551347484748870141360075436100984110010205634940621059704746709454379001036708314994093833848807344891239384914740956297161699748607386737567115436600551130950019422195309875067096615588902475407179597468025045889574760101165949163138234682606815564384892280597011082869607531865510269575065058405295004345443162245756536148089825926829010970676623974973521694496010451071260967087202556388401684077270841187149502725797953050752093017693954838788315543966602228299915785002684805488018203763072235834502124278654208091945910698347324293270395360169341116676622841030519138588233023789955907294850921454485188481449540104982282371957334494347275, 8203205679622053973272571474693786250590960566164782874269573694695559896482449529178760069548309922659973451518099229653241787748048009271016352254296462373595081607758988732755261025643585027333907080141781674568902054785307015731965282503839489019215426538387784642826953540740275626391575571807817067411567225864316392093915453253825939750741703085187725113697539486356803966072266379744653629688391687597833399083411901596526717869115094229894661974204457701070915281772070687961318597195063741044287081602439124126744434463778248324240167575574565228929423029813252725364525803230646311166618321047215737961308812541626790285532466282315456506522639986064725731987850206578282972694515988311752672365627363403252945551084312106949362411112552322577018080013722029897266978610727117590314220591218806997320542671663017046060649553065786406729983417073151955559752879899510810694804382079071961984762180152861788624529997979077887015917937287855687521008232217441799126735856231478030916664031754322654282524521320145072269595776729883396180324482075048643648539628278323610871348091973554074363911010827620153048192616143434588586439802891, 8203205679622053973272571474693786250590960566164782874269573694695559896482449529178760069548309922659973451518099229653241787748048009271016352254296462373595081607758988732755261025643585027333907080141781674568902054785307015731965282503839489019215426538387784642826953540740275626391575571807817067411567225864316392093915453253825939750741703085187725113697539486356803966072266379744653629688391687597833399083411901596526717869115094229894661974204457701070915281772070687961318597195063741044287081602439124126744434463778248324240167575574565228929423029813252725364525803230646311166618321047215737961308812541626790285532466282315456506522639986064725731987850206578282972694515988311752672365627363403252945551084312106949362411112552322577018080013722029897266978610727117590314220591218806997320542671663017046060649553065786406729983417073151955559752879899510810694804382079071961984762180152861788624529997979077887015917937287855687521008232217441799126735856231478030916664031754322654282524521320145072269595776729883396180324482075048643648539628278323610871348091973554074363911010827620153048192616143434588586439802891]
noncomputable def t_tk : List (List Nat) := [[39, 6, 0, 0], [39, 6, 0, 0], [43, 6, 0, 38], [43, 6, 0, 38], [38, 6, 0, 0], [38, 6, 0, 0], [59, 8, 45, 39], [59, 8, 45, 39], [74, 10, 55, 69], [74, 10, 55, 69], [69, 10, 55, 51], [69, 10, 55, 51], [65, 10, 51, 0], [65, 10, 51, 0], [69, 10, 50, 64], [69, 10, 50, 64], [64, 10, 50, 0], [64, 10, 50, 0], [65, 10, 51, 0], [65, 10, 51, 0], [69, 10, 50, 64], [69, 10, 50, 64], [64, 10, 50, 0], [64, 10, 50, 0]]
noncomputable def q_gt1 : Nat := 230217934778220036064718620059559245876507935950205280692400535666094103029980407797891179714723235511517801566958611793142985863930814711628891723551682473492480
noncomputable def q_gt3 : Nat := 1
/-! get_token -/
noncomputable def gtCall (lx : Nat) : Code := .call (.ref 81) ⟨[.ref lx], []⟩
noncomputable def meO (lx : Nat) : Obj := { cls := .type "method", dict := none, data := .fields #[.ref 74, .ref lx], slots := #[] }
noncomputable def ciO (me t : Nat) : Obj := { cls := .type "callable_iterator", dict := none, data := .fields #[.ref me, .str ⟨⟨[]⟩⟩ t, .bool false], slots := #[] }
noncomputable def chv (c t : Nat) : Value := .str ⟨⟨[c]⟩⟩ t
noncomputable def gvL : List Nat → (Nat → Nat) → Nat → List Value
  | [], _, _ => []
  | c :: r, ts, i => chv c (ts i) :: gvL r ts (i + 1)
noncomputable def dropN : Nat → List Value → List Value
  | 0, xs => xs
  | n + 1, xs => (dropN n xs).dropLast
noncomputable def csG (gv xs : List Value) : Nat → List Prop
  | 0 => []
  | n + 1 => [(dropN n xs).getLast? = nthV gv n ∧ (dropN n xs).length ≤ 100000, Int.ofNat (dropN n xs).length > 0, (dropN n xs).length ≤ 100000] ++ csG gv xs n
noncomputable def exCh : Option Value → Vs
  | none => []
  | some v => [([99, 104], v)]
noncomputable def vsG (lx it : Nat) (tok : Value) (ex : Option Value) : Vs := [([115, 101, 108, 102], .ref lx), ([116, 111, 107, 101, 110], tok), ([102, 105, 116, 101, 114], .ref it)] ++ exCh ex
structure GS where
  lx : Nat
  ld : Nat
  st : Nat
  rdd : Nat
  rd : Nat
  c2 : Nat
  ce : Nat
  sg : Nat
  pb : Nat
  c1 : Nat
  ct : Nat
  tw : Nat
  v0 : Value
  tq : Nat
  vs : List Value
structure GA where
  aux : Nat → Int × Nat
  ep : Nat
  aux2 : Nat → Int × Nat
  ep2 : Nat
  aux3 : Nat → Int × Nat
  ep3 : Nat
noncomputable def GS.vd (S : GS) (ln : Int) (tl : Nat) : Vs := vsD (.int ln tl) (.ref S.st) (.str wsN S.tw) S.pb
noncomputable def GS.L (S : GS) (A : GA) (top : Nat → Option Obj) (fr me it tt t0 : Nat) (ex : Option Value) (ln : Int) (tl : Nat) (xs : List Value) (e : Nat) : Led :=
  [(fr, dicF "frame" (vsG S.lx it (.str ⟨⟨[]⟩⟩ tt) ex) A.aux A.ep), (S.lx, lxO S.ld), (S.ld, dicF "dict" (S.vd ln tl) A.aux2 A.ep2), (S.st, smO top S.rdd S.c1), (S.rdd, dicF "dict" (rdD S.rd) A.aux3 A.ep3), (S.rd, rdO top S.ce S.c2 S.ct), (S.c2, coO S.v0 S.tq S.vs), (S.ce, ceO (some (.ref S.sg))), (S.sg, lsO xs e), (me, meO S.lx), (it, ciO me t0)]
noncomputable def GS.Fx (S : GS) (A : GA) (top : Nat → Option Obj) : List (Nat × Option Obj) := [(S.lx, some (lxO S.ld)), (S.st, some (smO top S.rdd S.c1)), (S.rdd, some (dicF "dict" (rdD S.rd) A.aux3 A.ep3)), (S.rd, some (rdO top S.ce S.c2 S.ct)), (S.c2, some (coO S.v0 S.tq S.vs)), (S.ce, some (ceO (some (.ref S.sg))))]
noncomputable def gtLoop (top : Nat → Option Obj) (fr it : Nat) : Code := loopC top 81 0 fr [] (.ref it)
noncomputable def tkL (p k m : Nat) : List Nat := match m with
  | 0 => 34 :: (repL p k ++ [34])
  | 1 => bareL p k ++ [10]
  | _ => bareL p k ++ [32]
noncomputable def exN : Option Value → Nat
  | none => 0
  | some _ => 1
noncomputable def vrK (k m : Nat) (ex : Nat) : Nat := (k * 3 + m) * 2 + ex
noncomputable def tkK (k m j : Nat) : Nat := (t_tk.getD (vrK k m 0) []).getD j 0
noncomputable def nlK (k m : Nat) : Nat := match k, m with
  | 1, 1 => 2
  | 1, _ => 1
  | _, 1 => 1
  | _, _ => 0
noncomputable def lnK (ln : Int) : Nat → Int
  | 0 => ln
  | n + 1 => lnK ln n + 1
noncomputable def ltK (tl t₀ k m : Nat) : Nat := match nlK k m with
  | 0 => tl
  | _ => t₀ + tkK k m 3
noncomputable def rtK (ts : Nat → Nat) (t₀ k m : Nat) : Nat := match k with
  | 0 => ts 1
  | _ => t₀ + tkK k m 2
@[reducible] noncomputable def tkTurn_p (P : Params) (top : Nat → Option Obj) (p k m : Nat) (b : Bool) := fun B t₀ (S : GS) (A : GA) fr me it tt t0 v ln tl xs e ts => (toldLp P top (gvL (tkL p k m) ts 0) (S.L A top fr me it tt t0 (match b with | true => some v | false => none) ln tl xs e) B t₀ 1500 (gtLoop top fr it) (q_tk.getD (vrK k m (match b with | true => 1 | false => 0)) 0) [1, 3, 4, 5, 6, 7, 8] [2]
    (.fin (.ok (.ret (.str ⟨⟨nameL p k⟩⟩ (rtK ts t₀ k m))))) 0 (tkK k m 1) (tkK k m 0) true (S.Fx A top ++ [(S.sg, some (lsO (dropN (tkL p k m).length xs) (e + (tkL p k m).length)))]) [(S.ld, some (false, S.vd (lnK ln (nlK k m)) (ltK tl t₀ k m)))] (csG (gvL (tkL p k m) ts 0) xs (tkL p k m).length) : Tale × Tale)
@[reducible] noncomputable def tkTurn (P : Params) (top : Nat → Option Obj) (p k m : Nat) (b : Bool) : Prop := ∀ B t₀ (S : GS) (A : GA) fr me it tt t0 v ln tl xs e ts, IsT (tkTurn_p P top p k m b B t₀ S A fr me it tt t0 v ln tl xs e ts)
@[reducible] noncomputable def GtRuns_isf (P : Params) (top : Nat → Option Obj) : Prop := ∀ fr it, isFor (gtLoop top fr it) = true
@[reducible] noncomputable def GtRuns_r1_p (P : Params) (top : Nat → Option Obj) := fun B t₀ (S : GS) (A : GA) ln tl e => (toldLp P top [] [(S.lx, lxO S.ld), (S.ld, dicF "dict" (S.vd ln tl) A.aux2 A.ep2), (S.pb, lsO [] e)] B t₀ 300 (gtCall S.lx) q_gt1 [0, 2, 4, 5, 1] [3] (.call (gtLoop top B (B + 2))) 0 3 9 true
    [(S.lx, some (lxO S.ld)), (S.pb, some (lsO [] e)), (B + 1, some (meO S.lx)), (B + 2, some (ciO (B + 1) (t₀ + 7))), (S.ld, some (dicF "dict" (S.vd ln tl) A.aux2 A.ep2))] [(B, some (true, vsG S.lx (B + 2) (.str ⟨⟨[]⟩⟩ (t₀ + 4)) none))] [] : Tale × Tale)
@[reducible] noncomputable def GtRuns_r1 (P : Params) (top : Nat → Option Obj) : Prop := ∀ B t₀ (S : GS) (A : GA) ln tl e, IsT (GtRuns_r1_p P top B t₀ S A ln tl e)
@[reducible] noncomputable def GtRuns_r2_p (P : Params) (top : Nat → Option Obj) := fun B t₀ (S : GS) (A : GA) ln tl e B2 t2 v => (toldGp P top [] [] B2 t2 50 ((runQ (vOf P top [] [(S.lx, lxO S.ld), (S.ld, dicF "dict" (S.vd ln tl) A.aux2 A.ep2), (S.pb, lsO [] e)] B t₀) 300 (startC (gtCall S.lx) (btOf ([(S.lx, lxO S.ld), (S.ld, dicF "dict" (S.vd ln tl) A.aux2 A.ep2), (S.pb, lsO [] e)].map (·.2))) q_gt1)).resume (.ok (.ret v)) (btOf []) 0) [] [] (.fin (.ok (.ret v))) 0 0 0 true [] [] [] : Tale × Tale)
@[reducible] noncomputable def GtRuns_r2 (P : Params) (top : Nat → Option Obj) : Prop := ∀ B t₀ (S : GS) (A : GA) ln tl e B2 t2 v, IsT (GtRuns_r2_p P top B t₀ S A ln tl e B2 t2 v)
@[reducible] noncomputable def GtRuns_r3_p (P : Params) (top : Nat → Option Obj) := fun B t₀ (S : GS) (A : GA) ln tl e B2 t2 tt ex aux ep => (toldGp P top [] [(B, dicF "frame" (vsG S.lx (B + 2) (.str ⟨⟨[]⟩⟩ tt) ex) aux ep)] B2 t2 50 ((runQ (vOf P top [] [(S.lx, lxO S.ld), (S.ld, dicF "dict" (S.vd ln tl) A.aux2 A.ep2), (S.pb, lsO [] e)] B t₀) 300 (startC (gtCall S.lx) (btOf ([(S.lx, lxO S.ld), (S.ld, dicF "dict" (S.vd ln tl) A.aux2 A.ep2), (S.pb, lsO [] e)].map (·.2))) q_gt1)).resume (.ok .next) (btOf ([(B, dicF "frame" (vsG S.lx (B + 2) (.str ⟨⟨[]⟩⟩ tt) ex) aux ep)].map (·.2))) q_gt3) [] [] (.fin (.ok (.ret (.str ⟨⟨[]⟩⟩ tt)))) 0 0 0 true [] [] [] : Tale × Tale)
@[reducible] noncomputable def GtRuns_r3 (P : Params) (top : Nat → Option Obj) : Prop := ∀ B t₀ (S : GS) (A : GA) ln tl e B2 t2 tt ex aux ep, IsT (GtRuns_r3_p P top B t₀ S A ln tl e B2 t2 tt ex aux ep)
@[reducible] noncomputable def GtRuns_ws_p (P : Params) (top : Nat → Option Obj) := fun B t₀ (S : GS) (A : GA) fr me it tt t0 ex ln tl xs e tc => (toldLp P top [chv 32 tc] (S.L A top fr me it tt t0 ex ln tl xs e) B t₀ 400 (gtLoop top fr it) (q_wsS.getD (exN ex) 0) [1, 3, 4, 5, 6, 7, 8, 9, 10] [0, 2] (.again (gtLoop top fr it)) 0 2 12 true
    (S.Fx A top ++ [(S.sg, some (lsO xs.dropLast (e + 1))), (me, some (meO S.lx)), (it, some (ciO me t0))]) [(fr, some (true, vsG S.lx it (.str ⟨⟨[]⟩⟩ tt) (some (chv 32 tc)))), (S.ld, some (false, S.vd ln tl))] (csG [chv 32 tc] xs 1) : Tale × Tale)
@[reducible] noncomputable def GtRuns_ws (P : Params) (top : Nat → Option Obj) : Prop := ∀ B t₀ (S : GS) (A : GA) fr me it tt t0 ex ln tl xs e tc, IsT (GtRuns_ws_p P top B t₀ S A fr me it tt t0 ex ln tl xs e tc)
@[reducible] noncomputable def GtRuns_wn_p (P : Params) (top : Nat → Option Obj) := fun B t₀ (S : GS) (A : GA) fr me it tt t0 ex ln tl xs e tc => (toldLp P top [chv 10 tc] (S.L A top fr me it tt t0 ex ln tl xs e) B t₀ 400 (gtLoop top fr it) (q_wsN.getD (exN ex) 0) [1, 3, 4, 5, 6, 7, 8, 9, 10] [0, 2] (.again (gtLoop top fr it)) 0 2 17 true
    (S.Fx A top ++ [(S.sg, some (lsO xs.dropLast (e + 1))), (me, some (meO S.lx)), (it, some (ciO me t0))]) [(fr, some (true, vsG S.lx it (.str ⟨⟨[]⟩⟩ tt) (some (chv 10 tc)))), (S.ld, some (false, S.vd (ln + 1) (t₀ + 12)))] (csG [chv 10 tc] xs 1) : Tale × Tale)
@[reducible] noncomputable def GtRuns_wn (P : Params) (top : Nat → Option Obj) : Prop := ∀ B t₀ (S : GS) (A : GA) fr me it tt t0 ex ln tl xs e tc, IsT (GtRuns_wn_p P top B t₀ S A fr me it tt t0 ex ln tl xs e tc)
structure GtRuns (P : Params) (top : Nat → Option Obj) : Prop where
  isf : GtRuns_isf P top
  r1 : GtRuns_r1 P top
  r2 : GtRuns_r2 P top
  r3 : GtRuns_r3 P top
  ws : GtRuns_ws P top
  wn : GtRuns_wn P top
end
end Mine

end
section
open PySem PySem.W PySem.W.X PyProof.Rows
set_option maxRecDepth 100000
set_option Elab.async false
set_option maxHeartbeats 2000000
set_option genInjectivity false
set_option genSizeOfSpec false
namespace Mine
noncomputable section
noncomputable def q_la0 : Nat := 1099528536064
noncomputable def q_la1 : Nat := 16842752
noncomputable def q_la2 : Nat := 284786446893314
noncomputable def q_la3 : Nat := 1339673516577933831969008632094524676
noncomputable def q_la4 : Nat := 97280494887147236652896808936321213329459595458904064
noncomputable def q_lb1 : Nat := 16777472
noncomputable def q_lb2 : Nat := 419429759321143546364483278433525104133824004461895947105927169
noncomputable def q_lrd1 : Nat := 1766928155242969118808616840277072539762628947215741504738109421183565828
noncomputable def q_lrd2 : Nat := 6350853461819820509563109653975242291105961181345145225217
noncomputable def q_le1 : Nat := 1
noncomputable def q_le3 : Nat := 87116284000341318473342600952644475290113
noncomputable def q_lf2 : Nat := 1
noncomputable def q_lh1 : Nat := 378540386825963130915285078669499439824982847258624
noncomputable def q_lk2 : Nat := 1099528470784
noncomputable def q_lk3 : Nat := 1
noncomputable def q_lk4 : Nat := 1208944338416301217153280
noncomputable def q_lk6 : Nat := 1
noncomputable def q_li1 : Nat := 22301086815317837034153281144943206425821186
noncomputable def q_li2 : Nat := 24808022791026319747664122915684315288370075877941182465
noncomputable def q_lk0 : Nat := 310703398965349856542064642
noncomputable def q_lk1 : Nat := 257
noncomputable def q_lf1T : Nat := 13760663828555390876224404951203111054645827580197279182434747583384399724435618933732554657116555530123083029661092547683337415777856751571978750146770178623456024875018546820110835441876950249701427770382132316476759969511823181492624987588862252729355602444373961772843120686905401341420007801916315615546756060534419577377541345546730616152829248783177322853082198900412659935412221837721322934485507305037086484693595508653940941767023570760675752298513018956103233548647575432586286647517546717873438720
noncomputable def q_le2T : List Nat := [365530821317981764908554579654902143684442868937607817219469522700343227151029234821374391142956699863252154739621413027714277433602755510891318633403514312349177993347289386195722352994462884901150891053576624342501586921332142662742411077715295281654302763515337176781857752199186530041075945413956417366596832085638624018289805930178845433411936114373315264180236393151454138611053437912233572765197819641819413407827420288756779371852899610568571748400199999896420352, 11913591014299435080129160771438374446652729892555753166817295388026659654496290231904253581901246327865357050632256297088860248687293049968275275333652531952013188046056790883809051700096325059335650978756445118472653689594216564274401398972579883037042514084748025447583458317568142550310794282600138741553887333460951800557211585148237036711820682863299782444988607142002827958916822635781095777494098675075955975528528399327711098873017563315876085561104206464380385091569713264979703438319599012013626936615746236955137977430811711462154540708494018443476992, 388294618615828371015903493974838703718591989287574504698914966830146109330028537216360784073648438327750830657676998734759633502707610003523046855355995889742875527058763683338151571369205236986588199382438505260304483035500471442638516357777655913329230382625220961296956445832667872487932151975612098871279682343576872270151695034127669837362801267099470334695179928122699848813341662935552479607161919281144255501610868594749866594506993143368616330918146423185223817011497417874060253982042636151147887814329308178597312175857500906934264192157707648070856894656264645522680519529057190954848513663429458565681573690843349066627531611465680653647872, 12655521804050918781389185658522621704891604471356665055217161115345343792039315810897965180009739980487355593618906719589581617027552189877788841781373036809726221448795759554198204076264451807114059174300813602935305979329427868342197283308637785140400707599228651183179873747819976418049366534750584225506953596473920391987691388417174943492978643015432663922745894486912235611546637762984263574688661993408387762299159512769373018846039655433478843292192021998941856721691874061942332373965059590425441471761292279117203504292626439424173846882378641672575972464658880653789450749692703488786172670093975832887580380360037129118833326390835375704007896596764183492252695637952454464607355488436545403446560594198694268117702534225943374856192]
noncomputable def q_lgT : List Nat := [23955425374199492498498834368101754396413308741254137292107523243376261583799833315115118805701136012907722849128410003385352062400343875164158016837448888431741808986697468122547982818655312635390600841555447499535738579416511396453335888161388178151513871381012294614247417510684865530715231802636001953193581017558709430615616336882812911283125120937397847710041483353050623232682508932412802287359173022040362400637692828572045076626601782700045982124991101764013714833408, 780769013050324716669182401870057213391194544947729092879691584126425988957337980967809896156142168886470843954421536174953487703884380374634197309055249484058111915911693793491315904195025678127907564603276279559128576504246167250776246987604941561364983004823011537834552559293949117328833542106121322897544818064714766339772198877195559356982884351108480684180393101160102460426455497963518186811093911754497247123580638401244019981893734244593058902860229260314893923552175057071986597924008486621439245543927249515178819962850356553596388292773424625713716133888, 25447273100653461501681177156881236382078080544924098969960646785836286249095154240107123941681783421320906509126189830343704522257561669837716676141292326575437151971113831465995556410831204342371734974099831076250202635053234449489726951732755361329369095506757658365707076271522891634405157866492947091171732629484165111357876056331286070847737953905104430049610480975497713713208014249912010448750283064896084907920527554253128296090763836400303297488778534488149516514362665844171561264671264617284471351548360907173190941431206265688997265123131875469028847815328228459597591170467771625672031818474347488697543763174988822885239899477919648965048926208, 829392172890322314160946392353991702314151062381418217090400926327530650050451775318542667189816442015686934870425025617532864300189846582794210884439709548852346935238930430550497796395979529713449595663796461439193927369946737987432401536768720872486916552988771518154027473313184877463216594275523928165939545298334509383784380643613173278504156255899464623224137916264914414926286233077208250125092747454530604244251064309846324985059989321447535503491614552915196184191006259672607193642036222828684554199452846391170254603885265750021038259059146456413431796015976276534514907744573915183488181835691757721496418123002334282685263502823152449958012729377477370805244966175474875065144771299228349183713529673715329504190119824783138097167597568]
noncomputable def q_lf1F : Nat := 3873282530665795075301743212788307580233967096286552477973797832271529889827546423486035621501213059451884959635013006519779640272424085027189248615208263169856105698582013279326754132334949838270409345485862058197805040474209494620274477425398203634251795769128637235744957024753402131720009397652384756373089579098775772671422072357587729520940217886047888777073227011000862987187975950939593189980242212362871276757489896018487628687265411083681411824505208777968271484984091323378477005667284012525093314993481150627840
noncomputable def q_le2F : List Nat := [102887779417505877000624691625907432535161245929795737316987191588729898178233618680886552935196988975137140035302546759702358472103994744816401471293587924124149246453973875684706966648087233150075225363996382683537199507388686499190211428415917761081398994336533392175336624738767878509700233442441559707409438253057399942872748675583508517194511896233555040321648430817902192242086732099840227987975863661528283132938452074236316796669747528742209725136545125292928697357049784172544, 3353377753290214081850892941345026810037899857602055615815923538247426584882985428539999842307716578005601617433628306223052539430590911635904013604187872491044319003837206272715706398191577738748354916557083281526547616048145737600207157891162347824192078122556597318316635960412363456843015525469479091571034837410344761847024080333307732605876385186726556745409559708794498188775403343374734182277503165559482694423727688261287775842850104362617871078092988508572584697671049791221610830366834594469025741397760439100223593457036536676917222128165141615048014016267507728384, 109295218731763344438870658417561782147244764768351999547489524725868286867807472064331018648501465777383849781595791746480603418792762567259188823721878800561345150170965808914750577581866774322828142638995916509946296509376845043381984802020790592293441042790802433870666771935245369394172182357747679509483667412414057811952979616107328034580651725890491899342878927757156451999904356812878856559294373605481277478514639236799145857762618821447807560192160729695512981963058044322285790008857519295483575731619187838247290991333249328845488411583526602197788777070249496676988429159966806983498501821591985817052401098145101574645998188671666387478198999797584625664, 3562212705056431569949080017399112263184495701488058051053731261210370725162876046804417304401581583738920659590569698781553989219525157614930186223269679928048241595923269279335109493357917658082376698785350162238607771892000011381685031311156573732070739638612507469935362902084534272721764573529414484980259534762480042016416395938535806534483396354227707238046281717485060225357536897975976684154510157000683881179480842281402466721368111789237884383911851238199644731813683061390900971709528328606084356346796956549493083466198297560465522306470892317744597684132669568056871448722331633854822111973384090344916187756468645062975057724934170395842110554692115990012485815790159051264619974864831280534452984186076217498055412901708097969122827200924483584]
noncomputable def q_lgF : List Nat := [6742852799296659944954253980802604120986050936362594841021370285808739426314580623272882847458325792390283493562021515691251229881508049910757150798188401386185280580075161166305434428826875754293375978718542219257510126013606475214249527198107290509100568443079764262394894343264615007294560933077369158445206944320130827187706482772869122519700064901671722631522986348031564094949895321415900213800935293376034511315345015138950300582146577141941018021432429944124490252856456874588897280, 219766939764742020154956478355251198241280742190225718207186325758897838616492360825268727495772518802646696698954371070001555964514896830416689915861631054063236811479359610356457764849077747282056674992591918540980914378818931489205794335973817802689988468756358419135205861029354688322955309296755018514642432968767565528930924512382998782585620235535063835397488176916506851904111285171172488868978155911267985477979924879910161058221529545299882987774694230072671604792735565073030575282546187621705678206812817317977697002270957901768412612767928690417263873713309787262812160, 7162770603356135973120619636823632879096346473850658087124878252584099214128460402087416880571473660053309527016768199617019862226274317805560971351862412431671574175371483076343015071143897519015840238045638263545469510020409929208885486922101870354648488313790443662753968980097003401060164662087145355427245061786211090638194331743966161529167774194098439096093682783262661523603399930575195717959204853151913103717684819563908414662379787059121161974268738444552455650502217831815124605011458898146017986710675721991864116930837370959595448614079222135824289775445330410837646469563554969805031265822146093668070876986884743018819525796375993593241828643293928441774080, 233453142548303848028261740417487917317793141943949532889212535053015418562432933889198046443003828155217065033266461582771215163360629074451398134778808749002571410289264960814028378081905786618165740484718048908532974266333300845307692555381099571647865997424579361222676859359437901942376544035004487089400290224993552372305692431478555312518361967438201331427353193883329749604589477678392467604678984288435974455962967554390935247036110781397493112327069913252392407696956725829640622161715836216709530975403339700252696031505983139519481160310705996429392544990177604483651583605958383184626291847121950798681380750585805607783158632006801387958563061486581432096429986969876060785533309184530644678993393133698852080871364501500793662801812226176742315786240]
/-! law, part by part -/
noncomputable def nL : List (List Nat) := [[115, 99, 114, 105, 112, 116], [100, 114, 97, 119, 115], [116, 101, 120, 116], [112, 108, 97, 99, 101], [120], [110, 97, 109, 101], [103, 97, 112], [114, 101, 97, 100, 101, 114], [106, 111, 98, 115], [119, 111, 114, 100], [100, 101, 115, 107, 115], [100, 117, 101], [102, 105, 114, 115, 116], [111, 110, 101], [115, 101, 99, 111, 110, 100], [116, 119, 111]]
noncomputable def vsL (vals : List Value) : Vs := zipN nL vals
noncomputable def lawB (top : Nat → Option Obj) : List Stmt := match (fdAt top 142).body with
  | .stmts b => b
  | _ => []
noncomputable def lawE (top : Nat → Option Obj) (fr : Nat) : Env := envAt top 142 fr (lawCells fr)
noncomputable def lawF (top : Nat → Option Obj) (fr : Nat) : Code := .func (lawB top) (lawE top fr)
noncomputable def partB (top : Nat → Option Obj) (i n : Nat) : List Stmt := ((lawB top).drop i).take n
noncomputable def partT (top : Nat → Option Obj) (fr i n : Nat) : Sem PySem.Fin := flowT (zwExecs (partB top i n) (lawE top fr))
noncomputable def lawCl (sl : Nat) : Code := .call (.ref 142) ⟨[.ref sl], []⟩
noncomputable def frO (vals : List Value) (aux : Nat → Int × Nat) (ep : Nat) : Obj := dicF "frame" (vsL vals) aux ep
noncomputable def slO (t : Nat) : Obj := { cls := .type "slice", dict := none, data := .fields #[.none, .int 3 t, .none], slots := #[] }
noncomputable def fourL (t : Nat) : List (Int × Nat) := [(13, t), (3, t + 1), (7, t + 2), (21, t + 3)]
noncomputable def gRun (P : Params) (top : Nat → Option Obj) (L : Led) (B t₀ : Nat) (c : Code) (t : Sem PySem.Fin) (q : Nat) : RO := runQ (vOf P top [] L B t₀) 600 (stT c t (btOf (L.map (·.2))) q)
@[reducible] noncomputable def gToldp (P : Params) (top : Nat → Option Obj) (L : Led) (B t₀ : Nat) (c : Code) (t : Sem PySem.Fin) (q : Nat) (js ks : List Nat) (ob : Ob) (m i : Nat) (F : List (Nat × Option Obj)) (G : List (Nat × Option (Bool × Vs))) (cs : List Prop) : Tale × Tale := toldGp P top [] L B t₀ 600 (stT c t (btOf (L.map (·.2))) q) js ks ob 0 m i true F G cs
@[reducible] noncomputable def gTold (P : Params) (top : Nat → Option Obj) (L : Led) (B t₀ : Nat) (c : Code) (t : Sem PySem.Fin) (q : Nat) (js ks : List Nat) (ob : Ob) (m i : Nat) (F : List (Nat × Option Obj)) (G : List (Nat × Option (Bool × Vs))) (cs : List Prop) : Prop := IsT (gToldp P top L B t₀ c t q js ks ob m i F G cs)
noncomputable def rRun (P : Params) (top : Nat → Option Obj) (o : RO) (r : Result) (L : Led) (B t₀ q : Nat) : RO := runQ (vOf P top [] L B t₀) 600 (o.resume r (btOf (L.map (·.2))) q)
@[reducible] noncomputable def rToldp (P : Params) (top : Nat → Option Obj) (o : RO) (r : Result) (L : Led) (B t₀ q : Nat) (js ks : List Nat) (ob : Ob) (m i : Nat) (F : List (Nat × Option Obj)) (G : List (Nat × Option (Bool × Vs))) (cs : List Prop) : Tale × Tale := toldGp P top [] L B t₀ 600 (o.resume r (btOf (L.map (·.2))) q) js ks ob 0 m i true F G cs
@[reducible] noncomputable def rTold (P : Params) (top : Nat → Option Obj) (o : RO) (r : Result) (L : Led) (B t₀ q : Nat) (js ks : List Nat) (ob : Ob) (m i : Nat) (F : List (Nat × Option Obj)) (G : List (Nat × Option (Bool × Vs))) (cs : List Prop) : Prop := IsT (rToldp P top o r L B t₀ q js ks ob m i F G cs)
noncomputable def b3q (P : Params) (a b : Nat) : Nat := match asksB3 P with
  | true => a
  | false => b
noncomputable def w9 (top : Nat → Option Obj) : PySem.Expr × PySem.Expr × PySem.Expr := match partB top 9 1 with
  | [.If (.BoolOp .Or [.Compare l [.NotEq] [r] _, y] _) _ [] _] => (l, r, y)
  | _ => default
noncomputable def w3 (top : Nat → Option Obj) : PySem.Expr × PySem.Expr × Stmt × PySem.Expr × PySem.Expr := match loopAt top 142 3 with
  | some (.For tg _ [.If c [a, .If (.Compare l [.NotEq] [r] _) _ [] _] [] _] [] _) => (tg, c, a, l, r)
  | _ => default
noncomputable def c9 (top : Nat → Option Obj) : Pos × Pos × List Stmt × Pos := match partB top 9 1 with
  | [.If (.BoolOp .Or [.Compare _ [.NotEq] [_] p, _] p') b [] p''] => (p, p', b, p'')
  | _ => default
noncomputable def c3 (top : Nat → Option Obj) : Pos × List Stmt × Pos × Pos := match loopAt top 142 3 with
  | some (.For _ _ [.If _ [_, .If (.Compare _ [.NotEq] [_] p) b [] p'] [] p''] [] _) => (p, b, p', p'')
  | _ => default
noncomputable def headZ (tg : PySem.Expr) (it : Value) (env : Env) : Sem Flow :=
  R.bindR (standAt tg.pos) fun _ => R.bindR (R.onRaiseR (ZFast.zw9404975358583537561 it) fun _ => standAt { tg.pos with line := 0 }) fun r => match r with
    | none => .pure .brk
    | some v => R.bindR (ZFast.zw1578499551869305889 tg it v) fun _ => R.bindR (ZFast.zw17772580674575903948 tg env v) fun _ => .pure .next
noncomputable def nvs (N : List (Str × Nat)) : List Value := N.map fun x => .str x.1 x.2
noncomputable def zipJ : List (Int × Nat) → List (Str × Nat) → List Job
  | h :: H, n :: N => (h, n) :: zipJ H N
  | _, _ => []
noncomputable def tupF (a : Nat) : List Job → List (Nat × Option Obj)
  | [] => []
  | j :: r => (a, some (tuO j)) :: tupF (a + 1) r
noncomputable def refF (a : Nat) : List Job → List Nat
  | [] => []
  | _ :: r => a :: refF (a + 1) r
noncomputable def idxF (a : Nat) : List Job → List Nat
  | [] => []
  | _ :: r => a :: idxF (a + 1) r
noncomputable def cK (tot : Int) : Nat → Int
  | 0 => 1 + Int.fmod (Int.fdiv tot (.ofNat (4 ^ 0)) + 2) 4
  | 1 => 1 + Int.fmod (Int.fdiv tot (.ofNat (4 ^ 1)) + 1) 4
  | _ => 1 + Int.fmod (Int.fdiv tot (.ofNat (4 ^ 2)) + 1) 4
noncomputable def sK (tot : Int) : Nat → Int
  | 0 => 1 + Int.fmod (Int.fdiv tot (64 * .ofNat (5 ^ 0)) + 4) 5
  | 1 => 1 + Int.fmod (Int.fdiv tot (64 * .ofNat (5 ^ 1)) + 2) 5
  | _ => 1 + Int.fmod (Int.fdiv tot (64 * .ofNat (5 ^ 2)) + 1) 5
noncomputable def lenC (n : Nat) : List Prop := [0 ≤ Int.ofNat n ∧ Int.ofNat n ≤ 100000, n ≤ 100000]
structure F7 where
  sl : Nat
  dr : Nat
  l : List Nat
  tt : Nat
  v1 : Value
  v2 : Value
  v3 : Value
  v4 : Value
noncomputable def F7.vs (S : F7) (ex : List Value) : List Value := [.ref S.sl, .ref S.dr, .str ⟨⟨S.l⟩⟩ S.tt, S.v1, S.v2, S.v3, S.v4] ++ ex
noncomputable def exW : Option Value → List Value
  | none => []
  | some v => [v]
noncomputable def exQ : Option (Value × Value × Value × Value) → List Value
  | none => []
  | some (a, b, c, d) => [a, b, c, d]
noncomputable def exQ1 (f : Value) : Option (Value × Value × Value × Value) → List Value
  | none => [f]
  | some (_, b, c, d) => [f, b, c, d]
noncomputable def exQ2 (f o : Value) : Option (Value × Value × Value × Value) → List Value
  | none => [f, o]
  | some (_, _, c, d) => [f, o, c, d]
noncomputable def exR0 : Option (Value × Option Value) → List Value
  | none => []
  | some (s, none) => [s]
  | some (s, some t) => [s, t]
noncomputable def exR1 (s : Value) : Option (Value × Option Value) → List Value
  | none => [s]
  | some (_, none) => [s]
  | some (_, some t) => [s, t]
@[reducible] noncomputable def LaRuns_isf (P : Params) (top : Nat → Option Obj) : Prop := ∀ k fr it, k < 4 → isFor (lawLoop top k fr it) = true
@[reducible] noncomputable def LaRuns_a0_p (P : Params) (top : Nat → Option Obj) := fun B t₀ sl xs e => (toldLp P top [] [(sl, lsO (ivs xs) e)] B t₀ 50 (lawCl sl) q_la0 [0, 2, 3, 4, 5] [1] (.again (lawF top B)) 0 5 1 true [(sl, some (lsO (ivs xs) e)), (B + 1, some (ceO none)), (B + 2, some (ceO none)), (B + 3, some (ceO none)), (B + 4, some (ceO none))] [(B, some (true, vsL [.ref sl]))] [] : Tale × Tale)
@[reducible] noncomputable def LaRuns_a0 (P : Params) (top : Nat → Option Obj) : Prop := ∀ B t₀ sl xs e, IsT (LaRuns_a0_p P top B t₀ sl xs e)
@[reducible] noncomputable def LaRuns_a1_p (P : Params) (top : Nat → Option Obj) := fun B t₀ fr sl aux ep => (gToldp P top [(fr, frO [.ref sl] aux ep), (fr + 1, ceO none), (fr + 2, ceO none), (fr + 3, ceO none)] B t₀ (lawF top fr) (partT top fr 0 5) q_la1 [1, 2, 3] [0] (.call (.call (.builtin "sum") ⟨[.ref sl], []⟩)) 0 0 [(fr + 1, some (ceO none)), (fr + 2, some (ceO none)), (fr + 3, some (ceO none))] [(fr, some (true, vsL [.ref sl]))] [] : Tale × Tale)
@[reducible] noncomputable def LaRuns_a1 (P : Params) (top : Nat → Option Obj) : Prop := ∀ B t₀ fr sl aux ep, IsT (LaRuns_a1_p P top B t₀ fr sl aux ep)
@[reducible] noncomputable def LaRuns_a2_p (P : Params) (top : Nat → Option Obj) := fun B t₀ fr sl aux ep B2 t2 aux2 ep2 M tM ys ey => (rToldp P top (gRun P top [(fr, frO [.ref sl] aux ep), (fr + 1, ceO none), (fr + 2, ceO none), (fr + 3, ceO none)] B t₀ (lawF top fr) (partT top fr 0 5) q_la1) (.ok (.ret (.int M tM))) [(fr, frO [.ref sl] aux2 ep2), (fr + 1, ceO none), (sl, lsO (ivs ys) ey)] B2 t2 q_la2 [1, 3, 4, 2] [0] (.call (.call (.builtin "list.__getitem__") ⟨[.ref sl, .ref (B2 + 1)], []⟩)) 2 5 [(fr + 1, some (ceO (some (.int M tM)))), (B2, some (lsO (ivs (fourL t2)) 0)), (B2 + 1, some (slO (t2 + 4))), (sl, some (lsO (ivs ys) ey))] [(fr, some (true, vsL [.ref sl]))] [] : Tale × Tale)
@[reducible] noncomputable def LaRuns_a2 (P : Params) (top : Nat → Option Obj) : Prop := ∀ B t₀ fr sl aux ep B2 t2 aux2 ep2 M tM ys ey, IsT (LaRuns_a2_p P top B t₀ fr sl aux ep B2 t2 aux2 ep2 M tM ys ey)
@[reducible] noncomputable def LaRuns_a3_p (P : Params) (top : Nat → Option Obj) := fun (xs : List (Int × Nat)) B t₀ fr sl aux ep B2 t2 aux2 ep2 M tM ys ey B3 t3 aux3 ep3 sv tf => (rToldp P top (rRun P top (gRun P top [(fr, frO [.ref sl] aux ep), (fr + 1, ceO none), (fr + 2, ceO none), (fr + 3, ceO none)] B t₀ (lawF top fr) (partT top fr 0 5) q_la1) (.ok (.ret (.int M tM))) [(fr, frO [.ref sl] aux2 ep2), (fr + 1, ceO none), (sl, lsO (ivs ys) ey)] B2 t2 q_la2)
      (.ok (.ret (.ref sv))) [(fr, frO [.ref sl] aux3 ep3), (fr + 2, ceO none), (fr + 3, ceO none), (B2, lsO (ivs (fourL tf)) 0), (sv, lsO (ivs xs) 0)] B3 t3 q_la3 [5, 1, 2, 6, 7] [0] (.fin (.ok .next)) 3 3
      [(B3, some (lsO (ivs (fourL tf ++ xs)) 0)), (fr + 2, some (ceO (some (.ref (B3 + 1))))), (fr + 3, some (ceO (some (.ref (B3 + 2))))), (B3 + 1, some (lsO [] 0)), (B3 + 2, some (lsO [] 0))] [(fr, some (true, vsL [.ref sl, .ref B3, .str ⟨⟨[]⟩⟩ (t3 + 1)]))] [] : Tale × Tale)
@[reducible] noncomputable def LaRuns_a3 (P : Params) (top : Nat → Option Obj) : Prop := ∀ (xs : List (Int × Nat)), xs.length ≤ 3 → ∀ B t₀ fr sl aux ep B2 t2 aux2 ep2 M tM ys ey B3 t3 aux3 ep3 sv tf, IsT (LaRuns_a3_p P top xs B t₀ fr sl aux ep B2 t2 aux2 ep2 M tM ys ey B3 t3 aux3 ep3 sv tf)
@[reducible] noncomputable def LaRuns_a4_p (P : Params) (top : Nat → Option Obj) := fun B t₀ fr sl dr tx aux ep D ed => (gToldp P top [(fr, frO [.ref sl, .ref dr, tx] aux ep), (dr, lsO (ivs D) ed)] B t₀ (lawF top fr) (partT top fr 5 1) q_la4 [1, 3] [0] (.call (lawLoop top 0 fr (B + 1))) 2 4 [(dr, some (lsO (ivs D) ed)), (B + 1, some (riO 0 (.ofNat (ivs D).length) 1))] [(fr, some (true, vsL [.ref sl, .ref dr, tx]))] (lenC (ivs D).length) : Tale × Tale)
@[reducible] noncomputable def LaRuns_a4 (P : Params) (top : Nat → Option Obj) : Prop := ∀ B t₀ fr sl dr tx aux ep D ed, IsT (LaRuns_a4_p P top B t₀ fr sl dr tx aux ep D ed)
@[reducible] noncomputable def LaRuns_a5_p (P : Params) (top : Nat → Option Obj) := fun B t₀ fr sl dr tx aux ep D ed B2 t2 => (rToldp P top (gRun P top [(fr, frO [.ref sl, .ref dr, tx] aux ep), (dr, lsO (ivs D) ed)] B t₀ (lawF top fr) (partT top fr 5 1) q_la4) (.ok .next) [] B2 t2 0 [] [] (.fin (.ok .next)) 0 0 [] [] [] : Tale × Tale)
@[reducible] noncomputable def LaRuns_a5 (P : Params) (top : Nat → Option Obj) : Prop := ∀ B t₀ fr sl dr tx aux ep D ed B2 t2, IsT (LaRuns_a5_p P top B t₀ fr sl dr tx aux ep D ed B2 t2)
structure LaRuns (P : Params) (top : Nat → Option Obj) : Prop where
  len : (lawB top).length = 15
  isf : LaRuns_isf P top
  a0 : LaRuns_a0 P top
  a1 : LaRuns_a1 P top
  a2 : LaRuns_a2 P top
  a3 : LaRuns_a3 P top
  a4 : LaRuns_a4 P top
  a5 : LaRuns_a5 P top
@[reducible] noncomputable def LbRuns_b1_p (P : Params) (top : Nat → Option Obj) := fun B t₀ fr (S : F7) aux ep => (gToldp P top [(fr, frO (S.vs []) aux ep)] B t₀ (lawF top fr) (partT top fr 6 3) q_lb1 [] [0] (.call (lexCall S.l S.tt)) 0 0 [] [(fr, some (true, vsL (S.vs [])))] [] : Tale × Tale)
@[reducible] noncomputable def LbRuns_b1 (P : Params) (top : Nat → Option Obj) : Prop := ∀ B t₀ fr (S : F7) aux ep, IsT (LbRuns_b1_p P top B t₀ fr S aux ep)
@[reducible] noncomputable def LbRuns_b2_p (P : Params) (top : Nat → Option Obj) := fun B t₀ fr (S : F7) aux ep B2 t2 aux2 ep2 D ed lx => (rToldp P top (gRun P top [(fr, frO (S.vs []) aux ep)] B t₀ (lawF top fr) (partT top fr 6 3) q_lb1) (.ok (.ret (.ref lx))) [(fr, frO (S.vs []) aux2 ep2), (S.dr, lsO (ivs D) ed)] B2 t2 q_lb2 [1, 2, 4] [0] (.call (lawLoop top 1 fr (B2 + 2))) 3 6
    [(S.dr, some (lsO (ivs D) ed)), (B2, some (lsO [] 0)), (B2 + 2, some (riO 0 (.ofNat (ivs D).length) 1))] [(fr, some (true, vsL (S.vs [.ref lx, .ref B2])))] (lenC (ivs D).length) : Tale × Tale)
@[reducible] noncomputable def LbRuns_b2 (P : Params) (top : Nat → Option Obj) : Prop := ∀ B t₀ fr (S : F7) aux ep B2 t2 aux2 ep2 D ed lx, IsT (LbRuns_b2_p P top B t₀ fr S aux ep B2 t2 aux2 ep2 D ed lx)
@[reducible] noncomputable def LbRuns_b3_p (P : Params) (top : Nat → Option Obj) := fun B t₀ fr (S : F7) aux ep B2 t2 aux2 ep2 D ed lx B3 t3 => (rToldp P top (rRun P top (gRun P top [(fr, frO (S.vs []) aux ep)] B t₀ (lawF top fr) (partT top fr 6 3) q_lb1) (.ok (.ret (.ref lx))) [(fr, frO (S.vs []) aux2 ep2), (S.dr, lsO (ivs D) ed)] B2 t2 q_lb2) (.ok .next) [] B3 t3 0 [] [] (.fin (.ok .next)) 0 0 [] [] [] : Tale × Tale)
@[reducible] noncomputable def LbRuns_b3 (P : Params) (top : Nat → Option Obj) : Prop := ∀ B t₀ fr (S : F7) aux ep B2 t2 aux2 ep2 D ed lx B3 t3, IsT (LbRuns_b3_p P top B t₀ fr S aux ep B2 t2 aux2 ep2 D ed lx B3 t3)
@[reducible] noncomputable def LbRuns_c1_p (P : Params) (top : Nat → Option Obj) := fun B t₀ fr it (S : F7) (Z : GS) jl ex aux ep aux2 ep2 ln tl x (m : Nat) => (toldLp P top [] [(fr, frO (S.vs ([.ref Z.lx, .ref jl] ++ exW ex)) aux ep), (Z.lx, lxO Z.ld), (Z.ld, dicF "dict" (Z.vd ln tl) aux2 ep2), (it, riO x (.ofNat (m + 1)) 1)] B t₀ 200 (lawLoop top 1 fr it) q_lrd1 [1, 3, 2] [0] (.call (gtCall Z.lx)) 0 0 2 true
    [(Z.lx, some (lxO Z.ld)), (it, some (riO (x + 1) (.ofNat (m + 1) - 1) 1)), (Z.ld, some (dicF "dict" (Z.vd ln tl) aux2 ep2))] [(fr, some (true, vsL ([.ref S.sl, .ref S.dr, .str ⟨⟨S.l⟩⟩ S.tt, .int x t₀, S.v2, S.v3, S.v4, .ref Z.lx, .ref jl] ++ exW ex)))] [] : Tale × Tale)
@[reducible] noncomputable def LbRuns_c1 (P : Params) (top : Nat → Option Obj) : Prop := ∀ B t₀ fr it (S : F7) (Z : GS) jl ex aux ep aux2 ep2 ln tl x (m : Nat), IsT (LbRuns_c1_p P top B t₀ fr it S Z jl ex aux ep aux2 ep2 ln tl x m)
@[reducible] noncomputable def LbRuns_c2_p (P : Params) (top : Nat → Option Obj) := fun B t₀ fr it (S : F7) (Z : GS) jl ex aux ep aux2 ep2 ln tl x (m : Nat) B2 t2 aux3 ep3 aux4 ep4 ln2 tl2 v1 js ej nm tn => (toldGp P top [] [(fr, frO ([.ref S.sl, .ref S.dr, .str ⟨⟨S.l⟩⟩ S.tt, v1, S.v2, S.v3, S.v4, .ref Z.lx, .ref jl] ++ exW ex) aux3 ep3), (Z.lx, lxO Z.ld), (Z.ld, dicF "dict" (Z.vd ln2 tl2) aux4 ep4), (jl, lsO (rfs js) ej)] B2 t2 200
      ((runQ (vOf P top [] [(fr, frO (S.vs ([.ref Z.lx, .ref jl] ++ exW ex)) aux ep), (Z.lx, lxO Z.ld), (Z.ld, dicF "dict" (Z.vd ln tl) aux2 ep2), (it, riO x (.ofNat (m + 1)) 1)] B t₀) 200 (startC (lawLoop top 1 fr it) (btOf ([(fr, frO (S.vs ([.ref Z.lx, .ref jl] ++ exW ex)) aux ep), (Z.lx, lxO Z.ld), (Z.ld, dicF "dict" (Z.vd ln tl) aux2 ep2), (it, riO x (.ofNat (m + 1)) 1)].map (·.2))) q_lrd1)).resume (.ok (.ret (.str nm tn))) (btOf ([(fr, frO ([.ref S.sl, .ref S.dr, .str ⟨⟨S.l⟩⟩ S.tt, v1, S.v2, S.v3, S.v4, .ref Z.lx, .ref jl] ++ exW ex) aux3 ep3), (Z.lx, lxO Z.ld), (Z.ld, dicF "dict" (Z.vd ln2 tl2) aux4 ep4), (jl, lsO (rfs js) ej)].map (·.2))) q_lrd2) [3, 4, 1, 2] [0] (.again (lawLoop top 1 fr it)) 0 1 2 true
      [(jl, some (lsO (rfs js ++ [.ref B2]) (ej + 1))), (B2, some (tuO ((ln2, tl2), (nm, tn)))), (Z.lx, some (lxO Z.ld)), (Z.ld, some (dicF "dict" (Z.vd ln2 tl2) aux4 ep4))] [(fr, some (true, vsL [.ref S.sl, .ref S.dr, .str ⟨⟨S.l⟩⟩ S.tt, v1, S.v2, S.v3, S.v4, .ref Z.lx, .ref jl, .str nm tn]))] [(rfs js).length ≤ 100000] : Tale × Tale)
@[reducible] noncomputable def LbRuns_c2 (P : Params) (top : Nat → Option Obj) : Prop := ∀ B t₀ fr it (S : F7) (Z : GS) jl ex aux ep aux2 ep2 ln tl x (m : Nat) B2 t2 aux3 ep3 aux4 ep4 ln2 tl2 v1 js ej nm tn, IsT (LbRuns_c2_p P top B t₀ fr it S Z jl ex aux ep aux2 ep2 ln tl x m B2 t2 aux3 ep3 aux4 ep4 ln2 tl2 v1 js ej nm tn)
structure LbRuns (P : Params) (top : Nat → Option Obj) : Prop where
  b1 : LbRuns_b1 P top
  b2 : LbRuns_b2 P top
  b3 : LbRuns_b3 P top
  c1 : LbRuns_c1 P top
  c2 : LbRuns_c2 P top
noncomputable def v10 (S : F7) (lx jl : Nat) (wd : Value) (ex : List Value) : List Value := S.vs ([.ref lx, .ref jl, wd] ++ ex)
noncomputable def ledN (fr : Nat) (vals : List Value) (aux : Nat → Int × Nat) (ep k1 nl k2 hl dr : Nat) (D : List (Int × Nat)) (ed : Nat) (N : List (Str × Nat)) (en : Nat) (H : List (Int × Nat)) (eh : Nat) : Led :=
  [(fr, frO vals aux ep), (fr + k1, ceO (some (.ref nl))), (fr + k2, ceO (some (.ref hl))), (dr, lsO (ivs D) ed), (nl, lsO (nvs N) en), (hl, lsO (ivs H) eh)]
noncomputable def ledF' (fr k1 nl k2 hl dr : Nat) (D : List (Int × Nat)) (ed : Nat) (N : List (Str × Nat)) (en : Nat) (H : List (Int × Nat)) (eh : Nat) : List (Nat × Option Obj) :=
  [(fr + k1, some (ceO (some (.ref nl)))), (fr + k2, some (ceO (some (.ref hl)))), (dr, some (lsO (ivs D) ed)), (nl, some (lsO (nvs N) en)), (hl, some (lsO (ivs H) eh))]
theorem list4 {α : Type} {l : List α} (h : l.length = 4) : ∃ x0 x1 x2 x3, l = [x0, x1, x2, x3] := by
  match l, h with
  | [x0, x1, x2, x3], _ => exact ⟨x0, x1, x2, x3, rfl⟩
theorem list5 {α : Type} {l : List α} (h : l.length = 5) : ∃ x0 x1 x2 x3 x4, l = [x0, x1, x2, x3, x4] := by
  match l, h with
  | [x0, x1, x2, x3, x4], _ => exact ⟨x0, x1, x2, x3, x4, rfl⟩
theorem list6 {α : Type} {l : List α} (h : l.length = 6) : ∃ x0 x1 x2 x3 x4 x5, l = [x0, x1, x2, x3, x4, x5] := by
  match l, h with
  | [x0, x1, x2, x3, x4, x5], _ => exact ⟨x0, x1, x2, x3, x4, x5, rfl⟩
theorem list7 {α : Type} {l : List α} (h : l.length = 7) : ∃ x0 x1 x2 x3 x4 x5 x6, l = [x0, x1, x2, x3, x4, x5, x6] := by
  match l, h with
  | [x0, x1, x2, x3, x4, x5, x6], _ => exact ⟨x0, x1, x2, x3, x4, x5, x6, rfl⟩
@[reducible] noncomputable def LcRuns_i9 (P : Params) (top : Nat → Option Obj) : Prop := partB top 9 1 = [.If (.BoolOp .Or [.Compare (w9 top).1 [.NotEq] [(w9 top).2.1] (c9 top).1, (w9 top).2.2] (c9 top).2.1) (c9 top).2.2.1 [] (c9 top).2.2.2] ∧ behindInMarks .NotEq (w9 top).2.1 = false
@[reducible] noncomputable def LcRuns_e1_p (P : Params) (top : Nat → Option Obj) := fun B t₀ fr (S : F7) lx jl wd aux ep => (gToldp P top [(fr, frO (v10 S lx jl wd []) aux ep)] B t₀ (lawF top fr) (valT (zwEval (w9 top).1 (lawE top fr))) q_le1 [] [0] (.fin (.ok (.ret (.ref jl)))) 0 0 [] [(fr, some (true, vsL (v10 S lx jl wd [])))] [] : Tale × Tale)
@[reducible] noncomputable def LcRuns_e1 (P : Params) (top : Nat → Option Obj) : Prop := ∀ B t₀ fr (S : F7) lx jl wd aux ep, IsT (LcRuns_e1_p P top B t₀ fr S lx jl wd aux ep)
@[reducible] noncomputable def LcRuns_e2_p (P : Params) (top : Nat → Option Obj) := fun (n : Nat) (D : List (Int × Nat)) (N : List (Str × Nat)) (H : List (Int × Nat)) B t₀ fr (S : F7) lx jl wd aux ep nl hl ed en eh => (gToldp P top (ledN fr (v10 S lx jl wd []) aux ep 2 nl 3 hl S.dr D ed N en H eh) B t₀ (lawF top fr) (valT (zwEval (w9 top).2.1 (lawE top fr))) (b3q P (q_le2T.getD (n - 4) 0) (q_le2F.getD (n - 4) 0)) (8 :: (idxF 10 (zipJ H N) ++ [1, 2, 3, 4, 5])) [0] (.fin (.ok (.ret (.ref (B + 2))))) (6 + n) (4 + 2 * n)
    ((B + 2, some (lsO (rfs (refF (B + 4) (zipJ H N))) n)) :: (tupF (B + 4) (zipJ H N) ++ ledF' fr 2 nl 3 hl S.dr D ed N en H eh)) [(fr, some (true, vsL (v10 S lx jl wd [])))] [] : Tale × Tale)
@[reducible] noncomputable def LcRuns_e2 (P : Params) (top : Nat → Option Obj) : Prop := ∀ (n : Nat) (D : List (Int × Nat)) (N : List (Str × Nat)) (H : List (Int × Nat)), 4 ≤ n → n ≤ 7 → D.length = n → N.length = n → H.length = n → ∀ B t₀ fr (S : F7) lx jl wd aux ep nl hl ed en eh, IsT (LcRuns_e2_p P top n D N H B t₀ fr S lx jl wd aux ep nl hl ed en eh)
@[reducible] noncomputable def LcRuns_e3_p (P : Params) (top : Nat → Option Obj) := fun B t₀ fr (S : F7) (Z : GS) jl wd aux ep aux2 ep2 ln tl => (gToldp P top [(fr, frO (v10 S Z.lx jl wd []) aux ep), (Z.lx, lxO Z.ld), (Z.ld, dicF "dict" (Z.vd ln tl) aux2 ep2)] B t₀ (lawF top fr) (boolT (zwIsTrue (w9 top).2.2 (lawE top fr) (zwEval (w9 top).2.2 (lawE top fr)))) q_le3 [1, 2] [0] (.call (gtCall Z.lx)) 0 0 [(Z.lx, some (lxO Z.ld)), (Z.ld, some (dicF "dict" (Z.vd ln tl) aux2 ep2))] [(fr, some (true, vsL (v10 S Z.lx jl wd [])))] [] : Tale × Tale)
@[reducible] noncomputable def LcRuns_e3 (P : Params) (top : Nat → Option Obj) : Prop := ∀ B t₀ fr (S : F7) (Z : GS) jl wd aux ep aux2 ep2 ln tl, IsT (LcRuns_e3_p P top B t₀ fr S Z jl wd aux ep aux2 ep2 ln tl)
@[reducible] noncomputable def LcRuns_e4_p (P : Params) (top : Nat → Option Obj) := fun B t₀ fr (S : F7) (Z : GS) jl wd aux ep aux2 ep2 ln tl B2 t2 tt => (rToldp P top (gRun P top [(fr, frO (v10 S Z.lx jl wd []) aux ep), (Z.lx, lxO Z.ld), (Z.ld, dicF "dict" (Z.vd ln tl) aux2 ep2)] B t₀ (lawF top fr) (boolT (zwIsTrue (w9 top).2.2 (lawE top fr) (zwEval (w9 top).2.2 (lawE top fr)))) q_le3) (.ok (.ret (.str ⟨⟨[]⟩⟩ tt))) [] B2 t2 0 [] [] (.fin (.ok (.ret (.bool false)))) 0 1 [] [] [] : Tale × Tale)
@[reducible] noncomputable def LcRuns_e4 (P : Params) (top : Nat → Option Obj) : Prop := ∀ B t₀ fr (S : F7) (Z : GS) jl wd aux ep aux2 ep2 ln tl B2 t2 tt, IsT (LcRuns_e4_p P top B t₀ fr S Z jl wd aux ep aux2 ep2 ln tl B2 t2 tt)
@[reducible] noncomputable def LcRuns_f1_p (P : Params) (top : Nat → Option Obj) := fun B t₀ fr (S : F7) lx jl wd aux ep tot tk hl => (gToldp P top [(fr, frO (v10 S lx jl wd []) aux ep), (fr + 1, ceO (some (.int tot tk))), (fr + 3, ceO (some (.ref hl)))] B t₀ (lawF top fr) (partT top fr 10 2) (b3q P q_lf1T q_lf1F) [5, 9, 12, 15, 1, 2] [0] (.call (dueCall hl (B + 2))) 15 82
    [(B + 2, some (lsO [.ref (B + 6), .ref (B + 9), .ref (B + 12)] 3)), (B + 6, some (dtO (cK tot 0) (t₀ + 15) (sK tot 0) (t₀ + 28))), (B + 9, some (dtO (cK tot 1) (t₀ + 41) (sK tot 1) (t₀ + 54))), (B + 12, some (dtO (cK tot 2) (t₀ + 67) (sK tot 2) (t₀ + 80))), (fr + 1, some (ceO (some (.int tot tk)))), (fr + 3, some (ceO (some (.ref hl))))] [(fr, some (true, vsL (v10 S lx jl wd [.ref (B + 2)])))] [] : Tale × Tale)
@[reducible] noncomputable def LcRuns_f1 (P : Params) (top : Nat → Option Obj) : Prop := ∀ B t₀ fr (S : F7) lx jl wd aux ep tot tk hl, IsT (LcRuns_f1_p P top B t₀ fr S lx jl wd aux ep tot tk hl)
@[reducible] noncomputable def LcRuns_f2_p (P : Params) (top : Nat → Option Obj) := fun B t₀ fr (S : F7) lx jl wd aux ep tot tk hl B2 t2 td => (rToldp P top (gRun P top [(fr, frO (v10 S lx jl wd []) aux ep), (fr + 1, ceO (some (.int tot tk))), (fr + 3, ceO (some (.ref hl)))] B t₀ (lawF top fr) (partT top fr 10 2) (b3q P q_lf1T q_lf1F)) (.ok (.ret (.ref td))) [(fr + 4, ceO none)] B2 t2 q_lf2 [0] [] (.fin (.ok .next)) 0 0 [(fr + 4, some (ceO (some (.ref td))))] [] [] : Tale × Tale)
@[reducible] noncomputable def LcRuns_f2 (P : Params) (top : Nat → Option Obj) : Prop := ∀ B t₀ fr (S : F7) lx jl wd aux ep tot tk hl B2 t2 td, IsT (LcRuns_f2_p P top B t₀ fr S lx jl wd aux ep tot tk hl B2 t2 td)
@[reducible] noncomputable def LcRuns_g1_p (P : Params) (top : Nat → Option Obj) := fun (n : Nat) (D : List (Int × Nat)) (N : List (Str × Nat)) (H : List (Int × Nat)) B t₀ fr (S : F7) lx jl wd ds aux ep nl hl ed en eh => (gToldp P top (ledN fr (v10 S lx jl wd [ds]) aux ep 2 nl 4 hl S.dr D ed N en H eh) B t₀ (lawF top fr) (partT top fr 12 1) (b3q P (q_lgT.getD (n - 4) 0) (q_lgF.getD (n - 4) 0)) (8 :: (idxF 10 (zipJ H N) ++ [1, 2, 3, 4, 5])) [0] (.fin (.ok .next)) (6 + n) (5 + 2 * n)
    ((B + 2, some (lsO (rfs (refF (B + 4) (zipJ H N))) n)) :: (tupF (B + 4) (zipJ H N) ++ ledF' fr 2 nl 4 hl S.dr D ed N en H eh)) [(fr, some (true, vsL (v10 S lx jl wd [ds, .ref (B + 2)])))] [] : Tale × Tale)
@[reducible] noncomputable def LcRuns_g1 (P : Params) (top : Nat → Option Obj) : Prop := ∀ (n : Nat) (D : List (Int × Nat)) (N : List (Str × Nat)) (H : List (Int × Nat)), 4 ≤ n → n ≤ 7 → D.length = n → N.length = n → H.length = n → ∀ B t₀ fr (S : F7) lx jl wd ds aux ep nl hl ed en eh, IsT (LcRuns_g1_p P top n D N H B t₀ fr S lx jl wd ds aux ep nl hl ed en eh)
structure LcRuns (P : Params) (top : Nat → Option Obj) : Prop where
  i9 : LcRuns_i9 P top
  e1 : LcRuns_e1 P top
  e2 : LcRuns_e2 P top
  e3 : LcRuns_e3 P top
  e4 : LcRuns_e4 P top
  f1 : LcRuns_f1 P top
  f2 : LcRuns_f2 P top
  g1 : LcRuns_g1 P top
structure F12 where
  S : F7
  lx : Nat
  jl : Nat
  wd : Value
  dl : Nat
  du : Nat
noncomputable def F12.vs (S : F12) (ex : List Value) : List Value := v10 S.S S.lx S.jl S.wd ([.ref S.dl, .ref S.du] ++ ex)
noncomputable def jRun (P : Params) (top : Nat → Option Obj) (B t₀ fr it : Nat) (S : F12) (f : Nat) (ex : Option (Value × Value × Value × Value)) (aux : Nat → Int × Nat) (ep : Nat) : RO :=
  runQ (vOf P top [] [(fr, frO (S.vs (exQ ex)) aux ep), (it, riO (.ofNat f) (.ofNat (3 - f)) 1)] B t₀) 200 (startC (lawLoop top 2 fr it) (btOf ([(fr, frO (S.vs (exQ ex)) aux ep), (it, riO (.ofNat f) (.ofNat (3 - f)) 1)].map (·.2))) q_li1)
noncomputable def fsV (f tf on : Nat) (ex : List Value) : List Value := [.int (.ofNat f) tf, .ref on] ++ ex
@[reducible] noncomputable def LdRuns_h1_p (P : Params) (top : Nat → Option Obj) := fun B t₀ fr (S : F12) aux ep => (gToldp P top [(fr, frO (S.vs []) aux ep)] B t₀ (lawF top fr) (partT top fr 13 1) q_lh1 [2] [0] (.call (lawLoop top 2 fr (B + 1))) 2 3 [(B + 1, some (riO 0 3 1))] [(fr, some (true, vsL (S.vs [])))] [] : Tale × Tale)
@[reducible] noncomputable def LdRuns_h1 (P : Params) (top : Nat → Option Obj) : Prop := ∀ B t₀ fr (S : F12) aux ep, IsT (LdRuns_h1_p P top B t₀ fr S aux ep)
@[reducible] noncomputable def LdRuns_h2_p (P : Params) (top : Nat → Option Obj) := fun B t₀ fr (S : F12) aux ep B2 t2 => (rToldp P top (gRun P top [(fr, frO (S.vs []) aux ep)] B t₀ (lawF top fr) (partT top fr 13 1) q_lh1) (.ok .next) [] B2 t2 0 [] [] (.fin (.ok .next)) 0 0 [] [] [] : Tale × Tale)
@[reducible] noncomputable def LdRuns_h2 (P : Params) (top : Nat → Option Obj) : Prop := ∀ B t₀ fr (S : F12) aux ep B2 t2, IsT (LdRuns_h2_p P top B t₀ fr S aux ep B2 t2)
@[reducible] noncomputable def LdRuns_z1_p (P : Params) (top : Nat → Option Obj) := fun B t₀ fr => (gToldp P top [] B t₀ (lawF top fr) (partT top fr 14 1) 0 [] [] (.fin (.ok (.ret (.bool true)))) 0 0 [] [] [] : Tale × Tale)
@[reducible] noncomputable def LdRuns_z1 (P : Params) (top : Nat → Option Obj) : Prop := ∀ B t₀ fr, IsT (LdRuns_z1_p P top B t₀ fr)
@[reducible] noncomputable def LdRuns_i1_p (P : Params) (top : Nat → Option Obj) := fun f B t₀ fr it (S : F12) ex aux ep => (toldLp P top [] [(fr, frO (S.vs (exQ ex)) aux ep), (it, riO (.ofNat f) (.ofNat (3 - f)) 1)] B t₀ 200 (lawLoop top 2 fr it) q_li1 [1] [0] (.call (servedCall (.ofNat f) t₀ S.jl S.dl)) 0 0 2 true [(it, some (riO (.ofNat f + 1) (.ofNat (3 - f) - 1) 1))] [(fr, some (true, vsL (S.vs (exQ1 (.int (.ofNat f) t₀) ex))))] [] : Tale × Tale)
@[reducible] noncomputable def LdRuns_i1 (P : Params) (top : Nat → Option Obj) : Prop := ∀ f, f < 3 → ∀ B t₀ fr it (S : F12) ex aux ep, IsT (LdRuns_i1_p P top f B t₀ fr it S ex aux ep)
@[reducible] noncomputable def LdRuns_i2_p (P : Params) (top : Nat → Option Obj) := fun f B t₀ fr it (S : F12) ex aux ep B2 t2 aux2 ep2 fv on => (rToldp P top (jRun P top B t₀ fr it S f ex aux ep) (.ok (.ret (.ref on))) [(fr, frO (S.vs (exQ1 fv ex)) aux2 ep2)] B2 t2 q_li2 [2] [0] (.call (lawLoop top 3 fr (B2 + 1))) 2 4 [(B2 + 1, some (riO 0 3 1))] [(fr, some (true, vsL (S.vs (exQ2 fv (.ref on) ex))))] [] : Tale × Tale)
@[reducible] noncomputable def LdRuns_i2 (P : Params) (top : Nat → Option Obj) : Prop := ∀ f, f < 3 → ∀ B t₀ fr it (S : F12) ex aux ep B2 t2 aux2 ep2 fv on, IsT (LdRuns_i2_p P top f B t₀ fr it S ex aux ep B2 t2 aux2 ep2 fv on)
@[reducible] noncomputable def LdRuns_i3_p (P : Params) (top : Nat → Option Obj) := fun f B t₀ fr it (S : F12) ex aux ep B2 t2 aux2 ep2 fv on B3 t3 => (rToldp P top (rRun P top (jRun P top B t₀ fr it S f ex aux ep) (.ok (.ret (.ref on))) [(fr, frO (S.vs (exQ1 fv ex)) aux2 ep2)] B2 t2 q_li2) (.ok .next) [] B3 t3 1 [] [] (.again (lawLoop top 2 fr it)) 0 0 [] [] [] : Tale × Tale)
@[reducible] noncomputable def LdRuns_i3 (P : Params) (top : Nat → Option Obj) : Prop := ∀ f, f < 3 → ∀ B t₀ fr it (S : F12) ex aux ep B2 t2 aux2 ep2 fv on B3 t3, IsT (LdRuns_i3_p P top f B t₀ fr it S ex aux ep B2 t2 aux2 ep2 fv on B3 t3)
@[reducible] noncomputable def LdRuns_i3q (P : Params) (top : Nat → Option Obj) : Prop := ∀ (fr it : Nat), lawLoop top 3 fr it = .forLoop (w3 top).1 (.ref it) [.If (w3 top).2.1 [(w3 top).2.2.1, .If (.Compare (w3 top).2.2.2.1 [.NotEq] [(w3 top).2.2.2.2] (c3 top).1) (c3 top).2.1 [] (c3 top).2.2.1] [] (c3 top).2.2.2] [] (lawE top fr) ∧ behindInMarks .NotEq (w3 top).2.2.2.2 = false
@[reducible] noncomputable def LdRuns_k0_p (P : Params) (top : Nat → Option Obj) := fun s B t₀ fr it (S : F12) f tf on ex aux ep => (gToldp P top [(fr, frO (S.vs (fsV f tf on (exR0 ex))) aux ep), (it, riO (.ofNat s) (.ofNat (3 - s)) 1)] B t₀ (lawLoop top 3 fr it) (flowT (headZ (w3 top).1 (.ref it) (lawE top fr))) q_lk0 [1] [0] (.fin (.ok .next)) 0 2 [(it, some (riO (.ofNat s + 1) (.ofNat (3 - s) - 1) 1))] [(fr, some (true, vsL (S.vs (fsV f tf on (exR1 (.int (.ofNat s) t₀) ex)))))] [] : Tale × Tale)
@[reducible] noncomputable def LdRuns_k0 (P : Params) (top : Nat → Option Obj) : Prop := ∀ s, s < 3 → ∀ B t₀ fr it (S : F12) f tf on ex aux ep, IsT (LdRuns_k0_p P top s B t₀ fr it S f tf on ex aux ep)
@[reducible] noncomputable def LdRuns_k1_p (P : Params) (top : Nat → Option Obj) := fun f s B t₀ fr it (S : F12) tf on ts ex aux ep => (gToldp P top [(fr, frO (S.vs (fsV f tf on (exR0 (some (.int (.ofNat s) ts, ex))))) aux ep)] B t₀ (lawLoop top 3 fr it) (boolT (zwIsTrue (w3 top).2.1 (lawE top fr) (zwEval (w3 top).2.1 (lawE top fr)))) q_lk1 [] [0] (.fin (.ok (.ret (.bool (!(Nat.beq f s)))))) 0 0 [] [(fr, some (true, vsL (S.vs (fsV f tf on (exR0 (some (.int (.ofNat s) ts, ex)))))))] [] : Tale × Tale)
@[reducible] noncomputable def LdRuns_k1 (P : Params) (top : Nat → Option Obj) : Prop := ∀ f s, f < 3 → s < 3 → ∀ B t₀ fr it (S : F12) tf on ts ex aux ep, IsT (LdRuns_k1_p P top f s B t₀ fr it S tf on ts ex aux ep)
@[reducible] noncomputable def LdRuns_k2_p (P : Params) (top : Nat → Option Obj) := fun B t₀ fr it (S : F12) f tf on s ts ex aux ep => (gToldp P top [(fr, frO (S.vs (fsV f tf on (exR0 (some (.int (.ofNat s) ts, ex))))) aux ep)] B t₀ (lawLoop top 3 fr it) (flowT (zwExecs [(w3 top).2.2.1] (lawE top fr))) q_lk2 [] [0] (.call (servedCall (.ofNat s) ts on S.dl)) 0 0 [] [(fr, some (true, vsL (S.vs (fsV f tf on (exR0 (some (.int (.ofNat s) ts, ex)))))))] [] : Tale × Tale)
@[reducible] noncomputable def LdRuns_k2 (P : Params) (top : Nat → Option Obj) : Prop := ∀ B t₀ fr it (S : F12) f tf on s ts ex aux ep, IsT (LdRuns_k2_p P top B t₀ fr it S f tf on s ts ex aux ep)
@[reducible] noncomputable def LdRuns_k3_p (P : Params) (top : Nat → Option Obj) := fun B t₀ fr it (S : F12) f tf on s ts ex aux ep B2 t2 aux2 ep2 tw => (rToldp P top (gRun P top [(fr, frO (S.vs (fsV f tf on (exR0 (some (.int (.ofNat s) ts, ex))))) aux ep)] B t₀ (lawLoop top 3 fr it) (flowT (zwExecs [(w3 top).2.2.1] (lawE top fr))) q_lk2) (.ok (.ret (.ref tw))) [(fr, frO (S.vs (fsV f tf on (exR0 (some (.int (.ofNat s) ts, ex))))) aux2 ep2)] B2 t2 q_lk3 [] [0] (.fin (.ok .next)) 0 1 [] [(fr, some (true, vsL (S.vs (fsV f tf on [.int (.ofNat s) ts, .ref tw]))))] [] : Tale × Tale)
@[reducible] noncomputable def LdRuns_k3 (P : Params) (top : Nat → Option Obj) : Prop := ∀ B t₀ fr it (S : F12) f tf on s ts ex aux ep B2 t2 aux2 ep2 tw, IsT (LdRuns_k3_p P top B t₀ fr it S f tf on s ts ex aux ep B2 t2 aux2 ep2 tw)
@[reducible] noncomputable def LdRuns_k4_p (P : Params) (top : Nat → Option Obj) := fun B t₀ fr it (S : F12) f tf on s ts tw aux ep => (gToldp P top [(fr, frO (S.vs (fsV f tf on [.int (.ofNat s) ts, .ref tw])) aux ep)] B t₀ (lawLoop top 3 fr it) (valT (zwEval (w3 top).2.2.2.1 (lawE top fr))) q_lk4 [] [0] (.call (servedCall (3 - .ofNat f - .ofNat s) (t₀ + 2) tw S.dl)) 0 3 [] [(fr, some (true, vsL (S.vs (fsV f tf on [.int (.ofNat s) ts, .ref tw]))))] [] : Tale × Tale)
@[reducible] noncomputable def LdRuns_k4 (P : Params) (top : Nat → Option Obj) : Prop := ∀ B t₀ fr it (S : F12) f tf on s ts tw aux ep, IsT (LdRuns_k4_p P top B t₀ fr it S f tf on s ts tw aux ep)
@[reducible] noncomputable def LdRuns_k5_p (P : Params) (top : Nat → Option Obj) := fun B t₀ fr it (S : F12) f tf on s ts tw aux ep B2 t2 o3 => (rToldp P top (gRun P top [(fr, frO (S.vs (fsV f tf on [.int (.ofNat s) ts, .ref tw])) aux ep)] B t₀ (lawLoop top 3 fr it) (valT (zwEval (w3 top).2.2.2.1 (lawE top fr))) q_lk4) (.ok (.ret (.ref o3))) [] B2 t2 0 [] [] (.fin (.ok (.ret (.ref o3)))) 0 0 [] [] [] : Tale × Tale)
@[reducible] noncomputable def LdRuns_k5 (P : Params) (top : Nat → Option Obj) : Prop := ∀ B t₀ fr it (S : F12) f tf on s ts tw aux ep B2 t2 o3, IsT (LdRuns_k5_p P top B t₀ fr it S f tf on s ts tw aux ep B2 t2 o3)
@[reducible] noncomputable def LdRuns_k6_p (P : Params) (top : Nat → Option Obj) := fun B t₀ fr it (S : F12) f tf on s ts tw aux ep => (gToldp P top [(fr, frO (S.vs (fsV f tf on [.int (.ofNat s) ts, .ref tw])) aux ep)] B t₀ (lawLoop top 3 fr it) (valT (zwEval (w3 top).2.2.2.2 (lawE top fr))) q_lk6 [] [0] (.fin (.ok (.ret (.ref S.du)))) 0 0 [] [(fr, some (true, vsL (S.vs (fsV f tf on [.int (.ofNat s) ts, .ref tw]))))] [] : Tale × Tale)
@[reducible] noncomputable def LdRuns_k6 (P : Params) (top : Nat → Option Obj) : Prop := ∀ B t₀ fr it (S : F12) f tf on s ts tw aux ep, IsT (LdRuns_k6_p P top B t₀ fr it S f tf on s ts tw aux ep)
structure LdRuns (P : Params) (top : Nat → Option Obj) : Prop where
  h1 : LdRuns_h1 P top
  h2 : LdRuns_h2 P top
  z1 : LdRuns_z1 P top
  i1 : LdRuns_i1 P top
  i2 : LdRuns_i2 P top
  i3 : LdRuns_i3 P top
  i3' : LdRuns_i3q P top
  k0 : LdRuns_k0 P top
  k1 : LdRuns_k1 P top
  k2 : LdRuns_k2 P top
  k3 : LdRuns_k3 P top
  k4 : LdRuns_k4 P top
  k5 : LdRuns_k5 P top
  k6 : LdRuns_k6 P top
end
end Mine

end
section
open PySem PySem.W PySem.W.X PyProof.Rows
set_option maxRecDepth 100000
set_option Elab.async false
set_option maxHeartbeats 2000000
set_option genInjectivity false
set_option genSizeOfSpec false
namespace Mine
noncomputable section
/-! the end of the text: the iterator's end -/
noncomputable abbrev zwCOS := @ZFast.zw2547987554251169477
noncomputable abbrev zwCE := ZFast.zw7774638238746244234
noncomputable def zwSI : Sem PySem.Fin := ZFast.zw17615448654315672387
noncomputable def q_z1 : Nat := 1860707245495140388889933392066342575067643503211143006875467029700224798971112569650629645572239456274116166675472093312925779913275867145
noncomputable def q_z2 : Nat := 72058693566333441
noncomputable def nxCall (it : Nat) : Code := .call (.builtin "callable_iterator.__next__") ⟨[.ref it], []⟩
noncomputable def nxB (it : Nat) : Code := .builtin "callable_iterator.__next__" ⟨[.ref it], []⟩
noncomputable def GS.L1 (S : GS) (A : GA) (top : Nat → Option Obj) (me : Nat) (ln : Int) (tl e : Nat) : Led := [(S.lx, lxO S.ld), (S.ld, dicF "dict" (S.vd ln tl) A.aux2 A.ep2), (S.st, smO top S.rdd S.c1), (S.rdd, dicF "dict" (rdD S.rd) A.aux3 A.ep3), (S.rd, rdO top S.ce S.c2 S.ct), (S.c2, coO S.v0 S.tq S.vs), (S.ce, ceO (some (.ref S.sg))), (S.sg, lsO [] e), (me, meO S.lx)]
@[reducible] noncomputable def CzRuns_z0_p (P : Params) (top : Nat → Option Obj) := fun B t₀ fr it me t0 => (toldLp P top [] [(it, ciO me t0)] B t₀ 50 (gtLoop top fr it) 257 [0] [] (.call (nxCall it)) 0 0 0 true [(it, some (ciO me t0))] [] [] : Tale × Tale)
@[reducible] noncomputable def CzRuns_z0 (P : Params) (top : Nat → Option Obj) : Prop := ∀ B t₀ fr it me t0, IsT (CzRuns_z0_p P top B t₀ fr it me t0)
@[reducible] noncomputable def CzRuns_z3_p (P : Params) (top : Nat → Option Obj) := fun B t₀ fr it me t0 B2 t2 xa a => (toldGp P top [] [(xa, stO a)] B2 t2 50 ((runQ (vOf P top [] [(it, ciO me t0)] B t₀) 50 (startC (gtLoop top fr it) (btOf ([(it, ciO me t0)].map (·.2))) 257)).resume (.error (.ref xa)) (btOf ([(xa, stO a)].map (·.2))) 1) [] [] (.fin (.ok .next)) 0 0 0 true [] [] [] : Tale × Tale)
@[reducible] noncomputable def CzRuns_z3 (P : Params) (top : Nat → Option Obj) : Prop := ∀ B t₀ fr it me t0 B2 t2 xa a, IsT (CzRuns_z3_p P top B t₀ fr it me t0 B2 t2 xa a)
@[reducible] noncomputable def CzRuns_z00_p (P : Params) (top : Nat → Option Obj) := fun B t₀ it me t0 => (toldLp P top [] [(it, ciO me t0)] B t₀ 50 (nxCall it) 257 [0] [] (.again (nxB it)) 0 0 0 true [(it, some (ciO me t0))] [] [] : Tale × Tale)
@[reducible] noncomputable def CzRuns_z00 (P : Params) (top : Nat → Option Obj) : Prop := ∀ B t₀ it me t0, IsT (CzRuns_z00_p P top B t₀ it me t0)
@[reducible] noncomputable def CzRuns_z1_p (P : Params) (top : Nat → Option Obj) := fun B t₀ (S : GS) (A : GA) it me ln tl e => (gToldp P top (S.L1 A top me ln tl e) B t₀ (nxB it) (valT (zwCOS (.ref me) [])) q_z1 [0, 2, 3, 4, 5, 6, 7, 8, 1] [] (.fin (.ok (.ret (.str ⟨⟨[]⟩⟩ (t₀ + 8))))) 2 11 (S.Fx A top ++ [(S.sg, some (lsO [] e)), (me, some (meO S.lx)), (S.ld, some (dicF "dict" (S.vd ln tl) A.aux2 A.ep2))]) [] [¬ (Int.ofNat ([] : List Value).length > 0), ([] : List Value).length ≤ 100000] : Tale × Tale)
@[reducible] noncomputable def CzRuns_z1 (P : Params) (top : Nat → Option Obj) : Prop := ∀ B t₀ (S : GS) (A : GA) it me ln tl e, IsT (CzRuns_z1_p P top B t₀ S A it me ln tl e)
@[reducible] noncomputable def CzRuns_z2_p (P : Params) (top : Nat → Option Obj) := fun B t₀ it me t0 lx => (gToldp P top [(it, ciO me t0), (me, meO lx)] B t₀ (nxB it) (R.bindR (zwCE (.ref it)) fun _ => zwSI) q_z2 [3, 1] [] (.fin (.error (.ref (B + 1)))) 2 0 [(B + 1, some (stO B)), (me, some (meO lx))] [] [] : Tale × Tale)
@[reducible] noncomputable def CzRuns_z2 (P : Params) (top : Nat → Option Obj) : Prop := ∀ B t₀ it me t0 lx, IsT (CzRuns_z2_p P top B t₀ it me t0 lx)
structure CzRuns (P : Params) (top : Nat → Option Obj) : Prop where
  z0 : CzRuns_z0 P top
  z3 : CzRuns_z3 P top
  z00 : CzRuns_z00 P top
  z1 : CzRuns_z1 P top
  z2 : CzRuns_z2 P top
end
end Mine

end
section
open PySem PySem.W PySem.W.X PyProof.Rows
set_option maxRecDepth 100000
set_option Elab.async false
set_option maxHeartbeats 2000000
set_option genInjectivity false
set_option genSizeOfSpec false
namespace Mine
noncomputable section
/-! the lexer's state -/
noncomputable def mv (rs : List (Nat × Nat)) : List Value := (rs.map fun x => chv x.1 x.2).reverse
theorem mv_last (x : Nat × Nat) (rs : List (Nat × Nat)) : (mv (x :: rs)).getLast? = some (chv x.1 x.2) := by simp [mv]
theorem mv_drop (rs : List (Nat × Nat)) : (mv rs).dropLast = mv (rs.drop 1) := by cases rs <;> simp [mv]
theorem dropN_mv (rs : List (Nat × Nat)) : ∀ n, dropN n (mv rs) = mv (rs.drop n)
  | 0 => by simp [dropN]
  | n + 1 => by rw [dropN, dropN_mv rs n, mv_drop, List.drop_drop]
theorem mv_len (rs : List (Nat × Nat)) : (mv rs).length = rs.length := by simp [mv]
theorem nthV_gvL (ts : Nat → Nat) : ∀ (l : List Nat) (i n : Nat), nthV (gvL l ts i) n = (l[n]?).map fun c => chv c (ts (i + n))
  | [], _, _ => by simp [gvL, nthV]
  | c :: l, i, 0 => by simp [gvL, nthV]
  | c :: l, i, n + 1 => by
    show nthV (gvL l ts (i + 1)) n = _
    rw [nthV_gvL ts l (i + 1) n]
    simp [Nat.add_comm, Nat.add_left_comm]
noncomputable def tsOf (rs : List (Nat × Nat)) (i : Nat) : Nat := ((rs[i]?).map (·.2)).getD 0
theorem csG_ok {chars : List Nat} {rs : List (Nat × Nat)} {tail : List Nat} (hr : rs.map (·.1) = chars ++ tail) (hl : rs.length ≤ 1000) : ∀ n, n ≤ chars.length → AllC (csG (gvL chars (tsOf rs) 0) (mv rs) n)
  | 0, _ => trivial
  | n + 1, hn => by
    have hlt : n < rs.length := by
      have := congrArg List.length hr
      simp at this; (first | lia | omega)
    have hc : (rs.map (·.1))[n]? = chars[n]? := by rw [hr, List.getElem?_append_left (by (first | lia | omega))]
    have hx : rs[n]? = some rs[n] := List.getElem?_eq_getElem hlt
    have hc' : chars[n]? = some (rs[n]).1 := by rw [← hc, List.getElem?_map, hx]; rfl
    have hd : rs.drop n = rs[n] :: rs.drop (n + 1) := List.drop_eq_getElem_cons hlt
    have hlen : (dropN n (mv rs)).length = rs.length - n := by rw [dropN_mv, mv_len, List.length_drop]
    refine ⟨⟨?_, by (first | lia | omega)⟩, ?_, by (first | lia | omega), csG_ok hr hl n (by (first | lia | omega))⟩
    · rw [dropN_mv, hd, mv_last, nthV_gvL, hc']
      simp [tsOf, hx]
    · rw [hlen]
      show (0 : Int) < Int.ofNat (rs.length - n)
      have : 0 < rs.length - n := by (first | lia | omega)
      exact Int.ofNat_lt.mpr this
noncomputable def GS.adrs (S : GS) : List Nat := [S.lx, S.ld, S.st, S.rdd, S.rd, S.c2, S.ce, S.sg, S.pb]
structure LexSt (top : Nat → Option Obj) (h : Heap) (S : GS) (ln : Int) (rs : List (Nat × Nat)) : Prop where
  lx : h.get? S.lx = some (lxO S.ld)
  ld : ∃ tl, IsDic h S.ld "dict" (S.vd ln tl)
  st : h.get? S.st = some (smO top S.rdd S.c1)
  rdd : IsDic h S.rdd "dict" (rdD S.rd)
  rd : h.get? S.rd = some (rdO top S.ce S.c2 S.ct)
  c2 : h.get? S.c2 = some (coO S.v0 S.tq S.vs)
  ce : h.get? S.ce = some (ceO (some (.ref S.sg)))
  sg : ∃ e, h.get? S.sg = some (lsO (mv rs) e)
  pb : ∃ e, h.get? S.pb = some (lsO [] e)
  low : ∀ a ∈ S.adrs, 143 ≤ a
  nd : S.adrs.Nodup
theorem IsDic.kp {h h' : Heap} {ls : List Nat} {a : Nat} {cn : String} {vs : Vs} (d : IsDic h a cn vs) (c : Chg h h' ls) (hn : a ∉ ls) : IsDic h' a cn vs := by
  obtain ⟨aux, ep, x⟩ := d
  exact ⟨aux, ep, c.kp x hn⟩
theorem LexSt.chg {top : Nat → Option Obj} {h h' : Heap} {S : GS} {ln : Int} {rs : List (Nat × Nat)} {ls : List Nat} (X : LexSt top h S ln rs) (c : Chg h h' ls) (hn : ∀ a ∈ S.adrs, a ∉ ls) : LexSt top h' S ln rs := by
  simp only [GS.adrs, List.mem_cons, List.not_mem_nil, or_false, forall_eq_or_imp, forall_eq] at hn
  obtain ⟨n1, n2, n3, n4, n5, n6, n7, n8, n9⟩ := hn
  obtain ⟨tl, h2⟩ := X.ld
  obtain ⟨e, h8⟩ := X.sg
  obtain ⟨e', h9⟩ := X.pb
  exact ⟨c.kp X.lx n1, ⟨tl, h2.kp c n2⟩, c.kp X.st n3, X.rdd.kp c n4, c.kp X.rd n5, c.kp X.c2 n6, c.kp X.ce n7, ⟨e, c.kp h8 n8⟩, ⟨e', c.kp h9 n9⟩, X.low, X.nd⟩
theorem LexSt.lt {top : Nat → Option Obj} {h : Heap} {S : GS} {ln : Int} {rs : List (Nat × Nat)} (X : LexSt top h S ln rs) : ∀ a ∈ S.adrs, a < h.objs.size := by
  obtain ⟨tl, aux, ep, h2⟩ := X.ld
  obtain ⟨e, h8⟩ := X.sg
  obtain ⟨e', h9⟩ := X.pb
  obtain ⟨aux', ep', h4⟩ := X.rdd
  simp only [GS.adrs, List.mem_cons, List.not_mem_nil, or_false, forall_eq_or_imp, forall_eq]
  exact ⟨Heap.lt_size X.lx, Heap.lt_size h2, Heap.lt_size X.st, Heap.lt_size h4, Heap.lt_size X.rd, Heap.lt_size X.c2, Heap.lt_size X.ce, Heap.lt_size h8, Heap.lt_size h9⟩
noncomputable def nl1 (c : Nat) : Nat := match c with
  | 10 => 1
  | _ => 0
noncomputable def nlc : List Nat → Nat
  | [] => 0
  | c :: r => nl1 c + nlc r
@[reducible] noncomputable def TkRuns_t4 (P : Params) (top : Nat → Option Obj) : Prop := ∀ k m, k < 4 → m < 3 → tkTurn P top 4 k m false
@[reducible] noncomputable def TkRuns_t5 (P : Params) (top : Nat → Option Obj) : Prop := ∀ k m b, k < 4 → m < 3 → tkTurn P top 5 k m b
@[reducible] noncomputable def TkRuns_t6 (P : Params) (top : Nat → Option Obj) : Prop := ∀ k m b, k < 4 → m < 3 → tkTurn P top 6 k m b
structure TkRuns (P : Params) (top : Nat → Option Obj) : Prop where
  t0 : tkTurn P top 0 0 1 false
  t1 : tkTurn P top 1 1 0 true
  t2 : tkTurn P top 2 2 0 true
  t3 : tkTurn P top 3 3 2 true
  t4 : TkRuns_t4 P top
  t5 : TkRuns_t5 P top
  t6 : TkRuns_t6 P top
theorem lnK_add (ln : Int) : ∀ n, lnK ln n = ln + (n : Int)
  | 0 => by simp [lnK]
  | n + 1 => by rw [lnK, lnK_add ln n]; (first | lia | omega)
section
variable {P : Params} {top : Nat → Option Obj} {w : World} {A : Around} {R : Result → Shared → Prop} {g : Array GenState} {dr : Drawn} {os : OsState}
/-- the frame of get_token and what lies beside it -/
structure GtFr (h : Heap) (S : GS) (fr me it tt t0 : Nat) (ex : Option Value) : Prop where
  hfr : IsDic h fr "frame" (vsG S.lx it (.str ⟨⟨[]⟩⟩ tt) ex)
  hme : h.get? me = some (meO S.lx)
  hit : h.get? it = some (ciO me t0)
theorem pre_G {h : Heap} {S : GS} {ln : Int} {tl : Nat} {rs : List (Nat × Nat)} {fr me it tt t0 e : Nat} {ex : Option Value} {aux aux2 aux3 : Nat → Int × Nat} {ep ep2 ep3 : Nat} (T : TopOk top h) (X : LexSt top h S ln rs) (F : GtFr h S fr me it tt t0 ex)
    (h1 : h.get? fr = some (dicF "frame" (vsG S.lx it (.str ⟨⟨[]⟩⟩ tt) ex) aux ep)) (h2 : h.get? S.ld = some (dicF "dict" (S.vd ln tl) aux2 ep2)) (h3 : h.get? S.rdd = some (dicF "dict" (rdD S.rd) aux3 ep3)) (h4 : h.get? S.sg = some (lsO (mv rs) e)) (old : ∀ a ∈ S.adrs, a < fr) (o : 143 ≤ fr) (o1 : fr < me) (o2 : me < it) :
    Pre top h (S.L ⟨aux, ep, aux2, ep2, aux3, ep3⟩ top fr me it tt t0 ex ln tl (mv rs) e) := by
  have n8' : (S.adrs.take 8).Nodup := X.nd.sublist (List.take_sublist 8 _)
  have n8 : [S.lx, S.ld, S.st, S.rdd, S.rd, S.c2, S.ce, S.sg].Nodup := n8'
  have m8 : ∀ x ∈ [S.lx, S.ld, S.st, S.rdd, S.rd, S.c2, S.ce, S.sg], x ∈ S.adrs := fun x hx => List.mem_of_mem_take (i := 8) hx
  refine pre_mk T ?_ ?_ ?_
  · intro q hq
    simp only [GS.L, List.mem_cons, List.not_mem_nil, or_false] at hq
    rcases hq with rfl | rfl | rfl | rfl | rfl | rfl | rfl | rfl | rfl | rfl | rfl
    · exact h1
    · exact X.lx
    · exact h2
    · exact X.st
    · exact h3
    · exact X.rd
    · exact X.c2
    · exact X.ce
    · exact h4
    · exact F.hme
    · exact F.hit
  · show (fr :: ([S.lx, S.ld, S.st, S.rdd, S.rd, S.c2, S.ce, S.sg] ++ [me, it])).Nodup
    refine List.nodup_cons.mpr ⟨fun hm => ?_, List.nodup_append.mpr ⟨n8, by simp; (first | lia | omega), fun x hx y hy hxy => ?_⟩⟩
    · rcases List.mem_append.mp hm with hm | hm
      · exact absurd (old _ (m8 _ hm)) (by (first | lia | omega))
      · simp at hm; (first | lia | omega)
    · have := old _ (m8 _ hx)
      simp at hy
      (first | lia | omega)
  · intro q hq
    have hq : q ∈ fr :: ([S.lx, S.ld, S.st, S.rdd, S.rd, S.c2, S.ce, S.sg] ++ [me, it]) := hq
    rcases List.mem_cons.mp hq with rfl | hq
    · (first | lia | omega)
    · rcases List.mem_append.mp hq with hq | hq
      · exact .inr (.inr (X.low _ (m8 _ hq)))
      · simp at hq; (first | lia | omega)
theorem gt_ws (hP : P = w.params) (Z : GtRuns P top) (sep : TopSep top) {nr : Nat} (a : Rm A nr) (ha : nr ≤ 390) {S : GS} {fr me it tt t0 : Nat} (old : ∀ a ∈ S.adrs, a < fr) (o : 143 ≤ fr) (o1 : fr < me) (o2 : me < it) (tail : List Nat) :
    ∀ (lead : List Nat) (rs : List (Nat × Nat)) (ex : Option Value) (ln : Int) (h : Heap) (t₀ : Nat), (∀ c ∈ lead, c = 10 ∨ c = 32) → rs.map (·.1) = lead ++ tail → rs.length ≤ 1000 → TopOk top h → LexSt top h S ln rs → GtFr h S fr me it tt t0 ex →
      (∀ h' t' ex', TopOk top h' → LexSt top h' S (ln + (nlc lead : Int)) (rs.drop lead.length) → GtFr h' S fr me it tt t0 ex' → Chg h h' [fr, S.ld, S.sg] → (lead = [] → ex' = ex) → (lead ≠ [] → ex' ≠ none) → codeAny (Md w) A (gtLoop top fr it) R ⟨h', g, dr, t', os⟩) →
      codeAny (Md w) A (gtLoop top fr it) R ⟨h, g, dr, t₀, os⟩ := by
  intro lead
  induction lead with
  | nil =>
    intro rs ex ln h t₀ hc hr hl T X F Y
    exact Y h t₀ ex T (by simpa [nlc] using X) F ((Chg.refl h).drop fun _ hb => nomatch hb) (fun _ => rfl) (fun x => absurd rfl x)
  | cons c lead ih =>
    intro rs ex ln h t₀ hc hr hl T X F Y
    obtain ⟨x, rs, rfl⟩ : ∃ x rs', rs = x :: rs' := by
      cases rs with
      | nil => simp at hr
      | cons x rs => exact ⟨x, rs, rfl⟩
    have hx : x.1 = c := by simp at hr; exact hr.1
    have hr' : rs.map (·.1) = lead ++ tail := by simp at hr; exact hr.2
    obtain ⟨tl, aux2, ep2, h2⟩ := X.ld
    obtain ⟨aux3, ep3, h3⟩ := X.rdd
    obtain ⟨e, h4⟩ := X.sg
    obtain ⟨aux, ep, h1⟩ := F.hfr
    have pre := pre_G T X F h1 h2 h3 h4 old o o1 o2
    have m8 : ∀ x ∈ [S.lx, S.ld, S.st, S.rdd, S.rd, S.c2, S.ce, S.sg], x ∈ S.adrs := fun x hx => List.mem_of_mem_take (i := 8) hx
    have lld : 143 ≤ S.ld := X.low _ (m8 _ (by simp))
    have lsg : 143 ≤ S.sg := X.low _ (m8 _ (by simp))
    have old' := old
    simp only [GS.adrs, List.mem_cons, List.not_mem_nil, or_false, forall_eq_or_imp, forall_eq] at old'
    have key : ∀ (ln' : Int) (tl' : Nat) (h' : Heap) (t' m : Nat), Behind h h' (S.L ⟨aux, ep, aux2, ep2, aux3, ep3⟩ top fr me it tt t0 ex ln tl (mv (x :: rs)) e) m (S.Fx ⟨aux, ep, aux2, ep2, aux3, ep3⟩ top ++ [(S.sg, some (lsO (mv (x :: rs)).dropLast (e + 1))), (me, some (meO S.lx)), (it, some (ciO me t0))]) [(fr, some (true, vsG S.lx it (.str ⟨⟨[]⟩⟩ tt) (some (chv c x.2)))), (S.ld, some (false, S.vd ln' tl'))] → ln' = ln + (nl1 c : Int) → codeAny (Md w) A (gtLoop top fr it) R ⟨h', g, dr, t', os⟩ := by
      intro ln' tl' h' t' m B hln
      have c1 : Chg h h' [fr, S.ld, S.sg] := B.chg.drop fun b hb hn => by
        simp only [GS.L, List.map_cons, List.map_nil, List.mem_cons, List.not_mem_nil, or_false, not_or] at hb hn
        rcases hb with rfl | rfl | rfl | rfl | rfl | rfl | rfl | rfl | rfl | rfl | rfl
        · exact absurd rfl hn.1
        · exact same_of X.lx (B.at 0 rfl)
        · exact absurd rfl hn.2.1
        · exact same_of X.st (B.at 1 rfl)
        · exact same_of h3 (B.at 2 rfl)
        · exact same_of X.rd (B.at 3 rfl)
        · exact same_of X.c2 (B.at 4 rfl)
        · exact same_of X.ce (B.at 5 rfl)
        · exact absurd rfl hn.2.2
        · exact same_of F.hme (B.at 7 rfl)
        · exact same_of F.hit (B.at 8 rfl)
      have T1 : TopOk top h' := T.chg sep c1 (by intro b hb; simp at hb; (first | lia | omega))
      have nd := X.nd
      obtain ⟨e9, h9⟩ := X.pb
      have nn : S.pb ≠ S.ld ∧ S.pb ≠ S.sg := by
        simp only [GS.adrs, List.nodup_cons, List.mem_cons, List.not_mem_nil, or_false, not_or] at nd
        exact ⟨fun e => nd.2.1.2.2.2.2.2.2 e.symm, fun e => nd.2.2.2.2.2.2.2.1 e.symm⟩
      have X1 : LexSt top h' S ln' rs := ⟨B.at 0 rfl, ⟨tl', B.dicAt 1 rfl⟩, B.at 1 rfl, ⟨aux3, ep3, B.at 2 rfl⟩, B.at 3 rfl, B.at 4 rfl, B.at 5 rfl, ⟨e + 1, by have q := B.at 6 rfl; rw [mv_drop] at q; simpa using q⟩, ⟨e9, c1.kp h9 (by simp; (first | lia | omega))⟩, X.low, X.nd⟩
      have F1 : GtFr h' S fr me it tt t0 (some (chv c x.2)) := ⟨B.dicAt 0 rfl, B.at 7 rfl, B.at 8 rfl⟩
      refine ih rs _ ln' h' t' (fun c' hc' => hc c' (List.mem_cons_of_mem _ hc')) hr' (by simp at hl; (first | lia | omega)) T1 X1 F1 fun h2 t2 ex2 T2 X2 F2 c2 q1 q2 => ?_
      refine Y h2 t2 ex2 T2 ?_ F2 ((c1.trans c2).drop fun b hb hn => by simp at hb hn; (first | lia | omega)) (fun q => nomatch q) (fun _ => ?_)
      · have : ln + (nlc (c :: lead) : Int) = ln' + (nlc lead : Int) := by
          subst hln
          simp only [nlc]
          push_cast
          (first | lia | omega)
        rw [this]
        simpa using X2
      · cases lead with
        | nil => rw [q1 rfl]; simp
        | cons => exact q2 (by simp)
    have hcs : AllC (csG [chv c x.2] (mv (x :: rs)) 1) := by
      have q := csG_ok (chars := [c]) (rs := x :: rs) (tail := lead ++ tail) (by rw [List.map_cons, hx, hr']; rfl) hl 1 (Nat.le_refl 1)
      have hts : gvL [c] (tsOf (x :: rs)) 0 = [chv c x.2] := rfl
      rw [hts] at q
      exact q
    have hc0 := hc c (.head _)
    rcases hc0 with rfl | rfl
    · refine code_again pre sep hP a (by (first | lia | omega)) (ok_for (Z.isf _ _)) (Z.wn _ t₀ S ⟨aux, ep, aux2, ep2, aux3, ep3⟩ fr me it tt t0 ex ln tl (mv (x :: rs)) e x.2) hcs fun h1' B1 => ?_
      exact key _ _ h1' _ _ B1 rfl
    · refine code_again pre sep hP a (by (first | lia | omega)) (ok_for (Z.isf _ _)) (Z.ws _ t₀ S ⟨aux, ep, aux2, ep2, aux3, ep3⟩ fr me it tt t0 ex ln tl (mv (x :: rs)) e x.2) hcs fun h1' B1 => ?_
      exact key _ _ h1' _ _ B1 (by show ln = ln + ((0 : Nat) : Int); simp)
end
end
end Mine

end
section
open PySem PySem.W PySem.W.X PyProof.Rows
set_option maxRecDepth 100000
set_option Elab.async false
set_option maxHeartbeats 2000000
set_option genInjectivity false
set_option genSizeOfSpec false
namespace Mine
noncomputable section
/-! get_token: a name, and the empty word at the end -/
section
variable {P : Params} {top : Nat → Option Obj} {w : World} {A : Around} {R : Result → Shared → Prop} {g : Array GenState} {dr : Drawn} {os : OsState}
theorem gt_tok (hP : P = w.params) (Z : GtRuns P top) (sep : TopSep top) {nr : Nat} (a : Rm A nr) (ha : nr ≤ 390) {S : GS} {fr me it tt t0 : Nat} (old : ∀ a ∈ S.adrs, a < fr) (o : 143 ≤ fr) (o1 : fr < me) (o2 : me < it) {p k m : Nat} {tail : List Nat} {rs : List (Nat × Nat)} {ex : Option Value} (K : tkTurn P top p k m ex.isSome) {ln : Int} {h : Heap} {t₀ : Nat} (hr : rs.map (·.1) = tkL p k m ++ tail) (hl : rs.length ≤ 1000) (T : TopOk top h) (X : LexSt top h S ln rs) (F : GtFr h S fr me it tt t0 ex)
    (Y : ∀ h' t' tn, LexSt top h' S (ln + (nlK k m : Int)) (rs.drop (tkL p k m).length) → Chg h h' [fr, me, it, S.ld, S.sg] → R (.ok (.ret (.str ⟨⟨nameL p k⟩⟩ tn))) ⟨h', g, dr, t', os⟩) : codeAny (Md w) A (gtLoop top fr it) R ⟨h, g, dr, t₀, os⟩ := by
  obtain ⟨tl, aux2, ep2, h2⟩ := X.ld
  obtain ⟨aux3, ep3, h3⟩ := X.rdd
  obtain ⟨e, h4⟩ := X.sg
  obtain ⟨aux, ep, h1⟩ := F.hfr
  have pre := pre_G T X F h1 h2 h3 h4 old o o1 o2
  have key : ∀ m', (∀ h', Behind h h' (S.L ⟨aux, ep, aux2, ep2, aux3, ep3⟩ top fr me it tt t0 ex ln tl (mv rs) e) m' (S.Fx ⟨aux, ep, aux2, ep2, aux3, ep3⟩ top ++ [(S.sg, some (lsO (dropN (tkL p k m).length (mv rs)) (e + (tkL p k m).length)))]) [(S.ld, some (false, S.vd (lnK ln (nlK k m)) (ltK tl t₀ k m)))] → R (.ok (.ret (.str ⟨⟨nameL p k⟩⟩ (rtK (tsOf rs) t₀ k m)))) ⟨h', g, dr, t₀ + tkK k m 0, os⟩) := by
    intro m' h' B
    have c1 : Chg h h' [fr, me, it, S.ld, S.sg] := B.chg.drop fun b hb hn => by
      simp only [GS.L, List.map_cons, List.map_nil, List.mem_cons, List.not_mem_nil, or_false, not_or] at hb hn
      rcases hb with rfl | rfl | rfl | rfl | rfl | rfl | rfl | rfl | rfl | rfl | rfl
      · exact absurd rfl hn.1
      · exact same_of X.lx (B.at 0 rfl)
      · exact absurd rfl hn.2.2.2.1
      · exact same_of X.st (B.at 1 rfl)
      · exact same_of h3 (B.at 2 rfl)
      · exact same_of X.rd (B.at 3 rfl)
      · exact same_of X.c2 (B.at 4 rfl)
      · exact same_of X.ce (B.at 5 rfl)
      · exact absurd rfl hn.2.2.2.2
      · exact absurd rfl hn.2.1
      · exact absurd rfl hn.2.2.1
    have old' := old
    simp only [GS.adrs, List.mem_cons, List.not_mem_nil, or_false, forall_eq_or_imp, forall_eq] at old'
    have nd := X.nd
    obtain ⟨e9, h9⟩ := X.pb
    have nn : S.pb ≠ S.ld ∧ S.pb ≠ S.sg := by
      simp only [GS.adrs, List.nodup_cons, List.mem_cons, List.not_mem_nil, or_false, not_or] at nd
      exact ⟨fun e => nd.2.1.2.2.2.2.2.2 e.symm, fun e => nd.2.2.2.2.2.2.2.1 e.symm⟩
    refine Y h' _ _ ⟨B.at 0 rfl, ⟨ltK tl t₀ k m, ?_⟩, B.at 1 rfl, ⟨aux3, ep3, B.at 2 rfl⟩, B.at 3 rfl, B.at 4 rfl, B.at 5 rfl, ⟨e + (tkL p k m).length, ?_⟩, ⟨e9, c1.kp h9 (by simp; (first | lia | omega))⟩, X.low, X.nd⟩ c1
    · have q := B.dicAt 0 rfl
      rw [lnK_add] at q
      exact q
    · have q := B.at 6 rfl
      rw [dropN_mv] at q
      exact q
  obtain ⟨v, hv⟩ : ∃ v : Value, ex = none ∨ ex = some v := by
    cases ex with
    | none => exact ⟨.none, .inl rfl⟩
    | some v => exact ⟨v, .inr rfl⟩
  rcases hv with rfl | rfl
  · exact code_fin pre sep hP a (by (first | lia | omega)) (ok_for (Z.isf _ _)) (K _ t₀ S ⟨aux, ep, aux2, ep2, aux3, ep3⟩ fr me it tt t0 v ln tl (mv rs) e (tsOf rs)) (csG_ok hr hl _ (Nat.le_refl _)) (key _)
  · exact code_fin pre sep hP a (by (first | lia | omega)) (ok_for (Z.isf _ _)) (K _ t₀ S ⟨aux, ep, aux2, ep2, aux3, ep3⟩ fr me it tt t0 v ln tl (mv rs) e (tsOf rs)) (csG_ok hr hl _ (Nat.le_refl _)) (key _)
theorem entry_cin : entryFor table "callable_iterator.__next__" = some Builtin.«callable_iterator.__next__» := entryFor_of_tree (by kernel_rfl)
theorem den_b {id : String} {args : Args} {b : Builtin} (h : entryFor table id = some b) : denote table (.builtin id args) = b args := by
  show (match entryFor table id with
    | some b => b args
    | none => unsupported ((withoutEnding? id "#data").getD id)) = b args
  rw [h]
theorem den_nx (w : World) (it : Nat) : (Md w).den (nxB it) = Builtin.«callable_iterator.__next__» ⟨[.ref it], []⟩ := den_b entry_cin
theorem ok_nx (it : Nat) : okCode (nxB it) = true := by
  show (!Nat.beq (S.codeS "callable_iterator.__next__") callerCode) = true
  rw [← S.code_S]; decide +kernel
theorem own_attempt {α : Type} {M : Model} {c : Code} {m : Sem α} {Q : Except Value α → Shared → Prop} {E : Value → Shared → Prop} {s : Shared} (h : wpOwn M A c m (fun a s => Q (.ok a) s) (fun e s => Q (.error e) s) s) : wpOwn M A c m.attempt Q E s := fun Γ p hc hΓ => by
  rw [Sem.wp_attempt]; exact h Γ p hc hΓ
theorem own_cos {c : Code} {s : Shared} {me : Nat} {Q : Value → Shared → Prop} (x : GoalP w A (valR Q) .base c (valT (zwCOS (.ref me) [])) s) : wpOwn (Md w) A c (callOutOfASlot (.ref me)) Q (fun _ _ => False) s := by
  intro Γ p hc hΓ
  have z := x Γ p hc hΓ
  unfold valT at z
  rw [bindR_is, Sem.wp_bind', show zwCOS (.ref me) [] = callOutOfASlot (.ref me) from (congrFun (congrFun ZFast.ze2547987554251169477 (Value.ref me)) ([] : List Value)).symm] at z
  exact Sem.wp_mono _ Γ _ (fun f p' s' h => h) (fun e p' s' h => h) p s z
theorem goal_own {c : Code} {s : Shared} {t : Sem PySem.Fin} (x : GoalP w A R .base c t s) : wpOwn (Md w) A c t (fun fin s' => match fin with | PySem.Fin.done f => R (.ok f) s' | PySem.Fin.again c' => c'.quiet = true ∧ codeAny (Md w) A c' R s') (fun e s' => R (.error e) s') s :=
  wpOwn_mono x (fun fin s' h => by cases fin <;> exact h) fun _ _ h => h
theorem nx_eof (hP : P = w.params) (Z : CzRuns P top) (sep : TopSep top) {nr : Nat} (a : Rm A nr) (ha : nr ≤ 390) {S : GS} {me it t0 : Nat} (old : ∀ a ∈ S.adrs, a < me) (o : 143 ≤ me) (o2 : me < it) {ln : Int} {h : Heap} {t₀ : Nat} (T : TopOk top h) (X : LexSt top h S ln []) (hme : h.get? me = some (meO S.lx)) (hit : h.get? it = some (ciO me t0))
    (Y : ∀ h' t' xa b, h'.get? xa = some (stO b) → h.objs.size ≤ xa → Chg h h' [it] → R (.error (.ref xa)) ⟨h', g, dr, t', os⟩) : codeAny (Md w) A (nxCall it) R ⟨h, g, dr, t₀, os⟩ := by
  refine code_again (pre_one T hit (by (first | lia | omega))) sep hP a (by (first | lia | omega)) rfl (Z.z00 _ t₀ it me t0) trivial fun h1 B1 => ?_
  have k1 : Chg h h1 [] := B1.chg.drop fun b hb hn => by
    simp at hb; subst hb
    exact same_of hit (B1.at 0 rfl)
  have T1 : TopOk top h1 := T.chg sep k1 (by simp)
  have hit1 := k1.kp hit (by simp)
  refine codeAny_of_own ?_
  have e := den_nx w it
  rw [e]
  unfold Builtin.«callable_iterator.__next__»
  refine wpOwn_bind (wpOwn_of_wpAny (show wpAny _ _ (pure (Value.ref it, ([] : List Value))) _ _ _ from wpAny_pure ?_))
  refine wpOwn_bind (wpOwn_of_wpAny (wpAny_field hit1 rfl (x := .bool false) rfl ?_))
  show wpOwn _ _ _ (if (Value.bool false == Value.bool true) = true then _ else _) _ _ _
  rw [if_neg (show ¬ ((Value.bool false == Value.bool true) = true) from Bool.false_ne_true)]
  refine wpOwn_bind (wpOwn_of_wpAny (wpAny_field hit1 rfl (x := .ref me) rfl ?_))
  refine wpOwn_bind (own_attempt (wpOwn_mono (own_cos ?_) (fun _ _ x => x) fun _ _ x => x.elim))
  have X1 := X.chg k1 (by simp)
  have hme1 := k1.kp hme (by simp)
  obtain ⟨tl, aux2, ep2, h2⟩ := X1.ld
  obtain ⟨aux3, ep3, h3⟩ := X1.rdd
  obtain ⟨e, h4⟩ := X1.sg
  have n8' : (S.adrs.take 8).Nodup := X.nd.sublist (List.take_sublist 8 _)
  have n8 : [S.lx, S.ld, S.st, S.rdd, S.rd, S.c2, S.ce, S.sg].Nodup := n8'
  have m8 : ∀ x ∈ [S.lx, S.ld, S.st, S.rdd, S.rd, S.c2, S.ce, S.sg], x ∈ S.adrs := fun x hx => List.mem_of_mem_take (i := 8) hx
  have pre : Pre top h1 (S.L1 ⟨fun _ => (0, 0), 0, aux2, ep2, aux3, ep3⟩ top me ln tl e) := by
    refine pre_mk T1 ?_ ?_ ?_
    · intro q hq
      simp only [GS.L1, List.mem_cons, List.not_mem_nil, or_false] at hq
      rcases hq with rfl | rfl | rfl | rfl | rfl | rfl | rfl | rfl | rfl
      · exact X1.lx
      · exact h2
      · exact X1.st
      · exact h3
      · exact X1.rd
      · exact X1.c2
      · exact X1.ce
      · exact h4
      · exact hme1
    · show ([S.lx, S.ld, S.st, S.rdd, S.rd, S.c2, S.ce, S.sg] ++ [me]).Nodup
      refine List.nodup_append.mpr ⟨n8, by simp, fun x hx y hy hxy => ?_⟩
      have := old _ (m8 _ hx)
      simp at hy
      (first | lia | omega)
    · intro q hq
      have hq : q ∈ [S.lx, S.ld, S.st, S.rdd, S.rd, S.c2, S.ce, S.sg] ++ [me] := hq
      rcases List.mem_append.mp hq with hq | hq
      · exact .inr (.inr (X.low _ (m8 _ hq)))
      · simp at hq; (first | lia | omega)
  refine goal_fin pre sep hP (a.room (by (first | lia | omega))) (stT_inv (c := nxB it) (ok_nx it)) rfl rfl rfl (Z.z1 _ _ S ⟨fun _ => (0, 0), 0, aux2, ep2, aux3, ep3⟩ it me ln tl e) ⟨by simp, by simp, trivial⟩ fun h5 B5 => ?_
  have k5 : Chg h1 h5 [] := B5.chg.drop fun b hb hn => by
    simp only [GS.L1, List.map_cons, List.map_nil, List.mem_cons, List.not_mem_nil, or_false] at hb
    rcases hb with rfl | rfl | rfl | rfl | rfl | rfl | rfl | rfl | rfl
    · exact same_of X1.lx (B5.at 0 rfl)
    · exact same_of h2 (B5.at 8 rfl)
    · exact same_of X1.st (B5.at 1 rfl)
    · exact same_of h3 (B5.at 2 rfl)
    · exact same_of X1.rd (B5.at 3 rfl)
    · exact same_of X1.c2 (B5.at 4 rfl)
    · exact same_of X1.ce (B5.at 5 rfl)
    · exact same_of h4 (B5.at 6 rfl)
    · exact same_of hme1 (B5.at 7 rfl)
  have hit5 := k5.kp hit1 (by simp)
  have hme5 := k5.kp hme1 (by simp)
  have T5 : TopOk top h5 := T1.chg sep k5 (by simp)
  show wpOwn _ _ _ (field (.ref it) 2 >>= _) _ _ _
  refine wpOwn_bind (wpOwn_of_wpAny (wpAny_field hit5 rfl (x := .bool false) rfl ?_))
  show wpOwn _ _ _ (if (Value.bool false == Value.bool true) = true then _ else _) _ _ _
  rw [if_neg (show ¬ ((Value.bool false == Value.bool true) = true) from Bool.false_ne_true)]
  refine wpOwn_bind (wpOwn_of_wpAny (wpAny_field hit5 rfl (x := .str ⟨⟨[]⟩⟩ t0) rfl ?_))
  refine wpOwn_bind (wpOwn_of_wpAny (wpAny_holding (PySem.SeqRoads2.EqGives.str ⟨⟨[]⟩⟩ ⟨⟨[]⟩⟩ t0 _ _ _ _ _ _ _ ?_)))
  show wpOwn _ _ _ (if (!true) = true then _ else _) _ _ _
  rw [if_neg (by simp)]
  refine wpOwn_bind (wpOwn_of_wpAny (wpAny_rule ?_))
  rw [ZFast.ze7774638238746244234, ZFast.ze17615448654315672387]
  show wpOwn _ _ _ (zwCE (.ref it) >>= fun _ => zwSI) _ _ _
  rw [← bindR_is]
  refine goal_own ?_
  refine goal_fin (pre_two T5 hit5 hme5 (by (first | lia | omega)) o (by (first | lia | omega))) sep hP (a.room (by (first | lia | omega))) (stT_inv (c := nxB it) (ok_nx it)) rfl rfl rfl (Z.z2 _ _ it me t0 S.lx) trivial fun h6 B6 => ?_
  have k6 : Chg h5 h6 [it] := B6.chg.drop fun b hb hn => by
    simp at hb hn
    rcases hb with rfl | rfl
    · exact absurd rfl hn
    · exact same_of hme5 (B6.at 1 rfl)
  have s1 := k1.size
  have s5 := k5.size
  exact Y h6 _ _ _ (B6.at 0 rfl) (by (first | lia | omega)) (((k1.trans k5).trans k6).drop fun b hb hn => by simp at hb hn; exact absurd hb hn)
theorem gt_in (hP : P = w.params) (Z : GtRuns P top) (sep : TopSep top) {h : Heap} {t₀ : Nat} (T : TopOk top h) {nr : Nat} (a : Rm A nr) (ha : nr ≤ 370) {S : GS} {ln : Int} {rs : List (Nat × Nat)} (X : LexSt top h S ln rs)
    (Y : ∀ h1 t1 A1 tl (M : GA) e, Rm A1 (nr + 5) → TopOk top h1 → LexSt top h1 S ln rs → GtFr h1 S h.objs.size (h.objs.size + 1) (h.objs.size + 2) (t₀ + 4) (t₀ + 7) none → Chg h h1 [] → h1.objs.size = h.objs.size + 3 →
      codeAny (Md w) A1 (gtLoop top h.objs.size (h.objs.size + 2)) (Resume (runQ (vOf P top [] [(S.lx, lxO S.ld), (S.ld, dicF "dict" (S.vd ln tl) M.aux2 M.ep2), (S.pb, lsO [] e)] h.objs.size t₀) 300 (startC (gtCall S.lx) (btOf ([(S.lx, lxO S.ld), (S.ld, dicF "dict" (S.vd ln tl) M.aux2 M.ep2), (S.pb, lsO [] e)].map (·.2))) q_gt1)) w A R) ⟨h1, g, dr, t1, os⟩) :
    codeAny (Md w) A (gtCall S.lx) R ⟨h, g, dr, t₀, os⟩ := by
  obtain ⟨tl, aux2, ep2, h2⟩ := X.ld
  obtain ⟨e, h9⟩ := X.pb
  have nd := X.nd
  have low := X.low
  have lt := X.lt
  simp only [GS.adrs, List.nodup_cons, List.mem_cons, List.not_mem_nil, or_false, not_or, forall_eq_or_imp, forall_eq] at nd low lt
  have n1 : S.lx ≠ S.ld := nd.1.1
  have n2 : S.lx ≠ S.pb := nd.1.2.2.2.2.2.2.2
  have n3 : S.ld ≠ S.pb := nd.2.1.2.2.2.2.2.2
  have pre : Pre top h [(S.lx, lxO S.ld), (S.ld, dicF "dict" (S.vd ln tl) aux2 ep2), (S.pb, lsO [] e)] := by
    refine pre_mk T ?_ ?_ ?_
    · intro q hq
      simp only [List.mem_cons, List.not_mem_nil, or_false] at hq
      rcases hq with rfl | rfl | rfl
      · exact X.lx
      · exact h2
      · exact h9
    · simp [n1, n2, n3]
    · intro q hq
      simp only [List.map_cons, List.map_nil, List.mem_cons, List.not_mem_nil, or_false] at hq
      rcases hq with rfl | rfl | rfl
      · exact .inr (.inr low.1)
      · exact .inr (.inr low.2.1)
      · exact .inr (.inr low.2.2.2.2.2.2.2.2)
  refine code_stop pre sep hP a (by (first | lia | omega)) rfl (Z.r1 _ t₀ S ⟨fun _ => (0, 0), 0, aux2, ep2, fun _ => (0, 0), 0⟩ ln tl e) trivial fun h1 B1 A1 a1 => ?_
  have k1 : Chg h h1 [] := B1.chg.drop fun b hb hn => by
    simp only [List.map_cons, List.map_nil, List.mem_cons, List.not_mem_nil, or_false] at hb
    rcases hb with rfl | rfl | rfl
    · exact same_of X.lx (B1.at 0 rfl)
    · exact same_of h2 (B1.at 4 rfl)
    · exact same_of h9 (B1.at 1 rfl)
  exact Y h1 _ A1 tl ⟨fun _ => (0, 0), 0, aux2, ep2, fun _ => (0, 0), 0⟩ e a1 (T.chg sep k1 (by simp)) (X.chg k1 (by simp)) ⟨B1.dicAt 0 rfl, B1.at 2 rfl, B1.at 3 rfl⟩ k1 B1.size
theorem gt_spec (hP : P = w.params) (Z : GtRuns P top) (sep : TopSep top) {h : Heap} {t₀ : Nat} (T : TopOk top h) {nr : Nat} (a : Rm A nr) (ha : nr ≤ 370) {S : GS} {ln : Int} {rs : List (Nat × Nat)} {lead tail : List Nat} {p k m : Nat} (K : tkTurn P top p k m (!lead.isEmpty)) (hB : 143 ≤ h.objs.size) (hlead : ∀ c ∈ lead, c = 10 ∨ c = 32) (hr : rs.map (·.1) = lead ++ (tkL p k m ++ tail)) (hl : rs.length ≤ 1000) (X : LexSt top h S ln rs)
    (Y : ∀ h' t' tn, LexSt top h' S (ln + (nlc lead : Int) + (nlK k m : Int)) (rs.drop (lead.length + (tkL p k m).length)) → Chg h h' [S.ld, S.sg] → R (.ok (.ret (.str ⟨⟨nameL p k⟩⟩ tn))) ⟨h', g, dr, t', os⟩) : codeAny (Md w) A (gtCall S.lx) R ⟨h, g, dr, t₀, os⟩ := by
  refine gt_in hP Z sep T a ha X fun h1 t1 A1 tl M e a1 T1 X1 F1 k1 s1 => ?_
  have lt := X.lt
  refine gt_ws hP Z sep a1 (by (first | lia | omega)) lt hB (by (first | lia | omega)) (by (first | lia | omega)) (tkL p k m ++ tail) lead rs none ln h1 t1 hlead hr hl T1 X1 F1 fun h2 t2 ex2 T2 X2 F2 k2 q1 q2 => ?_
  have hex : (!lead.isEmpty) = ex2.isSome := by
    cases lead with
    | nil => rw [q1 rfl]; rfl
    | cons =>
      cases ex2 with
      | none => exact absurd rfl (q2 (by simp))
      | some => rfl
  rw [hex] at K
  have hr2 : (rs.drop lead.length).map (·.1) = tkL p k m ++ tail := by
    rw [List.map_drop, hr]; simp
  refine gt_tok hP Z sep a1 (by (first | lia | omega)) lt hB (by (first | lia | omega)) (by (first | lia | omega)) K hr2 (by simp; (first | lia | omega)) T2 X2 F2 fun h3 t3 tn X3 k3 => ?_
  have low : 143 ≤ S.ld ∧ 143 ≤ S.sg := ⟨X.low _ (by simp [GS.adrs]), X.low _ (by simp [GS.adrs])⟩
  have T3 : TopOk top h3 := T2.chg sep k3 (by intro b hb; simp at hb; (first | lia | omega))
  refine res_fin (L := []) (pre_nil T3) sep hP a (by (first | lia | omega)) (Z.r2 _ t₀ S M ln tl e _ t3 _) trivial fun h4 B4 => ?_
  have k4 : Chg h3 h4 [] := B4.chg
  rw [List.drop_drop] at X3
  have kk : Chg h h4 [S.ld, S.sg] := (((k1.trans k2).trans k3).trans k4).old fun b hb => by
    simp at hb ⊢; (first | lia | omega)
  exact Y h4 _ tn (X3.chg k4 (by simp)) kk
theorem gt_end (hP : P = w.params) (Z : GtRuns P top) (C : CzRuns P top) (sep : TopSep top) {h : Heap} {t₀ : Nat} (T : TopOk top h) {nr : Nat} (a : Rm A nr) (ha : nr ≤ 360) {S : GS} {ln : Int} {rs : List (Nat × Nat)} {lead : List Nat} (hB : 143 ≤ h.objs.size) (hlead : ∀ c ∈ lead, c = 10 ∨ c = 32) (hr : rs.map (·.1) = lead) (hl : rs.length ≤ 1000) (X : LexSt top h S ln rs)
    (Y : ∀ h' t' tn, Chg h h' [S.ld, S.sg] → R (.ok (.ret (.str ⟨⟨[]⟩⟩ tn))) ⟨h', g, dr, t', os⟩) : codeAny (Md w) A (gtCall S.lx) R ⟨h, g, dr, t₀, os⟩ := by
  refine gt_in hP Z sep T a (by (first | lia | omega)) X fun h1 t1 A1 tl M e a1 T1 X1 F1 k1 s1 => ?_
  have lt := X.lt
  refine gt_ws hP Z sep a1 (by (first | lia | omega)) lt hB (by (first | lia | omega)) (by (first | lia | omega)) [] lead rs none ln h1 t1 hlead (by simpa using hr) hl T1 X1 F1 fun h2 t2 ex2 T2 X2 F2 k2 q1 q2 => ?_
  have hnil : rs.drop lead.length = [] := by
    have := congrArg List.length hr
    simp at this
    simp [this]
  rw [hnil] at X2
  have low : 143 ≤ S.ld ∧ 143 ≤ S.sg := ⟨X.low _ (by simp [GS.adrs]), X.low _ (by simp [GS.adrs])⟩
  have lt2 : S.ld < h.objs.size ∧ S.sg < h.objs.size := ⟨lt _ (by simp [GS.adrs]), lt _ (by simp [GS.adrs])⟩
  refine code_stop (pre_one T2 F2.hit (by (first | lia | omega))) sep hP a1 (by (first | lia | omega)) (ok_for (Z.isf _ _)) (C.z0 _ t2 _ _ _ _) trivial fun h3 B3 A3 a3 => ?_
  have k3 : Chg h2 h3 [] := B3.chg.drop fun b hb hn => by
    simp at hb; subst hb
    exact same_of F2.hit (B3.at 0 rfl)
  have T3 : TopOk top h3 := T2.chg sep k3 (by simp)
  refine nx_eof hP C sep a3 (by (first | lia | omega)) (fun b hb => Nat.lt_succ_of_lt (lt b hb)) (by (first | lia | omega)) (by (first | lia | omega)) T3 (X2.chg k3 (by simp)) (k3.kp F2.hme (by simp)) (k3.kp F2.hit (by simp)) fun h4 t4 xa b hxa lxa k4 => ?_
  have T4 : TopOk top h4 := T3.chg sep k4 (by intro b hb; simp at hb; (first | lia | omega))
  have s2 := k2.size
  have s3 := k3.size
  refine res_fin (pre_one T4 hxa (by (first | lia | omega))) sep hP a1 (by (first | lia | omega)) (C.z3 _ t2 _ _ _ _ _ t4 xa b) trivial fun h5 B5 => ?_
  have k5 : Chg h4 h5 [xa] := B5.chg
  have k25 : Chg h2 h5 [h.objs.size + 2] := ((k3.trans k4).trans k5).old fun b hb => by
    simp at hb ⊢; (first | lia | omega)
  have T5 : TopOk top h5 := T4.chg sep k5 (by intro b hb; simp at hb; (first | lia | omega))
  obtain ⟨aux6, ep6, h6⟩ := F2.hfr.kp k25 (by simp)
  refine res_fin (pre_one T5 h6 hB) sep hP a (by (first | lia | omega)) (Z.r3 _ t₀ S M ln tl e _ _ _ _ aux6 ep6) trivial fun h7 B7 => ?_
  have k7 : Chg h5 h7 [h.objs.size] := B7.chg
  exact Y h7 _ _ ((((k1.trans k2).trans k25).trans k7).old fun b hb => by simp at hb ⊢; (first | lia | omega))
end
end
end Mine

end
section
open PySem PySem.W PySem.W.X PyProof.Rows
set_option maxRecDepth 100000
set_option Elab.async false
set_option maxHeartbeats 2000000
set_option genInjectivity false
set_option genSizeOfSpec false
namespace Mine
noncomputable section
/-! the lexer is made -/
theorem signs_of : ∀ (l : List Nat) (xs : List Value), xs.length = l.length → (∀ (i c : Nat), l[i]? = some c → ∃ t, xs[i]? = some (chv c t)) → ∃ rs : List (Nat × Nat), rs.map (·.1) = l ∧ rs.map (fun x => chv x.1 x.2) = xs
  | [], xs, hl, _ => ⟨[], rfl, by cases xs with | nil => rfl | cons => simp at hl⟩
  | c :: l, [], hl, _ => by simp at hl
  | c :: l, x :: xs, hl, h => by
    obtain ⟨t, ht⟩ := h 0 c rfl
    obtain ⟨rs, h1, h2⟩ := signs_of l xs (by simpa using hl) fun i c' hc => h (i + 1) c' hc
    have hx : x = chv c t := by simpa using ht
    exact ⟨(c, t) :: rs, by rw [List.map_cons, h1], by rw [List.map_cons, h2, hx]⟩
section
variable {P : Params} {top : Nat → Option Obj} {w : World} {A : Around} {R : Result → Shared → Prop} {g : Array GenState} {dr : Drawn} {os : OsState}
theorem lex_spec (hP : P = w.params) (Z : LxRuns P top) (sep : TopSep top) {h : Heap} {t₀ : Nat} (T : TopOk top h) {nr : Nat} (a : Rm A nr) (ha : nr ≤ 370) {l : List Nat} {t : Nat} (hn : l.length ≤ 900) (h97 : h.get? 97 = some o97e) (hB : 143 ≤ h.objs.size)
    (Y : ∀ h' t' S rs c1 c2, LexSt top h' S 1 rs → rs.map (·.1) = l → (∀ a ∈ S.adrs, h.objs.size ≤ a) → h'.get? 97 = some (o97 c1 c2) → Chg h h' [97] → R (.ok (.ret (.ref S.lx))) ⟨h', g, dr, t', os⟩) : codeAny (Md w) A (lexCall l t) R ⟨h, g, dr, t₀, os⟩ := by
  have pre1 : Pre top h [(97, o97e)] := pre_mk T (by intro q hq; simp at hq; subst hq; exact h97) (by simp) (by intro q hq; simp at hq; exact .inl hq)
  refine code_stopW pre1 sep hP a (by (first | lia | omega)) rfl (Z.r1 _ t₀ l t) trivial fun h1 B1 A1 a1 => ?_
  have s1 := B1.size
  have k1 : Chg h h1 [] := B1.chg.drop fun b hb hn => by
    simp at hb; subst hb
    exact same_of h97 (B1.at 1 rfl)
  refine list_spec (x := ⟨⟨l⟩⟩) a1.handled (by show l.length ≤ 1000; (first | lia | omega)) fun h2 t2 xs e hS hI k2 => ?_
  have hxl : xs.length = l.length := by have := hI.1; simpa using this
  obtain ⟨rs, hrs, hxs⟩ := signs_of l xs hxl fun i c hc => by
    have hi : i < xs.length := by rw [hxl]; exact (List.getElem?_eq_some_iff.mp hc).1
    obtain ⟨c', u, h1, h2⟩ := hI.2 i xs[i] (by simp [hi])
    have hcc : c' = c := by
      have q : l[i]? = some c' := by simpa using h1
      rw [hc] at q; exact (Option.some.inj q).symm
    exact ⟨u, by rw [List.getElem?_eq_getElem hi, h2, hcc]; rfl⟩
  obtain ⟨aux, ep, hf⟩ := B1.dicAt 0 rfl
  have hce : h1.get? (h.objs.size + 1) = some (ceO none) := B1.at 0 rfl
  have k12 : Chg h h2 [] := (k1.trans k2).none fun b hb => by simp at hb
  have T2 : TopOk top h2 := T.chg sep k12 (by simp)
  have s2 : h1.objs.size < h2.objs.size := Heap.lt_size hS
  have pre2 : Pre top h2 (lxLB h.objs.size l t aux ep h1.objs.size xs e) := by
    refine pre_mk T2 ?_ ?_ ?_
    · intro q hq
      simp only [lxLB, List.mem_cons, List.not_mem_nil, or_false] at hq
      rcases hq with rfl | rfl | rfl | rfl
      · exact k2.kp hf (by simp)
      · exact k2.kp hce (by simp)
      · exact hS
      · exact k12.kp h97 (by simp)
    · simp [lxLB]; (first | lia | omega)
    · intro q hq
      simp [lxLB] at hq
      (first | lia | omega)
  refine res_fin pre2 sep hP a (by (first | lia | omega)) (Z.r2 h.objs.size t₀ l t aux ep h1.objs.size xs e _ t2) ⟨by rw [hxl]; (first | lia | omega), trivial⟩ fun h3 B3 => ?_
  have s3 := B3.size
  have k23 : Chg h2 h3 [h.objs.size, h.objs.size + 1, h1.objs.size, 97] := B3.chg
  have k03 : Chg h h3 [97] := (k12.trans k23).old fun b hb => by simp at hb ⊢; (first | lia | omega)
  refine Y h3 _ ⟨h2.objs.size + 17, h2.objs.size + 16, h2.objs.size + 6, h2.objs.size + 15, h2.objs.size + 14, h2.objs.size + 13, h.objs.size + 1, h1.objs.size, h2.objs.size + 19, h2.objs.size + 5, h2.objs.size + 7, t2 + 22, .str lamN (t2 + 6), t2 + 7, coT h2.objs.size t2⟩ rs _ _ ⟨B3.at 6 rfl, ⟨_, B3.dicAt 1 rfl⟩, B3.at 3 rfl, B3.dicAt 0 rfl, B3.at 5 rfl, B3.at 4 rfl, B3.at 1 rfl, ⟨e, ?_⟩, ⟨0, B3.at 7 rfl⟩, ?_, ?_⟩ hrs ?_ (B3.at 0 rfl) k03
  · have q := B3.at 2 rfl
    rw [q, ← hxs]; rfl
  · intro b hb; simp [GS.adrs] at hb; (first | lia | omega)
  · simp [GS.adrs]; (first | lia | omega)
  · intro b hb; simp [GS.adrs] at hb; (first | lia | omega)
end
/-! the text -/
/-- the four given places and the script's -/
noncomputable def okT (p k g b : Nat) : Prop := (p = 1 ∧ k = 1 ∧ g = 0 ∧ b = 0) ∨ (p = 2 ∧ k = 2 ∧ g = 1 ∧ b = 0) ∨ (p = 3 ∧ k = 3 ∧ g = 0 ∧ b = 1) ∨ (4 ≤ p ∧ p ≤ 6 ∧ k < 4 ∧ g < 3 ∧ b < 2)
@[reducible] noncomputable def TxRuns_t4 (P : Params) (top : Nat → Option Obj) : Prop := ∀ k g b, k < 4 → g < 3 → b < 2 → txTurn P top 4 k g b
@[reducible] noncomputable def TxRuns_t5 (P : Params) (top : Nat → Option Obj) : Prop := ∀ k g b, k < 4 → g < 3 → b < 2 → txTurn P top 5 k g b
@[reducible] noncomputable def TxRuns_t6 (P : Params) (top : Nat → Option Obj) : Prop := ∀ k g b, k < 4 → g < 3 → b < 2 → txTurn P top 6 k g b
structure TxRuns (P : Params) (top : Nat → Option Obj) : Prop where
  t0 : tx0 P top
  t1 : txTurn P top 1 1 0 0
  t2 : txTurn P top 2 2 1 0
  t3 : txTurn P top 3 3 0 1
  t4 : TxRuns_t4 P top
  t5 : TxRuns_t5 P top
  t6 : TxRuns_t6 P top
theorem TxRuns.turn {P : Params} {top : Nat → Option Obj} (Z : TxRuns P top) {p k g b : Nat} (o : okT p k g b) : txTurn P top p k g b := by
  rcases o with ⟨rfl, rfl, rfl, rfl⟩ | ⟨rfl, rfl, rfl, rfl⟩ | ⟨rfl, rfl, rfl, rfl⟩ | ⟨h1, h2, h3, h4, h5⟩
  · exact Z.t1
  · exact Z.t2
  · exact Z.t3
  · have : p = 4 ∨ p = 5 ∨ p = 6 := by (first | lia | omega)
    rcases this with rfl | rfl | rfl
    · exact Z.t4 k g b h3 h4 h5
    · exact Z.t5 k g b h3 h4 h5
    · exact Z.t6 k g b h3 h4 h5
/-- the three figures of a draw -/
noncomputable def figK (x : Int) : Nat := (Int.fmod (Int.fdiv x 3) 4).toNat
noncomputable def figG (x : Int) : Nat := (Int.fmod x 3).toNat
noncomputable def figB (x : Int) : Nat := (Int.fmod (Int.fdiv x 12) 2).toNat
theorem fig_ok (x : Int) : Int.fmod (Int.fdiv x 3) 4 = .ofNat (figK x) ∧ Int.fmod x 3 = .ofNat (figG x) ∧ Int.fmod (Int.fdiv x 12) 2 = .ofNat (figB x) ∧ figK x < 4 ∧ figG x < 3 ∧ figB x < 2 := by
  have h1 := Int.fmod_nonneg_of_pos (Int.fdiv x 3) (show (0 : Int) < 4 by decide)
  have h2 := Int.fmod_nonneg_of_pos x (show (0 : Int) < 3 by decide)
  have h3 := Int.fmod_nonneg_of_pos (Int.fdiv x 12) (show (0 : Int) < 2 by decide)
  have l1 := Int.fmod_lt_of_pos (Int.fdiv x 3) (show (0 : Int) < 4 by decide)
  have l2 := Int.fmod_lt_of_pos x (show (0 : Int) < 3 by decide)
  have l3 := Int.fmod_lt_of_pos (Int.fdiv x 12) (show (0 : Int) < 2 by decide)
  refine ⟨(Int.toNat_of_nonneg h1).symm, (Int.toNat_of_nonneg h2).symm, (Int.toNat_of_nonneg h3).symm, ?_, ?_, ?_⟩
  · unfold figK; (first | lia | omega)
  · unfold figG; (first | lia | omega)
  · unfold figB; (first | lia | omega)
/-- the text, the names and the hours by the draws -/
noncomputable def textGo (p : Nat) (l : List Nat) : List Int → List Nat
  | [] => l
  | x :: r => textGo (p + 1) (finL l p (figK x) (figG x) (figB x)) r
noncomputable def namesGo (p : Nat) : List Int → List (List Nat)
  | [] => []
  | x :: r => nameL p (figK x) :: namesGo (p + 1) r
noncomputable def hoursGo (p : Nat) (l : List Nat) : List Int → List Int
  | [] => []
  | x :: r => (1 + .ofNat (occN (midL l p (figK x) (figG x) (figB x)) [10])) :: hoursGo (p + 1) (finL l p (figK x) (figG x) (figB x)) r
end
end Mine

end
section
open PySem PySem.W PySem.W.X PyProof.Rows
set_option maxRecDepth 100000
set_option Elab.async false
set_option maxHeartbeats 2000000
set_option genInjectivity false
set_option genSizeOfSpec false
namespace Mine
noncomputable section
/-! the text loop -/
theorem finL_len (l : List Nat) (p : Nat) {k g b : Nat} (hk : k < 4) (hg : g < 3) (hb : b < 2) : (finL l p k g b).length ≤ l.length + 12 ∧ finL l p k g b ≠ [] := by
  have h1 : k = 0 ∨ k = 1 ∨ k = 2 ∨ k = 3 := by (first | lia | omega)
  have h2 : g = 0 ∨ g = 1 ∨ g = 2 := by (first | lia | omega)
  have h3 : b = 0 ∨ b = 1 := by (first | lia | omega)
  rcases h1 with rfl | rfl | rfl | rfl <;> rcases h2 with rfl | rfl | rfl <;> rcases h3 with rfl | rfl <;> simp [finL, midL, repL, escL, bareL, bsL, gapL, nlsL, g0L]
theorem txC_ok (t₀ : Nat) {l : List Nat} {p k g b : Nat} {x : Int} {tx : Nat} {D : List (Int × Nat)} {N : List Value} {H : List (Int × Nat)} (hl : l ≠ []) (hl' : l.length ≤ 10000) (hk : k < 4) (hg : g < 3) (hb : b < 2) (hp : p ≤ 10) (hD : D.length ≤ 1000) (hN : N.length ≤ 1000) (hH : H.length ≤ 1000)
    (e1 : Int.fmod (Int.fdiv x 3) 4 = .ofNat k) (e2 : Int.fmod x 3 = .ofNat g) (e3 : Int.fmod (Int.fdiv x 12) 2 = .ofNat b) (hx : (ivs D)[p]? = some (.int x tx)) : AllC (txC t₀ l p k g b x tx D N H) := by
  have hi : ItemAt (ivs D) (.ofNat p) (.int x tx) ∧ -100000 ≤ Int.ofNat p ∧ Int.ofNat p ≤ 100000 ∧ (ivs D).length ≤ 100000 := by
    refine ⟨.inl ⟨Int.natCast_nonneg _, by simpa using hx⟩, ?_, ?_, by simp; (first | lia | omega)⟩
    · show -100000 ≤ ((p : Nat) : Int); (first | lia | omega)
    · show ((p : Nat) : Int) ≤ 100000; (first | lia | omega)
  have hH' : (ivs H).length ≤ 100000 := by simp; (first | lia | omega)
  have hN' : N.length ≤ 100000 := by (first | lia | omega)
  have add : ∀ (a r : List Nat), a ≠ [] → r ≠ [] → a.length ≤ 20000 → r.length ≤ 20 → addC a r := fun a r h1 h2 h3 h4 => ⟨h1, h2, by rw [List.length_append]; (first | lia | omega)⟩
  have h1 : k = 0 ∨ k = 1 ∨ k = 2 ∨ k = 3 := by (first | lia | omega)
  have h2 : g = 0 ∨ g = 1 ∨ g = 2 := by (first | lia | omega)
  have h3 : b = 0 ∨ b = 1 := by (first | lia | omega)
  have ne : ∀ (a : List Nat), l ++ a ≠ [] := fun a q => hl (List.append_eq_nil_iff.mp q).1
  rcases h3 with rfl | rfl
  · have hrep : repL p k ≠ [] ∧ (repL p k).length ≤ 20 := by rcases h1 with rfl | rfl | rfl | rfl <;> simp [repL, escL]
    have hgap : gapL g 0 ≠ [] ∧ (gapL g 0).length ≤ 20 := by rcases h2 with rfl | rfl | rfl <;> simp [gapL, nlsL]
    have a1 : addC l [34] := add _ _ hl (by simp) (by (first | lia | omega)) (by simp)
    have a2 : addC (l ++ [34]) (repL p k) := add _ _ (ne _) hrep.1 (by simp; (first | lia | omega)) hrep.2
    have a3 : addC ((l ++ [34]) ++ repL p k) [34] := add _ _ (by simp) (by simp) (by simp; (first | lia | omega)) (by simp)
    have a4 : addC (midL l p k g 0) (gapL g 0) := add _ _ (by simp [midL]) hgap.1 (by simp [midL]; (first | lia | omega)) hgap.2
    have nc : ∀ a b : Nat, a ≠ b → 0 < a → 0 < b → neC (t₀ + a) (t₀ + b) := fun a b h1 h2 h3 => ⟨by (first | lia | omega), by (first | lia | omega), by (first | lia | omega)⟩
    rcases h1 with rfl | rfl | rfl | rfl
    · exact ⟨a4, hH', hN', a3, a2, a1, e3, e2, e1, hi, trivial⟩
    · exact ⟨a4, hH', hN', a3, a2, a1, e3, e2, e1, hi, trivial⟩
    · exact ⟨a4, hH', hN', a3, a2, nc _ _ (by (first | lia | omega)) (by (first | lia | omega)) (by (first | lia | omega)), a1, e3, e2, e1, hi, trivial⟩
    · exact ⟨a4, hH', hN', a3, a2, nc _ _ (by (first | lia | omega)) (by (first | lia | omega)) (by (first | lia | omega)), a1, e3, e2, e1, hi, trivial⟩
  · have hbare : bareL p k ≠ [] ∧ (bareL p k).length ≤ 20 := by rcases h1 with rfl | rfl | rfl | rfl <;> simp [bareL, bsL]
    have hg0 : g0L g ≠ [] ∧ (g0L g).length ≤ 20 := by rcases h2 with rfl | rfl | rfl <;> simp [g0L]
    have a1 : addC l (bareL p k) := add _ _ hl hbare.1 (by (first | lia | omega)) hbare.2
    have a2 : addC (l ++ bareL p k) (g0L g) := add _ _ (ne _) hg0.1 (by simp; (first | lia | omega)) hg0.2
    have a3 : endC l p k g 1 := by
      rcases h2 with rfl | rfl | rfl
      · show midL l p k 0 1 ≠ []; simp [midL, g0L]
      · exact add _ _ (by simp [midL, g0L]) (by simp) (by simp [midL, g0L]; (first | lia | omega)) (by simp)
      · exact add _ _ (by simp [midL, g0L]) (by simp) (by simp [midL, g0L]; (first | lia | omega)) (by simp)
    exact ⟨a3, hH', hN', a2, a1, e3, e2, e1, hi, trivial⟩
theorem lawLoop_it {top : Nat → Option Obj} {k fr it : Nat} {tg it' b env} (e : lawLoop top k fr it = .forLoop tg it' b [] env) : it' = .ref it :=
  loopC_cases (p := fun c => c = .forLoop tg it' b [] env → it' = .ref it) (fun _ _ _ _ e => nomatch e) (fun _ _ _ _ e => by cases e; rfl) (fun e => nomatch e) e
theorem sTr_len {D : List (Int × Nat)} {p : Nat} {x : Int × Nat} {ds : List Int} (h : (D.map (·.1)).drop p = x.1 :: ds) : p < D.length := by
  have := congrArg List.length h
  simp at this; (first | lia | omega)
section
variable {P : Params} {top : Nat → Option Obj} {w : World} {A : Around} {R : Result → Shared → Prop} {g : Array GenState} {dr : Drawn} {os : OsState}
/-- what lies about the text loop -/
structure TxSt (h : Heap) (fr da nl hl : Nat) (D : List (Int × Nat)) (N : List (Str × Nat)) (H : List (Int × Nat)) (vs : Vs) : Prop where
  xfr : IsDic h fr "frame" vs
  xda : ∃ e, h.get? da = some (lsO (ivs D) e)
  xcn : h.get? (fr + 2) = some (ceO (some (.ref nl)))
  xch : h.get? (fr + 3) = some (ceO (some (.ref hl)))
  xnl : ∃ e, h.get? nl = some (lsO (nvs N) e)
  xhl : ∃ e, h.get? hl = some (lsO (ivs H) e)
theorem text_loop (hP : P = w.params) (Z : TxRuns P top) (La : LaRuns P top) (Zd : DuRuns P top) (sep : TopSep top) {nr : Nat} (a : Rm A nr) (ha : nr ≤ 380) {fr it da nl hl sl : Nat} {D : List (Int × Nat)} (hD : D.length ≤ 7) (low : 143 ≤ fr ∧ fr + 3 < da ∧ da < nl ∧ nl < hl ∧ hl < it) (hok : ∀ j x, 1 ≤ j → D[j]? = some x → okT j (figK x.1) (figG x.1) (figB x.1)) :
    ∀ (m p : Nat) (l : List Nat) (tt : Nat) (v1 v2 v3 v4 : Value) (N : List (Str × Nat)) (H : List (Int × Nat)) (h : Heap) (t₀ : Nat), 1 ≤ p → p + m = D.length → l ≠ [] → l.length ≤ 100 * p → N.length ≤ p → H.length ≤ p → TopOk top h → TxSt h fr da nl hl D N H (vsX sl da l tt [v1, v2, v3, v4]) → h.get? it = some (riO (.ofNat p) (.ofNat m) 1) →
      (∀ h' t' tt' w1 w2 w3 w4 N' H', TxSt h' fr da nl hl D N' H' (vsX sl da (textGo p l ((D.map (·.1)).drop p)) tt' [w1, w2, w3, w4]) → N'.map (·.1) = N.map (·.1) ++ (namesGo p ((D.map (·.1)).drop p)).map (fun l => ⟨⟨l⟩⟩) → H'.map (·.1) = H.map (·.1) ++ hoursGo p l ((D.map (·.1)).drop p) → Chg h h' [fr, it, nl, hl] → R (.ok .next) ⟨h', g, dr, t', os⟩) →
      codeAny (Md w) A (lawLoop top 0 fr it) R ⟨h, g, dr, t₀, os⟩ := by
  intro m
  induction m with
  | zero =>
    intro p l tt v1 v2 v3 v4 N H h t₀ hp hpm hne hl' hN hH T X xit Y
    refine for_endR hP Zd sep T a (by (first | lia | omega)) xit (by (first | lia | omega)) (La.isf 0 _ _ (by (first | lia | omega))) (fun _ _ _ _ e => lawLoop_it e) fun h' t' c al => ?_
    have hd : (D.map (·.1)).drop p = [] := by simp; (first | lia | omega)
    obtain ⟨e1, x1⟩ := X.xda
    obtain ⟨e2, x2⟩ := X.xnl
    obtain ⟨e3, x3⟩ := X.xhl
    rw [hd] at Y
    refine Y h' t' tt v1 v2 v3 v4 N H ⟨X.xfr.kp c (by simp; (first | lia | omega)), ⟨e1, c.kp x1 (by simp; (first | lia | omega))⟩, c.kp X.xcn (by simp; (first | lia | omega)), c.kp X.xch (by simp; (first | lia | omega)), ⟨e2, c.kp x2 (by simp; (first | lia | omega))⟩, ⟨e3, c.kp x3 (by simp; (first | lia | omega))⟩⟩ (by simp [namesGo]) (by simp [hoursGo]) (c.drop fun b hb hn => by simp at hb hn; (first | lia | omega))
  | succ m ih =>
    intro p l tt v1 v2 v3 v4 N H h t₀ hp hpm hne hl' hN hH T X xit Y
    have hlt : p < D.length := by (first | lia | omega)
    have hx : D[p]? = some D[p] := List.getElem?_eq_getElem hlt
    have hd : (D.map (·.1)).drop p = D[p].1 :: (D.map (·.1)).drop (p + 1) := by
      rw [List.drop_eq_getElem_cons (by simpa using hlt)]; simp
    obtain ⟨aux, ep, x0⟩ := X.xfr
    obtain ⟨ed, x1⟩ := X.xda
    obtain ⟨en, x2⟩ := X.xnl
    obtain ⟨eh, x3⟩ := X.xhl
    have o := hok p D[p] hp hx
    obtain ⟨f1, f2, f3, g1, g2, g3⟩ := fig_ok D[p].1
    have pre : Pre top h (ledT fr it (vsX sl da l tt [v1, v2, v3, v4]) aux ep (.ofNat p) (.ofNat (m + 1)) da D ed nl (nvs N) en hl H eh) := by
      refine pre_mk T ?_ ?_ ?_
      · intro q hq
        simp only [ledT, List.mem_cons, List.not_mem_nil, or_false] at hq
        rcases hq with rfl | rfl | rfl | rfl | rfl | rfl | rfl
        · exact x0
        · exact xit
        · exact x1
        · exact X.xcn
        · exact X.xch
        · exact x2
        · exact x3
      · simp [ledT]; (first | lia | omega)
      · intro q hq
        simp [ledT] at hq
        (first | lia | omega)
    refine code_again pre sep hP a (by (first | lia | omega)) (ok_for (La.isf 0 _ _ (by (first | lia | omega)))) (Z.turn o _ t₀ fr it sl da l tt v1 v2 v3 v4 aux ep m D ed nl (nvs N) en hl H eh D[p].1 D[p].2) (txC_ok t₀ hne (by (first | lia | omega)) g1 g2 g3 (by (first | lia | omega)) (by (first | lia | omega)) (by simp [nvs]; (first | lia | omega)) (by (first | lia | omega)) f1 f2 f3 (by simp [hx])) fun h1 B1 => ?_
    have c1 : Chg h h1 [fr, it, nl, hl] := B1.chg.drop fun b hb hn => by
      simp only [ledT, List.map_cons, List.map_nil, List.mem_cons, List.not_mem_nil, or_false, not_or] at hb hn
      rcases hb with rfl | rfl | rfl | rfl | rfl | rfl | rfl
      · exact absurd rfl hn.1
      · exact absurd rfl hn.2.1
      · exact same_of x1 (B1.at 1 rfl)
      · exact same_of X.xcn (B1.at 4 rfl)
      · exact same_of X.xch (B1.at 5 rfl)
      · exact absurd rfl hn.2.2.1
      · exact absurd rfl hn.2.2.2
    have T1 : TopOk top h1 := T.chg sep c1 (by intro b hb; simp at hb; (first | lia | omega))
    have fl := finL_len l p g1 g2 g3
    have hit : h1.get? it = some (riO (.ofNat (p + 1)) (.ofNat m) 1) := by
      have q := B1.at 0 rfl
      have e1 : Int.ofNat (m + 1) - 1 = Int.ofNat m := by simp
      rw [e1] at q
      exact q
    have X1 : TxSt h1 fr da nl hl D (N ++ [(⟨⟨nameL p (figK D[p].1)⟩⟩, t₀ + tkT (figK D[p].1) (figG D[p].1) (figB D[p].1) 3)]) (H ++ [(1 + .ofNat (occN (midL l p (figK D[p].1) (figG D[p].1) (figB D[p].1)) [10]), t₀ + tkT (figK D[p].1) (figG D[p].1) (figB D[p].1) 5)]) (vsX sl da (finL l p (figK D[p].1) (figG D[p].1) (figB D[p].1)) (t₀ + tkT (figK D[p].1) (figG D[p].1) (figB D[p].1) 2) (exT (.ofNat p) t₀ D[p].1 D[p].2 (nameL p (figK D[p].1)) (t₀ + tkT (figK D[p].1) (figG D[p].1) (figB D[p].1) 3) (gapL (figG D[p].1) (figB D[p].1)) (t₀ + tkT (figK D[p].1) (figG D[p].1) (figB D[p].1) 4))) := by
      refine ⟨B1.dicAt 0 rfl, ⟨ed, B1.at 1 rfl⟩, B1.at 4 rfl, B1.at 5 rfl, ⟨en + 1, ?_⟩, ⟨eh + 1, ?_⟩⟩
      · have q := B1.at 2 rfl
        rw [q]; simp [nvs]
      · have q := B1.at 3 rfl
        rw [q]; simp
    refine ih (p + 1) _ _ _ _ _ _ _ _ h1 _ (by (first | lia | omega)) (by (first | lia | omega)) fl.2 (by (first | lia | omega)) (by simp; (first | lia | omega)) (by simp; (first | lia | omega)) T1 X1 hit fun h2 t2 tt2 w1 w2 w3 w4 N2 H2 X2 n2 m2 c2 => ?_
    rw [hd] at Y
    refine Y h2 t2 tt2 w1 w2 w3 w4 N2 H2 X2 ?_ ?_ ((c1.trans c2).drop fun b hb hn => by simp at hb hn; (first | lia | omega))
    · rw [n2]; simp [namesGo]
    · rw [m2]; simp [hoursGo]
end
end
end Mine

end
section
open PySem PySem.W PySem.W.X PyProof.Rows
set_option maxRecDepth 100000
set_option Elab.async false
set_option maxHeartbeats 2000000
set_option genInjectivity false
set_option genSizeOfSpec false
namespace Mine
noncomputable section
/-! the reading loop -/
noncomputable def mOf (g b : Nat) : Nat := match b with
  | 0 => 0
  | _ => match g with
    | 0 => 2
    | _ => 1
noncomputable def okA (p k g b : Nat) : Prop := (p = 0 ∧ k = 0 ∧ g = 1 ∧ b = 1) ∨ okT p k g b
noncomputable def okL (p : Nat) (lead : List Nat) : Prop := (p = 0 ∧ lead = []) ∨ (1 ≤ p ∧ p ≤ 3 ∧ lead ≠ []) ∨ (p = 4 ∧ lead = []) ∨ 5 ≤ p
theorem TkRuns.turn {P : Params} {top : Nat → Option Obj} (Z : TkRuns P top) {p k g b : Nat} {lead : List Nat} (o : okA p k g b) (ol : okL p lead) : tkTurn P top p k (mOf g b) (!lead.isEmpty) := by
  have ne : ∀ l : List Nat, l ≠ [] → (!l.isEmpty) = true := fun l h => by cases l with | nil => exact absurd rfl h | cons => rfl
  rcases o with ⟨rfl, rfl, rfl, rfl⟩ | ⟨rfl, rfl, rfl, rfl⟩ | ⟨rfl, rfl, rfl, rfl⟩ | ⟨rfl, rfl, rfl, rfl⟩ | ⟨h1, h2, h3, h4, h5⟩
  · rcases ol with ⟨_, rfl⟩ | ⟨h, _⟩ | ⟨h, _⟩ | h
    · exact Z.t0
    · (first | lia | omega)
    · (first | lia | omega)
    · (first | lia | omega)
  · rcases ol with ⟨h, _⟩ | ⟨_, _, h⟩ | ⟨h, _⟩ | h
    · (first | lia | omega)
    · rw [ne _ h]; exact Z.t1
    · (first | lia | omega)
    · (first | lia | omega)
  · rcases ol with ⟨h, _⟩ | ⟨_, _, h⟩ | ⟨h, _⟩ | h
    · (first | lia | omega)
    · rw [ne _ h]; exact Z.t2
    · (first | lia | omega)
    · (first | lia | omega)
  · rcases ol with ⟨h, _⟩ | ⟨_, _, h⟩ | ⟨h, _⟩ | h
    · (first | lia | omega)
    · rw [ne _ h]; exact Z.t3
    · (first | lia | omega)
    · (first | lia | omega)
  · have hm : mOf g b < 3 := by unfold mOf; split <;> (try split) <;> (first | lia | omega)
    have : p = 4 ∨ p = 5 ∨ p = 6 := by (first | lia | omega)
    rcases this with rfl | rfl | rfl
    · rcases ol with ⟨h, _⟩ | ⟨_, h, _⟩ | ⟨_, rfl⟩ | h
      · (first | lia | omega)
      · (first | lia | omega)
      · exact Z.t4 k _ h3 hm
      · (first | lia | omega)
    · exact Z.t5 k _ _ h3 hm
    · exact Z.t6 k _ _ h3 hm
theorem okL_next {p k g b : Nat} (o : okA p k g b) : okL (p + 1) (gapL g b) := by
  rcases o with ⟨rfl, rfl, rfl, rfl⟩ | ⟨rfl, rfl, rfl, rfl⟩ | ⟨rfl, rfl, rfl, rfl⟩ | ⟨rfl, rfl, rfl, rfl⟩ | ⟨h1, h2, h3, h4, h5⟩
  · exact .inr (.inl ⟨by (first | lia | omega), by (first | lia | omega), by simp [gapL]⟩)
  · exact .inr (.inl ⟨by (first | lia | omega), by (first | lia | omega), by simp [gapL, nlsL]⟩)
  · exact .inr (.inl ⟨by (first | lia | omega), by (first | lia | omega), by simp [gapL, nlsL]⟩)
  · exact .inr (.inr (.inl ⟨rfl, rfl⟩))
  · exact .inr (.inr (.inr (by (first | lia | omega))))
theorem gap_ws (g b : Nat) : ∀ c ∈ gapL g b, c = 10 ∨ c = 32 := by
  intro c hc
  unfold gapL at hc
  split at hc
  · rcases List.mem_append.mp hc with h | h
    · unfold nlsL at h
      split at h <;> simp at h <;> (first | lia | omega)
    · simp at h; (first | lia | omega)
  · split at hc <;> simp at hc <;> (first | lia | omega)
noncomputable def restGo (p : Nat) (lead : List Nat) : List Int → List Nat
  | [] => lead
  | x :: r => lead ++ (tkL p (figK x) (mOf (figG x) (figB x)) ++ restGo (p + 1) (gapL (figG x) (figB x)) r)
noncomputable def lineGo (p : Nat) (ln : Int) (lead : List Nat) : List Int → List Int
  | [] => []
  | x :: r => (ln + (nlc lead : Int) + (nlK (figK x) (mOf (figG x) (figB x)) : Int)) :: lineGo (p + 1) (ln + (nlc lead : Int) + (nlK (figK x) (mOf (figG x) (figB x)) : Int)) (gapL (figG x) (figB x)) r
section
variable {P : Params} {top : Nat → Option Obj} {w : World} {A : Around} {R : Result → Shared → Prop} {g : Array GenState} {dr : Drawn} {os : OsState}
theorem read_loop (hP : P = w.params) (Lb : LbRuns P top) (La : LaRuns P top) (Gt : GtRuns P top) (Tk : TkRuns P top) (Zd : DuRuns P top) (sep : TopSep top) {nr : Nat} (a : Rm A nr) (ha : nr ≤ 350) {fr it jl : Nat} {D : List (Int × Nat)} {Z : GS} (hD : D.length ≤ 7) (low : 143 ≤ fr) (o1 : ∀ a ∈ Z.adrs, fr < a ∧ a < jl) (o2 : jl < it) (hok : ∀ j x, D[j]? = some x → okA j (figK x.1) (figG x.1) (figB x.1)) :
    ∀ (m p : Nat) (S : F7) (ex : Option Value) (ln : Int) (lead : List Nat) (rs : List (Nat × Nat)) (tl : List Nat) (js : List Job) (ej : Nat) (h : Heap) (t₀ : Nat), p + m = D.length → okL p lead → (∀ c ∈ lead, c = 10 ∨ c = 32) → rs.length ≤ 1000 → rs.map (·.1) = restGo p lead ((D.map (·.1)).drop p) → js.length ≤ p → (m = 0 → ex ≠ none) → TopOk top h → it < h.objs.size → IsDic h fr "frame" (vsL (S.vs ([.ref Z.lx, .ref jl] ++ exW ex))) → h.get? it = some (riO (.ofNat p) (.ofNat m) 1) → LexSt top h Z ln rs → Jobs h jl tl js ej → (∀ t ∈ tl, it < t) →
      (∀ h' t' (S' : F7) wd ln' lead' rs' tl' js' ej', S'.sl = S.sl → S'.dr = S.dr → IsDic h' fr "frame" (vsL (S'.vs [.ref Z.lx, .ref jl, wd])) → LexSt top h' Z ln' rs' → rs'.map (·.1) = lead' → (∀ c ∈ lead', c = 10 ∨ c = 32) → rs'.length ≤ 1000 → Jobs h' jl tl' js' ej' → hrs js' = hrs js ++ lineGo p ln lead ((D.map (·.1)).drop p) → nms js' = nms js ++ (namesGo p ((D.map (·.1)).drop p)).map (fun l => ⟨⟨l⟩⟩) → Chg h h' [fr, it, jl, Z.ld, Z.sg] → (∀ t ∈ tl', it < t) → R (.ok .next) ⟨h', g, dr, t', os⟩) →
      codeAny (Md w) A (lawLoop top 1 fr it) R ⟨h, g, dr, t₀, os⟩ := by
  have lowZ : Z.ld ∈ Z.adrs ∧ Z.sg ∈ Z.adrs ∧ Z.lx ∈ Z.adrs := by simp [GS.adrs]
  have oz := o1 _ lowZ.1
  have oz2 := o1 _ lowZ.2.1
  have oz3 := o1 _ lowZ.2.2
  intro m
  induction m with
  | zero =>
    intro p S ex ln lead rs tl js ej h t₀ hpm ol hlead hrl hrs hjs hex T hsz xfr xit X J htl Y
    refine for_endR hP Zd sep T a (by (first | lia | omega)) xit (by (first | lia | omega)) (La.isf 1 _ _ (by (first | lia | omega))) (fun _ _ _ _ e => lawLoop_it e) fun h' t' c al => ?_
    have hd : (D.map (·.1)).drop p = [] := by simp; (first | lia | omega)
    rw [hd] at Y hrs
    cases ex with
    | none => exact absurd rfl (hex rfl)
    | some wd =>
      refine Y h' t' S wd ln lead rs tl js ej rfl rfl (xfr.kp c (by simp; (first | lia | omega))) (X.chg c fun b hb => by have := o1 b hb; simp; (first | lia | omega)) hrs hlead hrl (J.chg c (by simp; (first | lia | omega)) fun t ht => by have := htl t ht; simp; (first | lia | omega)) (by simp [lineGo]) (by simp [namesGo]) (c.drop fun b hb hn => by simp at hb hn; (first | lia | omega)) htl
  | succ m ih =>
    intro p S ex ln lead rs tl js ej h t₀ hpm ol hlead hrl hrs hjs hex T hsz xfr xit X J htl Y
    have hlt : p < D.length := by (first | lia | omega)
    have hx : D[p]? = some D[p] := List.getElem?_eq_getElem hlt
    have hd : (D.map (·.1)).drop p = D[p].1 :: (D.map (·.1)).drop (p + 1) := by
      rw [List.drop_eq_getElem_cons (by simpa using hlt)]; simp
    have o := hok p D[p] hx
    obtain ⟨aux, ep, x0⟩ := xfr
    obtain ⟨tln, aux2, ep2, x2⟩ := X.ld
    have nd := X.nd
    have n1 : Z.lx ≠ Z.ld := by
      simp only [GS.adrs, List.nodup_cons, List.mem_cons, List.not_mem_nil, or_false, not_or] at nd
      exact nd.1.1
    have pre : Pre top h [(fr, frO (S.vs ([.ref Z.lx, .ref jl] ++ exW ex)) aux ep), (Z.lx, lxO Z.ld), (Z.ld, dicF "dict" (Z.vd ln tln) aux2 ep2), (it, riO (.ofNat p) (.ofNat (m + 1)) 1)] := by
      refine pre_mk T ?_ ?_ ?_
      · intro q hq
        simp only [List.mem_cons, List.not_mem_nil, or_false] at hq
        rcases hq with rfl | rfl | rfl | rfl
        · exact x0
        · exact X.lx
        · exact x2
        · exact xit
      · simp [n1]; (first | lia | omega)
      · intro q hq
        simp at hq
        (first | lia | omega)
    refine code_stop pre sep hP a (by (first | lia | omega)) (ok_for (La.isf 1 _ _ (by (first | lia | omega)))) (Lb.c1 _ t₀ fr it S Z jl ex aux ep aux2 ep2 ln tln (.ofNat p) m) trivial fun h1 B1 A1 a1 => ?_
    have c1 : Chg h h1 [fr, it] := B1.chg.drop fun b hb hn => by
      simp only [List.map_cons, List.map_nil, List.mem_cons, List.not_mem_nil, or_false, not_or] at hb hn
      rcases hb with rfl | rfl | rfl | rfl
      · exact absurd rfl hn.1
      · exact same_of X.lx (B1.at 0 rfl)
      · exact same_of x2 (B1.at 2 rfl)
      · exact absurd rfl hn.2
    have s1 := B1.size
    have T1 : TopOk top h1 := T.chg sep c1 (by intro b hb; simp at hb; (first | lia | omega))
    have X1 : LexSt top h1 Z ln rs := X.chg c1 fun b hb => by have := o1 b hb; simp; (first | lia | omega)
    have J1 : Jobs h1 jl tl js ej := J.chg c1 (by simp; (first | lia | omega)) fun t ht => by have := htl t ht; simp; (first | lia | omega)
    have hit1 : h1.get? it = some (riO (.ofNat (p + 1)) (.ofNat m) 1) := by
      have q := B1.at 1 rfl
      have e1 : Int.ofNat (m + 1) - 1 = Int.ofNat m := by simp
      rw [e1] at q
      exact q
    have xf1 := B1.dicAt 0 rfl
    rw [hd] at hrs
    refine gt_spec hP Gt sep T1 a1 (by (first | lia | omega)) (Tk.turn o ol) (by (first | lia | omega)) hlead hrs hrl X1 fun h2 t2 tn X2 c2 => ?_
    have T2 : TopOk top h2 := T1.chg sep c2 (by intro b hb; simp at hb; (first | lia | omega))
    obtain ⟨aux3, ep3, xf2⟩ := xf1.kp c2 (by simp; (first | lia | omega))
    obtain ⟨tl2, aux4, ep4, xd2⟩ := X2.ld
    have J2 : Jobs h2 jl tl js ej := J1.chg c2 (by simp; (first | lia | omega)) fun t ht => by have := htl t ht; simp; (first | lia | omega)
    have hit2 := c2.kp hit1 (by simp; (first | lia | omega))
    have s2 := c2.size
    have pre2 : Pre top h2 [(fr, frO ([.ref S.sl, .ref S.dr, .str ⟨⟨S.l⟩⟩ S.tt, .int (.ofNat p) t₀, S.v2, S.v3, S.v4, .ref Z.lx, .ref jl] ++ exW ex) aux3 ep3), (Z.lx, lxO Z.ld), (Z.ld, dicF "dict" (Z.vd (ln + (nlc lead : Int) + (nlK (figK D[p].1) (mOf (figG D[p].1) (figB D[p].1)) : Int)) tl2) aux4 ep4), (jl, lsO (rfs tl) ej)] := by
      refine pre_mk T2 ?_ ?_ ?_
      · intro q hq
        simp only [List.mem_cons, List.not_mem_nil, or_false] at hq
        rcases hq with rfl | rfl | rfl | rfl
        · exact xf2
        · exact X2.lx
        · exact xd2
        · exact J2.list
      · simp [n1]; (first | lia | omega)
      · intro q hq
        simp at hq
        (first | lia | omega)
    refine res_again pre2 sep hP a (by (first | lia | omega)) (Lb.c2 _ t₀ fr it S Z jl ex aux ep aux2 ep2 ln tln (.ofNat p) m _ t2 aux3 ep3 aux4 ep4 _ tl2 _ tl ej _ tn) ⟨by have := J2.len; simp; (first | lia | omega), trivial⟩ fun h3 B3 => ?_
    have c3 : Chg h2 h3 [fr, jl] := B3.chg.drop fun b hb hn => by
      simp only [List.map_cons, List.map_nil, List.mem_cons, List.not_mem_nil, or_false, not_or] at hb hn
      rcases hb with rfl | rfl | rfl | rfl
      · exact absurd rfl hn.1
      · exact same_of X2.lx (B3.at 2 rfl)
      · exact same_of xd2 (B3.at 3 rfl)
      · exact absurd rfl hn.2
    have s3 := B3.size
    have T3 : TopOk top h3 := T2.chg sep c3 (by intro b hb; simp at hb; (first | lia | omega))
    have X3 := X2.chg c3 fun b hb => by have := o1 b hb; simp; (first | lia | omega)
    have J3 : Jobs h3 jl (tl ++ [h2.objs.size]) (js ++ [((ln + (nlc lead : Int) + (nlK (figK D[p].1) (mOf (figG D[p].1) (figB D[p].1)) : Int), tl2), (⟨⟨nameL p (figK D[p].1)⟩⟩, tn))]) (ej + 1) := by
      refine J2.snoc ?_ (fun t ht o' ho' => c3.kp ho' (by have := htl t ht; simp; (first | lia | omega))) (B3.at 1 rfl) (by (first | lia | omega))
      have q := B3.at 0 rfl
      rw [q]; simp
    have hcc : Chg h h3 [fr, it, jl, Z.ld, Z.sg] := ((c1.trans c2).trans c3).drop fun b hb hn => by simp at hb hn; (first | lia | omega)
    refine ih (p + 1) ⟨S.sl, S.dr, S.l, S.tt, .int (.ofNat p) t₀, S.v2, S.v3, S.v4⟩ (some (.str ⟨⟨nameL p (figK D[p].1)⟩⟩ tn)) _ (gapL (figG D[p].1) (figB D[p].1)) _ _ _ _ h3 _ (by (first | lia | omega)) (okL_next o) (gap_ws _ _) (by simp; (first | lia | omega)) ?_ (by simp; (first | lia | omega)) (fun _ e => nomatch e) T3 (by (first | lia | omega)) (B3.dicAt 0 rfl) (c3.kp hit2 (by simp; (first | lia | omega))) X3 J3 ?_ fun h4 t4 S4 wd ln4 lead4 rs4 tl4 js4 ej4 g1 g2 g3 g4 g5 g6 g7 g8 g9 g10 g11 g12 => ?_
    · rw [List.map_drop, hrs]
      simp only [restGo]
      rw [← List.append_assoc, List.drop_left' (by simp)]
    · intro t ht
      rcases List.mem_append.mp ht with ht | ht
      · exact htl t ht
      · simp at ht; (first | lia | omega)
    · rw [hd] at Y
      refine Y h4 t4 S4 wd ln4 lead4 rs4 tl4 js4 ej4 g1 g2 g3 g4 g5 g6 g7 g8 ?_ ?_ ((hcc.trans g11).drop fun b hb hn => by simp at hb hn; (first | lia | omega)) g12
      · rw [g9]; simp [lineGo]
      · rw [g10]; simp [namesGo]
end
end
end Mine

end
section
open PySem PySem.W PySem.W.X PyProof.Rows
set_option maxRecDepth 100000
set_option Elab.async false
set_option maxHeartbeats 2000000
set_option genInjectivity false
set_option genSizeOfSpec false
namespace Mine
noncomputable section
/-! the pure law of the text: read as it was drawn -/
open PySem.StrLaws PySem.Builtin.Str in
theorem occ1 (l : List Nat) : ∀ (k i : Nat) (st : Array Nat × Nat), i + k = l.length + 1 → st.2 ≤ i → st.1.size ≤ i → ((forIn (List.range' i k) st (occBody ⟨⟨l⟩⟩ ⟨⟨[10]⟩⟩ l.length (l.length + 1))).run.fst).size = st.1.size + nlc (l.drop i) := by
  intro k
  induction k with
  | zero =>
    intro i st hi h1 h2
    have : l.drop i = [] := by simp; (first | lia | omega)
    rw [this]
    simp [nlc]
  | succ k ih =>
    intro i st hi h1 h2
    rw [List.range'_succ, List.forIn_cons]
    unfold occBody
    by_cases hlt : i < l.length
    · have hd : l.drop i = l[i] :: l.drop (i + 1) := List.drop_eq_getElem_cons hlt
      have hs : subAt ⟨⟨l⟩⟩ ⟨⟨[10]⟩⟩ i = (l[i] == 10) := by
        show ((⟨l⟩ : Array Nat).extract i (i + 1) == (⟨[10]⟩ : Array Nat)) = _
        have e : (⟨l⟩ : Array Nat).extract i (i + 1) = ⟨[l[i]]⟩ := by
          apply Array.ext'
          rw [Array.toList_extract]
          show (l.drop i).take (i + 1 - i) = [l[i]]
          rw [hd, Nat.add_sub_cancel_left]
          rfl
        rw [e, Bool.eq_iff_iff, beq_iff_eq (α := Array Nat), beq_iff_eq]
        exact ⟨fun q => (List.cons.inj (Array.mk.inj q)).1, fun q => by rw [q]⟩
      by_cases hc : l[i] = 10
      · rw [if_pos ⟨⟨⟨by (first | lia | omega), h1⟩, by show i + 1 ≤ l.length; (first | lia | omega)⟩, by rw [hs]; simp [hc]⟩]
        have q := ih (i + 1) (st.1.push i, i + 1) (by (first | lia | omega)) (Nat.le_refl _) (by simp; (first | lia | omega))
        rw [hd, hc]
        show ((forIn (List.range' (i + 1) k) (st.1.push i, i + 1) (occBody ⟨⟨l⟩⟩ ⟨⟨[10]⟩⟩ l.length (l.length + 1))).run.fst).size = _
        rw [q]
        simp [nlc, nl1]; (first | lia | omega)
      · rw [if_neg (by intro z; have := z.2; rw [hs] at this; simp at this; exact hc this)]
        have q := ih (i + 1) (st.1, st.2) (by (first | lia | omega)) (by show st.2 ≤ i + 1; (first | lia | omega)) (by show st.1.size ≤ i + 1; (first | lia | omega))
        show ((forIn (List.range' (i + 1) k) (st.1, st.2) (occBody ⟨⟨l⟩⟩ ⟨⟨[10]⟩⟩ l.length (l.length + 1))).run.fst).size = _
        rw [q, hd]
        have : nl1 l[i] = 0 := by unfold nl1; split <;> simp_all
        simp [nlc, this]
    · rw [if_neg (by intro z; have := z.1.2; have e : (⟨⟨[10]⟩⟩ : Str).length = 1 := rfl; (first | lia | omega))]
      have q := ih (i + 1) (st.1, st.2) (by (first | lia | omega)) (by show st.2 ≤ i + 1; (first | lia | omega)) (by show st.1.size ≤ i + 1; (first | lia | omega))
      show ((forIn (List.range' (i + 1) k) (st.1, st.2) (occBody ⟨⟨l⟩⟩ ⟨⟨[10]⟩⟩ l.length (l.length + 1))).run.fst).size = _
      rw [q]
      have e1 : l.drop i = [] := by simp; (first | lia | omega)
      have e2 : l.drop (i + 1) = [] := by simp; (first | lia | omega)
      rw [e1, e2]
theorem occN_nl (l : List Nat) : occN l [10] = nlc l := by
  unfold occN
  rw [PySem.StrLaws.occ_eq]
  have q := occ1 l (l.length + 1) 0 (#[], 0) (by (first | lia | omega)) (Nat.le_refl _) (Nat.zero_le _)
  simp only [Nat.sub_zero, Array.length_toList]
  rw [q]
  simp
theorem nlc_app : ∀ (a b : List Nat), nlc (a ++ b) = nlc a + nlc b
  | [], b => by simp [nlc]
  | c :: a, b => by rw [List.cons_append, nlc, nlc, nlc_app a b]; (first | lia | omega)
theorem mid_is (l : List Nat) (p k g b : Nat) (hb : b < 2) : midL l p k g b = l ++ tkL p k (mOf g b) := by
  have : b = 0 ∨ b = 1 := by (first | lia | omega)
  rcases this with rfl | rfl
  · simp [midL, tkL, mOf]
  · match g with
    | 0 => simp [midL, tkL, mOf, g0L]
    | g + 1 => simp [midL, tkL, mOf, g0L]
theorem fin_is (l : List Nat) (p k g b : Nat) (hg : g < 3) (hb : b < 2) : finL l p k g b = l ++ tkL p k (mOf g b) ++ gapL g b := by
  rw [← mid_is l p k g b hb]
  have h2 : g = 0 ∨ g = 1 ∨ g = 2 := by (first | lia | omega)
  have h3 : b = 0 ∨ b = 1 := by (first | lia | omega)
  rcases h2 with rfl | rfl | rfl <;> rcases h3 with rfl | rfl <;> simp [finL, gapL]
theorem nlK_is (p k m : Nat) (hk : k < 4) (hm : m < 3) : nlc (tkL p k m) = nlK k m := by
  have h0 : nl1 (97 + p) = 0 := by unfold nl1; split <;> first | (first | lia | omega) | rfl
  have h1 : k = 0 ∨ k = 1 ∨ k = 2 ∨ k = 3 := by (first | lia | omega)
  have h2 : m = 0 ∨ m = 1 ∨ m = 2 := by (first | lia | omega)
  have n10 : nl1 10 = 1 := rfl
  have n34 : nl1 34 = 0 := rfl
  have n92 : nl1 92 = 0 := rfl
  have n32 : nl1 32 = 0 := rfl
  rcases h1 with rfl | rfl | rfl | rfl <;> rcases h2 with rfl | rfl | rfl <;> simp [tkL, repL, escL, bareL, bsL, nlK, nlc, h0, n10, n34, n92, n32]
theorem text_is : ∀ (ds : List Int) (p : Nat) (l lead : List Nat), textGo p (l ++ lead) ds = l ++ restGo p lead ds
  | [], p, l, lead => rfl
  | x :: r, p, l, lead => by
    obtain ⟨f1, f2, f3, g1, g2, g3⟩ := fig_ok x
    rw [textGo, restGo, fin_is _ _ _ _ _ g2 g3, text_is r (p + 1) _ _]
    simp
theorem mOf_lt (g b : Nat) : mOf g b < 3 := by unfold mOf; split <;> (try split) <;> (first | lia | omega)
theorem hours_is : ∀ (ds : List Int) (p : Nat) (l lead : List Nat), hoursGo p (l ++ lead) ds = lineGo p (1 + (nlc l : Int)) lead ds
  | [], p, l, lead => rfl
  | x :: r, p, l, lead => by
    obtain ⟨f1, f2, f3, g1, g2, g3⟩ := fig_ok x
    have e : (1 : Int) + .ofNat (occN (midL (l ++ lead) p (figK x) (figG x) (figB x)) [10]) = 1 + (nlc l : Int) + (nlc lead : Int) + (nlK (figK x) (mOf (figG x) (figB x)) : Int) := by
      rw [occN_nl, mid_is _ _ _ _ _ g3, nlc_app, nlc_app, nlK_is _ _ _ g1 (mOf_lt _ _)]
      show (1 : Int) + ((_ : Nat) : Int) = _
      push_cast
      (first | lia | omega)
    rw [hoursGo, lineGo, fin_is _ _ _ _ _ g2 g3, hours_is r (p + 1) _ _, e]
    congr 2
    rw [nlc_app, nlc_app, nlK_is _ _ _ g1 (mOf_lt _ _)]
    push_cast
    (first | lia | omega)
theorem line_up : ∀ (ds : List Int) (p : Nat) (ln : Int) (lead : List Nat), ∀ y ∈ lineGo p ln lead ds, ln ≤ y
  | [], _, _, _, y, hy => by simp [lineGo] at hy
  | x :: r, p, ln, lead, y, hy => by
    rw [lineGo] at hy
    rcases List.mem_cons.mp hy with rfl | hy
    · (first | lia | omega)
    · have := line_up r _ _ _ y hy
      (first | lia | omega)
theorem up_cons {a : Int} {l : List Int} (h : ∀ y ∈ l, a ≤ y) (u : Up l) : Up (a :: l) := by
  intro i j x y hij hi hj
  match i, j with
  | 0, 0 => simp at hi hj; (first | lia | omega)
  | 0, j + 1 =>
    simp at hi hj
    subst hi
    exact h y (List.mem_of_getElem? hj)
  | i + 1, 0 => (first | lia | omega)
  | i + 1, j + 1 => exact u i j x y (by (first | lia | omega)) (by simpa using hi) (by simpa using hj)
theorem line_Up : ∀ (ds : List Int) (p : Nat) (ln : Int) (lead : List Nat), Up (lineGo p ln lead ds)
  | [], _, _, _ => by intro i j x y _ hi; simp [lineGo] at hi
  | x :: r, p, ln, lead => by
    rw [lineGo]
    exact up_cons (fun y hy => line_up r _ _ _ y hy) (line_Up r _ _ _)
theorem line_len : ∀ (ds : List Int) (p : Nat) (ln : Int) (lead : List Nat), (lineGo p ln lead ds).length = ds.length
  | [], _, _, _ => rfl
  | x :: r, p, ln, lead => by rw [lineGo, List.length_cons, line_len r, List.length_cons]
theorem names_len : ∀ (ds : List Int) (p : Nat), (namesGo p ds).length = ds.length
  | [], _ => rfl
  | x :: r, p => by rw [namesGo, List.length_cons, names_len r, List.length_cons]
end
end Mine

end
section
open PySem PySem.W PySem.W.X PyProof.Rows
set_option maxRecDepth 100000
set_option Elab.async false
set_option maxHeartbeats 2000000
set_option genInjectivity false
set_option genSizeOfSpec false
namespace Mine
noncomputable section
/-! the parts of law -/
section
variable {P : Params} {top : Nat → Option Obj} {w : World} {A : Around} {R : Result → Shared → Prop} {g : Array GenState} {dr : Drawn} {os : OsState} {h : Heap} {t₀ : Nat} {L : Led}
section
variable {c c' : Code} {b : List Stmt} {env : Env} {Q : Flow → Shared → Prop} {q m i nr : Nat} {js ks : List Nat} {F : List (Nat × Option Obj)} {G : List (Nat × Option (Bool × Vs))} {cs : List Prop}
theorem own_stop (p : Pre top h L) (sep : TopSep top) (hP : P = w.params) (a : Rm A nr) (ha : nr ≤ 400) (hk : okCode c = true) (H : gTold P top L h.objs.size t₀ c (flowT (zwExecs b env)) q js ks (.call c') m i F G cs) (hc : AllC cs)
    (X : ∀ h', Behind h h' L m F G → ∀ A', Rm A' (nr + 5) → CallsTo (Md w) A' c' (Resume (gRun P top L h.objs.size t₀ c (flowT (zwExecs b env)) q) w A (okR Q)) ⟨h', g, dr, t₀ + i, os⟩) : OwnP w A c b env Q ⟨h, g, dr, t₀, os⟩ :=
  own_of_goal (goal_stop p sep hP a ha (stT_inv hk) rfl rfl rfl H hc X)
theorem own_fin {f : Flow} (p : Pre top h L) (sep : TopSep top) (hP : P = w.params) (a : Rm A nr) (ha : nr ≤ 400) (hk : okCode c = true) (H : gTold P top L h.objs.size t₀ c (flowT (zwExecs b env)) q js ks (.fin (.ok f)) m i F G cs) (hc : AllC cs)
    (X : ∀ h', Behind h h' L m F G → Q f ⟨h', g, dr, t₀ + i, os⟩) : OwnP w A c b env Q ⟨h, g, dr, t₀, os⟩ :=
  own_of_goal (goal_fin p sep hP (a.room ha) (stT_inv hk) rfl rfl rfl H hc X)
theorem val_fin {e : PySem.Expr} {v : Value} {Q : Value → Shared → Prop} (p : Pre top h L) (sep : TopSep top) (hP : P = w.params) (a : Rm A nr) (ha : nr ≤ 400) (hk : okCode c = true) (H : gTold P top L h.objs.size t₀ c (valT (zwEval e env)) q js ks (.fin (.ok (.ret v))) m i F G cs) (hc : AllC cs)
    (X : ∀ h', Behind h h' L m F G → Q v ⟨h', g, dr, t₀ + i, os⟩) : wpOwn (Md w) A c (eval e env) Q (fun _ _ => False) ⟨h, g, dr, t₀, os⟩ :=
  ownV_of_goal (goal_fin p sep hP (a.room ha) (stT_inv hk) rfl rfl rfl H hc X)
theorem val_stop {e : PySem.Expr} {Q : Value → Shared → Prop} (p : Pre top h L) (sep : TopSep top) (hP : P = w.params) (a : Rm A nr) (ha : nr ≤ 400) (hk : okCode c = true) (H : gTold P top L h.objs.size t₀ c (valT (zwEval e env)) q js ks (.call c') m i F G cs) (hc : AllC cs)
    (X : ∀ h', Behind h h' L m F G → ∀ A', Rm A' (nr + 5) → CallsTo (Md w) A' c' (Resume (gRun P top L h.objs.size t₀ c (valT (zwEval e env)) q) w A (valR Q)) ⟨h', g, dr, t₀ + i, os⟩) : wpOwn (Md w) A c (eval e env) Q (fun _ _ => False) ⟨h, g, dr, t₀, os⟩ :=
  ownV_of_goal (goal_stop p sep hP a ha (stT_inv hk) rfl rfl rfl H hc X)
theorem bool_fin {e : PySem.Expr} {v : Bool} {Q : Bool → Shared → Prop} (p : Pre top h L) (sep : TopSep top) (hP : P = w.params) (a : Rm A nr) (ha : nr ≤ 400) (hk : okCode c = true) (H : gTold P top L h.objs.size t₀ c (boolT (zwIsTrue e env (zwEval e env))) q js ks (.fin (.ok (.ret (.bool v)))) m i F G cs) (hc : AllC cs)
    (X : ∀ h', Behind h h' L m F G → Q v ⟨h', g, dr, t₀ + i, os⟩) : wpOwn (Md w) A c (PySem.isTrue e env (eval e env)) Q (fun _ _ => False) ⟨h, g, dr, t₀, os⟩ :=
  ownB_of_goal (goal_fin p sep hP (a.room ha) (stT_inv hk) rfl rfl rfl H hc X)
theorem bool_stop {e : PySem.Expr} {Q : Bool → Shared → Prop} (p : Pre top h L) (sep : TopSep top) (hP : P = w.params) (a : Rm A nr) (ha : nr ≤ 400) (hk : okCode c = true) (H : gTold P top L h.objs.size t₀ c (boolT (zwIsTrue e env (zwEval e env))) q js ks (.call c') m i F G cs) (hc : AllC cs)
    (X : ∀ h', Behind h h' L m F G → ∀ A', Rm A' (nr + 5) → CallsTo (Md w) A' c' (Resume (gRun P top L h.objs.size t₀ c (boolT (zwIsTrue e env (zwEval e env))) q) w A (boolR Q)) ⟨h', g, dr, t₀ + i, os⟩) : wpOwn (Md w) A c (PySem.isTrue e env (eval e env)) Q (fun _ _ => False) ⟨h, g, dr, t₀, os⟩ :=
  ownB_of_goal (goal_stop p sep hP a ha (stT_inv hk) rfl rfl rfl H hc X)
end
theorem pick3 (xs : List (Int × Nat)) : slicePick ⟨ivs xs⟩ none (some 3) none = ⟨ivs (xs.take 3)⟩ := by
  match xs with
  | [] => rfl
  | [a] =>
    unfold slicePick
    have hb : sliceBounds none (some 3) none (⟨ivs [a]⟩ : Array Value).size = (0, 1, 1) := by simp [sliceBounds]; (first | lia | omega)
    rw [hb]
    rfl
  | [a, b] =>
    unfold slicePick
    have hb : sliceBounds none (some 3) none (⟨ivs [a, b]⟩ : Array Value).size = (0, 2, 1) := by simp [sliceBounds]; (first | lia | omega)
    rw [hb]
    rfl
  | a :: b :: c :: r =>
    unfold slicePick
    have hb : sliceBounds none (some 3) none (⟨ivs (a :: b :: c :: r)⟩ : Array Value).size = (0, 3, 1) := by
      simp [sliceBounds]
      (first | lia | omega)
    rw [hb]
    rfl
theorem slice_call {l sl t e : Nat} {xs : List (Int × Nat)} (hl : h.get? l = some (lsO (ivs xs) e)) (hs : h.get? sl = some (slO t)) (hn : xs.length ≤ 1000)
    (X : ∀ h', h'.get? h.objs.size = some (lsO (ivs (xs.take 3)) 0) → Chg h h' [] → R (.ok (.ret (.ref h.objs.size))) ⟨h', g, dr, t₀, os⟩) : CallsTo (Md w) A (.call (.builtin "list.__getitem__") ⟨[.ref l, .ref sl], []⟩) R ⟨h, g, dr, t₀, os⟩ := by
  have hL : (⟨h, g, dr, t₀, os⟩ : Shared).heap.IsList l ⟨ivs xs⟩ := ⟨_, hl, rfl, e, rfl⟩
  have hTs : (⟨h, g, dr, t₀, os⟩ : Shared).TypeIs (.ref sl) "slice" := ⟨_, hs, rfl⟩
  refine callsTo_of_any (wpAny_call_entry slot_list_getitem hL.typeIs entry_list_getitem ?_ (args_list_getitem _ _))
  show wpAny _ _ (Builtin.List.listSubscript? (.ref sl) >>= _) _ _ _
  unfold Builtin.List.listSubscript?
  refine wpAny_bind (wpAny_bind (wpAny_specialOf hTs slice_no_index ?_))
  simp only [Option.isNone_none, if_true]
  refine wpAny_pure ?_
  show wpAny _ _ (typeOf (.ref sl) >>= _) _ _ _
  refine wpAny_bind (wpAny_typeOf hTs ?_)
  rw [if_neg (by decide), listSliceParts_eq]
  refine wpAny_bind (wpAny_bind (wpAny_field hs rfl (x := .none) rfl (wpAny_bind (wpAny_listPart (k := none) .none ?_))))
  show wpAny _ _ (if (rawPart none == rawInt 0) = true then _ else _) _ _ _
  rw [if_neg (show ¬ ((rawPart none == rawInt 0) = true) from Bool.false_ne_true)]
  refine wpAny_bind (wpAny_field hs rfl (x := .none) rfl (wpAny_bind (wpAny_listPart (k := none) .none ?_)))
  refine wpAny_bind (wpAny_field hs rfl (x := .int 3 t) rfl (wpAny_bind (wpAny_listPart (k := some 3) (.int 3 t) (wpAny_pure ?_))))
  refine wpAny_bind (m := Builtin.List.listItems (.ref l)) ?_
  unfold Builtin.List.listItems
  refine wpAny_bind (wpAny_seqItems hl rfl (wpAny_pure ?_))
  refine wpAny_bind (wpAny_of_eq (sliceIndices_raw none (some 3) none _ (by simp)) ?_)
  have hsz : (slicePick ⟨ivs xs⟩ none (some 3) none).size ≤ sizeLine := by
    refine Nat.le_trans (slicePick_size_le _ _ _ _) ?_
    rw [sizeLine_eq]; simp; (first | lia | omega)
  refine wpAny_bind (wpAny_newObj_type (wpAny_pure ⟨_, rfl, ?_⟩) hsz)
  have e1 := Heap.get?_push_size h (o := { cls := .type "list", data := .seq (slicePick ⟨ivs xs⟩ none (some 3) none) }) rfl
  have ez : (h.push { cls := .type "list", data := .seq (slicePick ⟨ivs xs⟩ none (some 3) none) }).objs.size = h.objs.size + 1 := Heap.size_push ..
  refine X (h.push { cls := .type "list", data := .seq (slicePick ⟨ivs xs⟩ none (some 3) none) }) ?_ ⟨by rw [ez]; exact Nat.le_succ _, fun b o hb _ => Heap.get?_push_of_some _ hb⟩
  rw [e1, pick3]
  rfl
end
end
end Mine

end
section
open PySem PySem.W PySem.W.X PyProof.Rows
set_option maxRecDepth 100000
set_option Elab.async false
set_option maxHeartbeats 2000000
set_option genInjectivity false
set_option genSizeOfSpec false
namespace Mine
noncomputable section
/-! the parts of law, one by one -/
section
variable {P : Params} {top : Nat → Option Obj} {w : World} {A : Around} {R : Result → Shared → Prop} {g : Array GenState} {dr : Drawn} {os : OsState} {h : Heap} {t₀ : Nat} {Q : Flow → Shared → Prop}
theorem part_a (hP : P = w.params) (La : LaRuns P top) (sep : TopSep top) (T : TopOk top h) {nr : Nat} (a : Rm A nr) (ha : nr ≤ 380) {fr sl e : Nat} {xs : List (Int × Nat)} (hsz : h.objs.size = fr + 5) (low : 143 ≤ sl ∧ sl < fr) (hf : IsDic h fr "frame" (vsL [.ref sl])) (hc1 : h.get? (fr + 1) = some (ceO none)) (hc2 : h.get? (fr + 2) = some (ceO none)) (hc3 : h.get? (fr + 3) = some (ceO none)) (hc4 : h.get? (fr + 4) = some (ceO none)) (hsl : h.get? sl = some (lsO (ivs xs) e)) (hn : xs.length ≤ 1000)
    (Y : ∀ h' t' M tM D da tt, D.map (·.1) = [13, 3, 7, 21] ++ (xs.take 3).map (·.1) → TxSt h' fr da (da + 1) (da + 2) D [] [] (vsX sl da [] tt []) → fr + 5 ≤ da → da + 2 < h'.objs.size → h'.get? (fr + 1) = some (ceO (some (.int M tM))) → Chg h h' [fr, fr + 1, fr + 2, fr + 3] → Q .next ⟨h', g, dr, t', os⟩) : OwnP w A (lawF top fr) (partB top 0 5) (lawE top fr) Q ⟨h, g, dr, t₀, os⟩ := by
  have so : Ds [sl, fr, fr + 1, fr + 2, fr + 3, fr + 4] := Asc.ds (f := 142) ⟨low.1, low.2, Nat.lt_succ_self _, Nat.lt_succ_self _, Nat.lt_succ_self _, Nat.lt_succ_self _, trivial⟩ (by decide)
  have zx0 : Ix [sl, fr, fr + 1, fr + 2, fr + 3, fr + 4] (sl) 0 := ix0
  have zx1 : Ix [sl, fr, fr + 1, fr + 2, fr + 3, fr + 4] (fr) 1 := ixs ix0
  have zx2 : Ix [sl, fr, fr + 1, fr + 2, fr + 3, fr + 4] (fr + 1) 2 := ixs (ixs ix0)
  have zx3 : Ix [sl, fr, fr + 1, fr + 2, fr + 3, fr + 4] (fr + 2) 3 := ixs (ixs (ixs ix0))
  have zx4 : Ix [sl, fr, fr + 1, fr + 2, fr + 3, fr + 4] (fr + 3) 4 := ixs (ixs (ixs (ixs ix0)))
  have zx5 : Ix [sl, fr, fr + 1, fr + 2, fr + 3, fr + 4] (fr + 4) 5 := ixs (ixs (ixs (ixs (ixs ix0))))
  obtain ⟨aux, ep, x0⟩ := hf
  have pre1 : Pre top h [(fr, frO [.ref sl] aux ep), (fr + 1, ceO none), (fr + 2, ceO none), (fr + 3, ceO none)] := by
    refine pre_mk T ?_ ?_ ?_
    · intro q hq
      simp only [List.mem_cons, List.not_mem_nil, or_false] at hq
      rcases hq with rfl | rfl | rfl | rfl
      · exact x0
      · exact hc1
      · exact hc2
      · exact hc3
    · simp
    · intro q hq
      simp at hq
      (first | lia | omega)
  refine own_stop pre1 sep hP a (by (first | lia | omega)) rfl (La.a1 _ t₀ fr sl aux ep) trivial fun h1 B1 A1 a1 => ?_
  have s1 := B1.size
  have k1 : Chg h h1 [fr] := Chg.cut B1.chg (by repeat' (first | exact Cut.nil | refine Cut.kept ix0 ?_ | refine Cut.kept (ixs ix0) ?_ | refine Cut.kept (ixs (ixs ix0)) ?_ | refine Cut.kept (ixs (ixs (ixs ix0))) ?_ | refine Cut.kept (ixs (ixs (ixs (ixs ix0)))) ?_ | refine Cut.kept (ixs (ixs (ixs (ixs (ixs ix0))))) ?_ | refine Cut.kept (ixs (ixs (ixs (ixs (ixs (ixs ix0)))))) ?_ | refine Cut.kept (ixs (ixs (ixs (ixs (ixs (ixs (ixs ix0))))))) ?_ | refine Cut.kept (ixs (ixs (ixs (ixs (ixs (ixs (ixs (ixs ix0)))))))) ?_ | refine Cut.same hc1 (B1.at 0 rfl) ?_ | refine Cut.same hc2 (B1.at 1 rfl) ?_ | refine Cut.same hc3 (B1.at 2 rfl) ?_ | refine Cut.fresh (by (first | lia | omega)) ?_))
  have T1 : TopOk top h1 := T.chg sep k1 (by intro b hb; simp at hb; (first | lia | omega))
  have al : Alive h1 := ⟨ceO none, by
    have e1 : h1.objs.size - 1 = fr + 4 := by (first | lia | omega)
    rw [e1]; exact k1.kp hc4 (by simp)⟩
  refine sum_spec a1.handled al (k1.kp hsl (by first | ((apply so.notin <;> repeat' (first | assumption | exact Ixs.nil | apply Ixs.cons | exact rfl)); done) | ((apply so.lows <;> repeat' (first | assumption | exact Ixs.nil | apply Ixs.cons | exact rfl)); done) | (simp; (first | lia | omega)))) fun h2 t2 M tM k2 => ?_
  have s2 := k2.size
  have T2 : TopOk top h2 := T1.chg sep k2 (by simp)
  obtain ⟨aux2, ep2, x2⟩ := (B1.dicAt 0 rfl : IsDic h1 fr _ _).kp k2 (by simp)
  have k12 : Chg h h2 [fr] := (by first | exact Chg.cut (k1.trans k2) (by (repeat' (first | exact Cut.nil | refine Cut.kept ix0 ?_ | refine Cut.kept (ixs ix0) ?_ | refine Cut.kept (ixs (ixs ix0)) ?_ | refine Cut.kept (ixs (ixs (ixs ix0))) ?_ | refine Cut.kept (ixs (ixs (ixs (ixs ix0)))) ?_ | refine Cut.kept (ixs (ixs (ixs (ixs (ixs ix0))))) ?_ | refine Cut.kept (ixs (ixs (ixs (ixs (ixs (ixs ix0)))))) ?_ | refine Cut.kept (ixs (ixs (ixs (ixs (ixs (ixs (ixs ix0))))))) ?_ | refine Cut.kept (ixs (ixs (ixs (ixs (ixs (ixs (ixs (ixs ix0)))))))) ?_ | refine Cut.fresh (by (first | lia | omega)) ?_)); done) | exact Chg.drop (k1.trans k2) fun b hb hn => by simp at hb hn; (first | lia | omega))
  have pre2 : Pre top h2 [(fr, frO [.ref sl] aux2 ep2), (fr + 1, ceO none), (sl, lsO (ivs xs) e)] := by
    refine pre_mk T2 ?_ ?_ ?_
    · intro q hq
      simp only [List.mem_cons, List.not_mem_nil, or_false] at hq
      rcases hq with rfl | rfl | rfl
      · exact x2
      · exact k12.kp hc1 (by simp)
      · exact k12.kp hsl (by first | ((apply so.notin <;> repeat' (first | assumption | exact Ixs.nil | apply Ixs.cons | exact rfl)); done) | ((apply so.lows <;> repeat' (first | assumption | exact Ixs.nil | apply Ixs.cons | exact rfl)); done) | (simp; (first | lia | omega)))
    · simp; (first | lia | omega)
    · intro q hq
      simp at hq
      (first | lia | omega)
  refine res_stopW pre2 sep hP a (by (first | lia | omega)) (La.a2 _ t₀ fr sl aux ep _ t2 aux2 ep2 M tM xs e) trivial fun h3 B3 A3 a3 => ?_
  have s3 := B3.size
  have k3 : Chg h2 h3 [fr, fr + 1] := Chg.cut B3.chg (by repeat' (first | exact Cut.nil | refine Cut.kept ix0 ?_ | refine Cut.kept (ixs ix0) ?_ | refine Cut.kept (ixs (ixs ix0)) ?_ | refine Cut.kept (ixs (ixs (ixs ix0))) ?_ | refine Cut.kept (ixs (ixs (ixs (ixs ix0)))) ?_ | refine Cut.kept (ixs (ixs (ixs (ixs (ixs ix0))))) ?_ | refine Cut.kept (ixs (ixs (ixs (ixs (ixs (ixs ix0)))))) ?_ | refine Cut.kept (ixs (ixs (ixs (ixs (ixs (ixs (ixs ix0))))))) ?_ | refine Cut.kept (ixs (ixs (ixs (ixs (ixs (ixs (ixs (ixs ix0)))))))) ?_ | refine Cut.same (k12.kp hsl (by first | ((apply so.notin <;> repeat' (first | assumption | exact Ixs.nil | apply Ixs.cons | exact rfl)); done) | ((apply so.lows <;> repeat' (first | assumption | exact Ixs.nil | apply Ixs.cons | exact rfl)); done) | (simp; (first | lia | omega)))) (B3.at 3 rfl) ?_ | refine Cut.fresh (by (first | lia | omega)) ?_))
  have T3 : TopOk top h3 := T2.chg sep k3 (by intro b hb; simp at hb; (first | lia | omega))
  refine slice_call (B3.at 3 rfl) (B3.at 2 rfl) hn fun h4 hsv k4 => ?_
  have T4 : TopOk top h4 := T3.chg sep k4 (by simp)
  have s4 : h3.objs.size < h4.objs.size := Heap.lt_size hsv
  obtain ⟨aux4, ep4, x4⟩ := (B3.dicAt 0 rfl : IsDic h3 fr _ _).kp k4 (by simp)
  have k24 : Chg h2 h4 [fr, fr + 1] := (by first | exact Chg.cut (k3.trans k4) (by (repeat' (first | exact Cut.nil | refine Cut.kept ix0 ?_ | refine Cut.kept (ixs ix0) ?_ | refine Cut.kept (ixs (ixs ix0)) ?_ | refine Cut.kept (ixs (ixs (ixs ix0))) ?_ | refine Cut.kept (ixs (ixs (ixs (ixs ix0)))) ?_ | refine Cut.kept (ixs (ixs (ixs (ixs (ixs ix0))))) ?_ | refine Cut.kept (ixs (ixs (ixs (ixs (ixs (ixs ix0)))))) ?_ | refine Cut.kept (ixs (ixs (ixs (ixs (ixs (ixs (ixs ix0))))))) ?_ | refine Cut.kept (ixs (ixs (ixs (ixs (ixs (ixs (ixs (ixs ix0)))))))) ?_ | refine Cut.fresh (by (first | lia | omega)) ?_)); done) | exact Chg.drop (k3.trans k4) fun b hb hn => by simp at hb hn; (first | lia | omega))
  have hfour : h4.get? h2.objs.size = some (lsO (ivs (fourL t2)) 0) := k4.kp (B3.at 1 rfl) (by simp)
  have pre3 : Pre top h4 [(fr, frO [.ref sl] aux4 ep4), (fr + 2, ceO none), (fr + 3, ceO none), (h2.objs.size, lsO (ivs (fourL t2)) 0), (h3.objs.size, lsO (ivs (xs.take 3)) 0)] := by
    refine pre_mk T4 ?_ ?_ ?_
    · intro q hq
      simp only [List.mem_cons, List.not_mem_nil, or_false] at hq
      rcases hq with rfl | rfl | rfl | rfl | rfl
      · exact x4
      · exact k24.kp (k12.kp hc2 (by simp)) (by simp)
      · exact k24.kp (k12.kp hc3 (by simp)) (by simp)
      · exact hfour
      · exact hsv
    · simp; (first | lia | omega)
    · intro q hq
      simp at hq
      (first | lia | omega)
  refine res_fin pre3 sep hP a (by (first | lia | omega)) (La.a3 (xs.take 3) (by first | ((apply so.notin <;> repeat' (first | assumption | exact Ixs.nil | apply Ixs.cons | exact rfl)); done) | ((apply so.lows <;> repeat' (first | assumption | exact Ixs.nil | apply Ixs.cons | exact rfl)); done) | (simp; (first | lia | omega))) _ t₀ fr sl aux ep _ t2 aux2 ep2 M tM xs e _ _ aux4 ep4 _ t2) trivial fun h5 B5 => ?_
  have s5 := B5.size
  have k5 : Chg h4 h5 [fr, fr + 2, fr + 3, h2.objs.size, h3.objs.size] := B5.chg
  have hM : h5.get? (fr + 1) = some (ceO (some (.int M tM))) := k5.kp (k4.kp (B3.at 0 rfl) (by simp)) (by first | ((apply so.notin <;> repeat' (first | assumption | exact Ixs.nil | apply Ixs.cons | exact rfl)); done) | ((apply so.lows <;> repeat' (first | assumption | exact Ixs.nil | apply Ixs.cons | exact rfl)); done) | (simp; (first | lia | omega)))
  refine Y h5 _ M tM (fourL t2 ++ xs.take 3) h4.objs.size _ (by simp [fourL]) ⟨B5.dicAt 0 rfl, ⟨0, B5.at 0 rfl⟩, B5.at 1 rfl, B5.at 2 rfl, ⟨0, B5.at 3 rfl⟩, ⟨0, B5.at 4 rfl⟩⟩ (by (first | lia | omega)) (by (first | lia | omega)) hM ?_
  exact ((k12.trans k24).trans k5).old fun b hb => by simp at hb ⊢; (first | lia | omega)
/-- the text loop from its first place on -/
theorem text_spec (hP : P = w.params) (Z : TxRuns P top) (La : LaRuns P top) (Zd : DuRuns P top) (sep : TopSep top) (T : TopOk top h) {nr : Nat} (a : Rm A nr) (ha : nr ≤ 380) {fr it da nl hl sl tt : Nat} {D : List (Int × Nat)} (hD : D.length ≤ 7) {ds : List Int} (h13 : D.map (·.1) = 13 :: ds) (low : 143 ≤ fr ∧ fr + 3 < da ∧ da < nl ∧ nl < hl ∧ hl < it) (hok : ∀ j x, 1 ≤ j → D[j]? = some x → okT j (figK x.1) (figG x.1) (figB x.1)) (X : TxSt h fr da nl hl D [] [] (vsX sl da [] tt [])) (xit : h.get? it = some (riO 0 (.ofNat D.length) 1))
    (Y : ∀ h' t' tt' w1 w2 w3 w4 N' H', TxSt h' fr da nl hl D N' H' (vsX sl da (textGo 0 [] (D.map (·.1))) tt' [w1, w2, w3, w4]) → N'.map (·.1) = (namesGo 0 (D.map (·.1))).map (fun l => ⟨⟨l⟩⟩) → H'.map (·.1) = hoursGo 0 [] (D.map (·.1)) → Chg h h' [fr, it, nl, hl] → R (.ok .next) ⟨h', g, dr, t', os⟩) :
    codeAny (Md w) A (lawLoop top 0 fr it) R ⟨h, g, dr, t₀, os⟩ := by
  have so : Ds [fr, fr + 1, fr + 2, fr + 3, da, nl, hl, it] := Asc.ds (f := 142) ⟨low.1, Nat.lt_succ_self _, Nat.lt_succ_self _, Nat.lt_succ_self _, low.2.1, low.2.2.1, low.2.2.2.1, low.2.2.2.2, trivial⟩ (by decide)
  have zx0 : Ix [fr, fr + 1, fr + 2, fr + 3, da, nl, hl, it] (fr) 0 := ix0
  have zx1 : Ix [fr, fr + 1, fr + 2, fr + 3, da, nl, hl, it] (fr + 1) 1 := ixs ix0
  have zx2 : Ix [fr, fr + 1, fr + 2, fr + 3, da, nl, hl, it] (fr + 2) 2 := ixs (ixs ix0)
  have zx3 : Ix [fr, fr + 1, fr + 2, fr + 3, da, nl, hl, it] (fr + 3) 3 := ixs (ixs (ixs ix0))
  have zx4 : Ix [fr, fr + 1, fr + 2, fr + 3, da, nl, hl, it] (da) 4 := ixs (ixs (ixs (ixs ix0)))
  have zx5 : Ix [fr, fr + 1, fr + 2, fr + 3, da, nl, hl, it] (nl) 5 := ixs (ixs (ixs (ixs (ixs ix0))))
  have zx6 : Ix [fr, fr + 1, fr + 2, fr + 3, da, nl, hl, it] (hl) 6 := ixs (ixs (ixs (ixs (ixs (ixs ix0)))))
  have zx7 : Ix [fr, fr + 1, fr + 2, fr + 3, da, nl, hl, it] (it) 7 := ixs (ixs (ixs (ixs (ixs (ixs (ixs ix0))))))
  obtain ⟨x, D', rfl⟩ : ∃ x D', D = x :: D' := by
    cases D with
    | nil => simp at h13
    | cons x D' => exact ⟨x, D', rfl⟩
  have hx : x.1 = 13 := by simp at h13; exact h13.1
  obtain ⟨aux, ep, x0⟩ := X.xfr
  obtain ⟨ed, x1⟩ := X.xda
  obtain ⟨en, x2⟩ := X.xnl
  obtain ⟨eh, x3⟩ := X.xhl
  have pre : Pre top h (ledT fr it (vsX sl da [] tt []) aux ep 0 (.ofNat (D'.length + 1)) da (x :: D') ed nl (nvs []) en hl [] eh) := by
    exact so.pre T ⟨x0, xit, x1, X.xcn, X.xch, x2, x3, trivial⟩ (by repeat' (first | assumption | exact Ixs.nil | apply Ixs.cons | exact rfl)) rfl
  refine code_again pre sep hP a (by (first | lia | omega)) (ok_for (La.isf 0 _ _ (by (first | lia | omega)))) (Z.t0 _ t₀ fr it sl da tt aux ep D'.length (x :: D') ed nl (nvs []) en hl [] eh x.1 x.2) ⟨by simp, by simp [nvs], by rw [hx]; decide, by rw [hx]; decide, by rw [hx]; decide, ⟨.inl ⟨by (first | lia | omega), by simp⟩, by (first | lia | omega), by (first | lia | omega), by simp at hD ⊢; (first | lia | omega)⟩, trivial⟩ fun h1 B1 => ?_
  have c1 : Chg h h1 [fr, it, nl, hl] := Chg.cut B1.chg (by repeat' (first | exact Cut.nil | refine Cut.kept ix0 ?_ | refine Cut.kept (ixs ix0) ?_ | refine Cut.kept (ixs (ixs ix0)) ?_ | refine Cut.kept (ixs (ixs (ixs ix0))) ?_ | refine Cut.kept (ixs (ixs (ixs (ixs ix0)))) ?_ | refine Cut.kept (ixs (ixs (ixs (ixs (ixs ix0))))) ?_ | refine Cut.kept (ixs (ixs (ixs (ixs (ixs (ixs ix0)))))) ?_ | refine Cut.kept (ixs (ixs (ixs (ixs (ixs (ixs (ixs ix0))))))) ?_ | refine Cut.kept (ixs (ixs (ixs (ixs (ixs (ixs (ixs (ixs ix0)))))))) ?_ | refine Cut.same x1 (B1.at 1 rfl) ?_ | refine Cut.same X.xcn (B1.at 4 rfl) ?_ | refine Cut.same X.xch (B1.at 5 rfl) ?_ | refine Cut.fresh (by (first | lia | omega)) ?_))
  have T1 : TopOk top h1 := T.chg sep c1 (by intro b hb; simp at hb; (first | lia | omega))
  have hit : h1.get? it = some (riO (.ofNat 1) (.ofNat D'.length) 1) := by
    have q := B1.at 0 rfl
    have e1 : Int.ofNat (D'.length + 1) - 1 = Int.ofNat D'.length := by simp
    rw [e1] at q
    exact q
  have X1 : TxSt h1 fr da nl hl (x :: D') [(⟨⟨[97]⟩⟩, t₀ + 4)] [(2, t₀ + 40)] (vsX sl da [92, 97, 10, 32] (t₀ + 41) (exT 0 t₀ x.1 x.2 [97] (t₀ + 4) [32] (t₀ + 35))) :=
    ⟨B1.dicAt 0 rfl, ⟨ed, B1.at 1 rfl⟩, B1.at 4 rfl, B1.at 5 rfl, ⟨en + 1, B1.at 2 rfl⟩, ⟨eh + 1, B1.at 3 rfl⟩⟩
  have hk : figK 13 = 0 ∧ figG 13 = 1 ∧ figB 13 = 1 := by decide
  have e1 : (((x :: D').map (·.1)).drop 1) = D'.map (·.1) := rfl
  refine text_loop hP Z La Zd sep a ha hD low hok D'.length 1 [92, 97, 10, 32] _ _ _ _ _ _ _ h1 _ (by (first | lia | omega)) (by first | ((apply so.notin <;> repeat' (first | assumption | exact Ixs.nil | apply Ixs.cons | exact rfl)); done) | ((apply so.lows <;> repeat' (first | assumption | exact Ixs.nil | apply Ixs.cons | exact rfl)); done) | (simp; (first | lia | omega))) (by simp) (by simp) (by simp) (by simp) T1 X1 hit fun h2 t2 tt2 w1 w2 w3 w4 N2 H2 X2 n2 m2 c2 => ?_
  rw [e1] at X2 n2 m2
  have f1 : textGo 0 [] ((x :: D').map (·.1)) = textGo 1 [92, 97, 10, 32] (D'.map (·.1)) := by
    rw [List.map_cons, hx, textGo, hk.1, hk.2.1, hk.2.2]; rfl
  have f2 : namesGo 0 ((x :: D').map (·.1)) = [97] :: namesGo 1 (D'.map (·.1)) := by
    rw [List.map_cons, hx, namesGo, hk.1]; rfl
  have f3 : hoursGo 0 [] ((x :: D').map (·.1)) = 2 :: hoursGo 1 [92, 97, 10, 32] (D'.map (·.1)) := by
    rw [List.map_cons, hx, hoursGo, hk.1, hk.2.1, hk.2.2, occN_nl]; rfl
  rw [f1, f2, f3] at Y
  exact Y h2 t2 tt2 w1 w2 w3 w4 N2 H2 X2 (by rw [n2]; rfl) (by rw [m2]; rfl) (by first | exact Chg.cut (c1.trans c2) (by (repeat' (first | exact Cut.nil | refine Cut.kept ix0 ?_ | refine Cut.kept (ixs ix0) ?_ | refine Cut.kept (ixs (ixs ix0)) ?_ | refine Cut.kept (ixs (ixs (ixs ix0))) ?_ | refine Cut.kept (ixs (ixs (ixs (ixs ix0)))) ?_ | refine Cut.kept (ixs (ixs (ixs (ixs (ixs ix0))))) ?_ | refine Cut.kept (ixs (ixs (ixs (ixs (ixs (ixs ix0)))))) ?_ | refine Cut.kept (ixs (ixs (ixs (ixs (ixs (ixs (ixs ix0))))))) ?_ | refine Cut.kept (ixs (ixs (ixs (ixs (ixs (ixs (ixs (ixs ix0)))))))) ?_ | refine Cut.fresh (by (first | lia | omega)) ?_)); done) | exact Chg.drop (c1.trans c2) fun b hb hn => by simp at hb hn; (first | lia | omega))
end
end
end Mine

end
section
open PySem PySem.W PySem.W.X PyProof.Rows
set_option maxRecDepth 100000
set_option Elab.async false
set_option maxHeartbeats 2000000
set_option genInjectivity false
set_option genSizeOfSpec false
namespace Mine
noncomputable section
/-! the loops over the desks' orders -/
noncomputable def headT (tg : PySem.Expr) (it : Value) (env : Env) : Sem Flow := do
  standAt tg.pos
  match ← (pyNext it).onRaise (fun _ => standAt { tg.pos with line := 0 }) with
  | none => pure .brk
  | some v =>
    letOwnedTupleGo tg it v
    assign tg env v
    pure .next
theorem headZ_is (tg : PySem.Expr) (it : Value) (env : Env) : headZ tg it env = headT tg it env := by
  unfold headZ headT
  simp only [bindR_is, PySem.W.R.onRaiseR_eq, ← ZFast.ze9404975358583537561, ← ZFast.ze1578499551869305889, ← ZFast.ze17772580674575903948]
  rfl
theorem turn_is (tg : PySem.Expr) (it : Value) (b : List Stmt) (env : Env) : forTurn tg it b [] env = (headT tg it env >>= fun f => match f with
    | .brk => again (.block [] env)
    | _ => do match ← execs b env with
      | .next | .cont => again (.forLoop tg it b [] env)
      | .brk => pure (.done .next)
      | .ret v => pure (.done (.ret v))) := by
  unfold forTurn headT
  simp only [bind_assoc]
  congr 1; funext _
  congr 1; funext r
  cases r with
  | none => rfl
  | some v =>
    simp only [bind_assoc, pure_bind]
    rfl
section
variable {P : Params} {top : Nat → Option Obj} {w : World} {A : Around} {R : Result → Shared → Prop} {g : Array GenState} {dr : Drawn} {os : OsState} {h : Heap} {t₀ : Nat}
theorem for_head {c : Code} {tg : PySem.Expr} {it : Value} {b : List Stmt} {env : Env} {s : Shared} (e : c = .forLoop tg it b [] env) (x : wpOwn (Md w) A c (headZ tg it env) (fun f s' => f = .next ∧ OwnP w A c b env (fun f' s'' => f' = .next ∧ codeAny (Md w) A c R s'') s') (fun _ _ => False) s) : codeAny (Md w) A c R s := by
  refine codeAny_of_own ?_
  have hd : (Md w).den c = (forTurn tg it b [] env).onRaise (fun x => do noteFrame x env; theTreesLotGoes x) := by rw [e]; rfl
  rw [hd]
  intro Γ p hc hΓ
  rw [Sem.wp_onRaise]
  have key : wpOwn (Md w) A c (forTurn tg it b [] env) (fun fin s' => match fin with | PySem.Fin.done f => R (.ok f) s' | PySem.Fin.again c' => c'.quiet = true ∧ codeAny (Md w) A c' R s') (fun _ _ => False) s := by
    rw [turn_is]
    rw [headZ_is] at x
    refine wpOwn_bind (wpOwn_mono x (fun f s' hf => ?_) fun _ _ q => q)
    obtain ⟨rfl, hf⟩ := hf
    show wpOwn _ _ _ (do match ← execs b env with | .next | .cont => again (.forLoop tg it b [] env) | .brk => pure (.done .next) | .ret v => pure (.done (.ret v))) _ _ _
    refine wpOwn_bind (wpOwn_mono hf (fun f s'' hf => ?_) fun _ _ q => q)
    obtain ⟨rfl, hf⟩ := hf
    rw [e] at hf ⊢
    exact fun _ _ _ _ => ⟨rfl, hf⟩
  exact Sem.wp_mono _ Γ _ (fun _ _ _ q => q) (fun _ _ _ q => q.elim) p s (key Γ p hc hΓ)
theorem head_fin {c : Code} {tg : PySem.Expr} {it : Value} {env : Env} {Q : Flow → Shared → Prop} {f : Flow} {L : Led} {q m i nr : Nat} {js ks : List Nat} {F : List (Nat × Option Obj)} {G : List (Nat × Option (Bool × Vs))} {cs : List Prop} (p : Pre top h L) (sep : TopSep top) (hP : P = w.params) (a : Rm A nr) (ha : nr ≤ 400) (hk : okCode c = true) (H : gTold P top L h.objs.size t₀ c (flowT (headZ tg it env)) q js ks (.fin (.ok f)) m i F G cs) (hc : AllC cs)
    (X : ∀ h', Behind h h' L m F G → Q f ⟨h', g, dr, t₀ + i, os⟩) : wpOwn (Md w) A c (headZ tg it env) Q (fun _ _ => False) ⟨h, g, dr, t₀, os⟩ := by
  have x : GoalP w A (okR Q) .base c (flowT (headZ tg it env)) ⟨h, g, dr, t₀, os⟩ := goal_fin p sep hP (a.room ha) (stT_inv hk) rfl rfl rfl H hc X
  intro Γ p hc hΓ
  have z := x Γ p hc hΓ
  unfold flowT at z
  rw [bindR_is, Sem.wp_bind'] at z
  exact Sem.wp_mono _ Γ _ (fun f p' s' h => h) (fun e p' s' h => h) p _ z
end
structure AllRuns (P : Params) (top : Nat → Option Obj) : Prop where
  s : Runs P top
  la : LaRuns P top
  lb : LbRuns P top
  lc : LcRuns P top
  ld : LdRuns P top
  lx : LxRuns P top
  gt : GtRuns P top
  cz : CzRuns P top
  tk : TkRuns P top
  tx : TxRuns P top
  du : DuRuns P top
noncomputable def exS : Option (Value × Option Value) → Option Value
  | none => none
  | some (_, o) => o
theorem exR1_is (v : Value) (ex : Option (Value × Option Value)) : exR1 v ex = exR0 (some (v, exS ex)) := by
  rcases ex with _ | ⟨_, _ | _⟩ <;> rfl
/-- what the loops over the orders lean on -/
structure Ord (h : Heap) (S : F12) (jjs jdu : List Job) (ca : Nat → Nat) (sa : Nat → Int) : Prop where
  jobs : ∃ tl e, Jobs h S.jl tl jjs e
  due : ∃ tl e, Jobs h S.du tl jdu e
  desks : ∃ d0 d1 d2 e tc ts, Desks h S.dl d0 d1 d2 e ca sa tc ts
  h97 : ∃ c1 c2, h.get? 97 = some (o97 c1 c2)
theorem Ord.chg {h h' : Heap} {S : F12} {jjs jdu : List Job} {ca : Nat → Nat} {sa : Nat → Int} (X : Ord h S jjs jdu ca sa) {fr : Nat} {it : Nat} (c : Chg h h' [fr, it]) (hfr : ∀ o, h.get? fr = some o → o.cls ≠ .type "list" ∧ o.cls ≠ .type "tuple" ∧ o.cls ≠ .none) (hit : ∀ o, h.get? it = some o → o.cls ≠ .type "list" ∧ o.cls ≠ .type "tuple" ∧ o.cls ≠ .none) : Ord h' S jjs jdu ca sa := by
  have key : ∀ b o, h.get? b = some o → (o.cls = .type "list" ∨ o.cls = .type "tuple" ∨ o.cls = .none) → h'.get? b = some o := fun b o hb hc => c.kp hb (by
    simp only [List.mem_cons, List.not_mem_nil, or_false, not_or]
    refine ⟨fun e => ?_, fun e => ?_⟩
    · subst e; have := hfr _ hb; rcases hc with q | q | q <;> simp_all
    · subst e; have := hit _ hb; rcases hc with q | q | q <;> simp_all)
  have jk : ∀ {l : Nat} {js : List Job}, (∃ tl e, Jobs h l tl js e) → ∃ tl e, Jobs h' l tl js e := fun ⟨tl, e, J⟩ => ⟨tl, e, key _ _ J.list (.inl rfl), J.low, J.len, fun k t j h1 h2 => ⟨key _ _ (J.tup k t j h1 h2).1 (.inr (.inl rfl)), (J.tup k t j h1 h2).2⟩⟩
  obtain ⟨d0, d1, d2, e, tc, ts, D⟩ := X.desks
  obtain ⟨c1, c2, x⟩ := X.h97
  exact ⟨jk X.jobs, jk X.due, ⟨d0, d1, d2, e, tc, ts, key _ _ D.list (.inl rfl), key _ _ D.t0 (.inr (.inl rfl)), key _ _ D.t1 (.inr (.inl rfl)), key _ _ D.t2 (.inr (.inl rfl)), D.low⟩, c1, c2, key _ _ x (.inr (.inr rfl))⟩
end
end Mine

end
section
open PySem PySem.W PySem.W.X PyProof.Rows
set_option maxRecDepth 100000
set_option Elab.async false
set_option maxHeartbeats 2000000
set_option genInjectivity false
set_option genSizeOfSpec false
namespace Mine
noncomputable section
theorem desk_up {c : Nat} {s : Int} (hc : 1 ≤ c) (hs : 0 ≤ s) {H : List Int} (u : Up (0 :: H)) : Up (0 :: deskGo c s [] H) := by
  obtain ⟨p, o⟩ := deskGo_ok hc hs H [] 0 (DeskOk.nil c s 0) (Int.le_refl 0) u
  exact up_cons (fun y hy => o.nn y hy) o.up
noncomputable def JobsAt (h : Heap) (l : Nat) (js : List Job) : Prop := ∃ tl e, Jobs h l tl js e
theorem fr_cls {h : Heap} {a : Nat} {vs : Vs} (hf : IsDic h a "frame" vs) : ∀ o, h.get? a = some o → o.cls ≠ .type "list" ∧ o.cls ≠ .type "tuple" ∧ o.cls ≠ .none := by
  obtain ⟨aux, ep, x⟩ := hf
  intro o ho
  rw [x] at ho
  cases ho
  have e : (dicF "frame" vs aux ep).cls = .type "frame" := rfl
  rw [e]
  refine ⟨?_, ?_, ?_⟩ <;> decide +kernel
theorem ri_cls {h : Heap} {a : Nat} {x n k : Int} (hf : h.get? a = some (riO x n k)) : ∀ o, h.get? a = some o → o.cls ≠ .type "list" ∧ o.cls ≠ .type "tuple" ∧ o.cls ≠ .none := by
  intro o ho
  rw [hf] at ho
  cases ho
  have e : (riO x n k).cls = .type "range_iterator" := rfl
  rw [e]
  refine ⟨?_, ?_, ?_⟩ <;> decide +kernel
theorem JobsAt.chg {h h' : Heap} {l : Nat} {js : List Job} (X : JobsAt h l js) {fr it : Nat} (c : Chg h h' [fr, it]) (hfr : ∀ o, h.get? fr = some o → o.cls ≠ .type "list" ∧ o.cls ≠ .type "tuple" ∧ o.cls ≠ .none) (hit : ∀ o, h.get? it = some o → o.cls ≠ .type "list" ∧ o.cls ≠ .type "tuple" ∧ o.cls ≠ .none) : JobsAt h' l js := by
  have key : ∀ b o, h.get? b = some o → (o.cls = .type "list" ∨ o.cls = .type "tuple" ∨ o.cls = .none) → h'.get? b = some o := fun b o hb hc => c.kp hb (by
    simp only [List.mem_cons, List.not_mem_nil, or_false, not_or]
    refine ⟨fun e => ?_, fun e => ?_⟩
    · subst e; have := hfr _ hb; rcases hc with q | q | q <;> simp_all
    · subst e; have := hit _ hb; rcases hc with q | q | q <;> simp_all)
  obtain ⟨tl, e, J⟩ := X
  exact ⟨tl, e, key _ _ J.list (.inl rfl), J.low, J.len, fun k t j h1 h2 => ⟨key _ _ (J.tup k t j h1 h2).1 (.inr (.inl rfl)), (J.tup k t j h1 h2).2⟩⟩
theorem JobsAt.old {h h' : Heap} {l : Nat} {js : List Job} (X : JobsAt h l js) (c : Chg h h' []) : JobsAt h' l js := by
  obtain ⟨tl, e, J⟩ := X
  exact ⟨tl, e, J.chg c (by simp) (by simp)⟩
theorem Ord.old {h h' : Heap} {S : F12} {jjs jdu : List Job} {ca : Nat → Nat} {sa : Nat → Int} (X : Ord h S jjs jdu ca sa) (c : Chg h h' []) : Ord h' S jjs jdu ca sa := by
  obtain ⟨d0, d1, d2, e, tc, ts, D⟩ := X.desks
  obtain ⟨c1, c2, x⟩ := X.h97
  exact ⟨JobsAt.old X.jobs c, JobsAt.old X.due c, ⟨d0, d1, d2, e, tc, ts, D.chg c⟩, c1, c2, c.kp x (by simp)⟩
section
variable {P : Params} {top : Nat → Option Obj} {w : World} {A : Around} {R : Result → Shared → Prop} {g : Array GenState} {dr : Drawn} {os : OsState}
theorem served_at (hP : P = w.params) (Z : AllRuns P top) (sep : TopSep top) {h : Heap} {t₀ : Nat} (T : TopOk top h) {nr : Nat} (a : Rm A nr) (ha : nr ≤ 340) {S : F12} {jjs jdu js : List Job} {ca : Nat → Nat} {sa : Nat → Int} (X : Ord h S jjs jdu ca sa) (hc : ∀ k, 1 ≤ ca k ∧ ca k ≤ 4) (hs : ∀ k, 0 ≤ sa k) {l tk : Nat} (j : JobsAt h l js) (h4 : 4 ≤ js.length) (h7 : js.length ≤ 7) (hB : 143 ≤ h.objs.size) (up : Up (0 :: hrs js)) (k : Nat) (hk : k < 3) {kI : Int} (hkI : kI = k)
    (Y : ∀ h' t' dn js', JobsAt h' dn js' → hrs js' = deskGo (ca k) (sa k) [] (hrs js) → nms js' = nms js → Chg h h' [] → h.objs.size ≤ dn → R (.ok (.ret (.ref dn))) ⟨h', g, dr, t', os⟩) : codeAny (Md w) A (servedCall kI tk l S.dl) R ⟨h, g, dr, t₀, os⟩ := by
  subst hkI
  obtain ⟨tl, e, J⟩ := j
  obtain ⟨d0, d1, d2, e', tc, ts, D⟩ := X.desks
  obtain ⟨c1, c2, h97⟩ := X.h97
  exact served_spec hP Z.s sep T a ha hc hs h4 h7 hB J up h97 D k hk fun h' t' dn ds' D' ed' J' g1 g2 g3 g4 => Y h' t' dn D' ⟨ds', ed', J'⟩ g1 g2 g3 g4
theorem sub3 {f s : Nat} (hf : f < 3) (hs : s < 3) (hn : ¬ f = s) : (3 : Int) - Int.ofNat f - Int.ofNat s = ((3 - f - s : Nat) : Int) := by
  show (3 : Int) - (f : Int) - (s : Int) = _
  (first | lia | omega)
theorem second_loop (hP : P = w.params) (Z : AllRuns P top) (sep : TopSep top) {nr : Nat} (a : Rm A nr) (ha : nr ≤ 320) {fr it on f tf : Nat} {S : F12} {jjs jdu j1 : List Job} {ca : Nat → Nat} {sa : Nat → Int} (hc : ∀ k, 1 ≤ ca k ∧ ca k ≤ 4) (hs : ∀ k, 0 ≤ sa k) (hf : f < 3) (low : 143 ≤ fr ∧ fr < it) (h4 : 4 ≤ j1.length) (h7 : j1.length ≤ 7) (up : Up (0 :: hrs j1)) (hn : nms j1 = nms jdu)
    (all : ∀ s, s < 3 → s ≠ f → deskGo (ca (3 - f - s)) (sa (3 - f - s)) [] (deskGo (ca s) (sa s) [] (hrs j1)) = hrs jdu) :
    ∀ (m s : Nat) (ex : Option (Value × Option Value)) (h : Heap) (t₀ : Nat), s + m = 3 → ((∃ v t, ex = some (v, some t)) ∨ s = 0 ∨ (s = 1 ∧ f = 0)) → TopOk top h → 143 ≤ h.objs.size → IsDic h fr "frame" (vsL (S.vs (fsV f tf on (exR0 ex)))) → h.get? it = some (riO (.ofNat s) (.ofNat m) 1) → Ord h S jjs jdu ca sa → JobsAt h on j1 →
      (∀ h' t' v t, TopOk top h' → 143 ≤ h'.objs.size → IsDic h' fr "frame" (vsL (S.vs (fsV f tf on [v, t]))) → Ord h' S jjs jdu ca sa → Chg h h' [fr, it] → R (.ok .next) ⟨h', g, dr, t', os⟩) →
      codeAny (Md w) A (lawLoop top 3 fr it) R ⟨h, g, dr, t₀, os⟩ := by
  intro m
  induction m with
  | zero =>
    intro s ex h t₀ hsm hE T hB hfr hit X J Y
    refine for_endR hP Z.du sep T a (by (first | lia | omega)) hit (by (first | lia | omega)) (Z.la.isf 3 _ _ (by (first | lia | omega))) (fun _ _ _ _ e => lawLoop_it e) fun h' t' c al => ?_
    have hEE : ∃ v t, ex = some (v, some t) := by
      rcases hE with h | h | h
      · exact h
      · (first | lia | omega)
      · (first | lia | omega)
    obtain ⟨v, t, rfl⟩ := hEE
    have cc : Chg h h' [fr, it] := c.drop fun b hb hn => by simp at hb hn; (first | lia | omega)
    exact Y h' t' v t (T.chg sep c (by intro b hb; simp at hb; (first | lia | omega))) (Nat.le_trans hB c.size) (hfr.kp c (by simp; (first | lia | omega))) (X.chg cc (fr_cls hfr) (ri_cls hit)) cc
  | succ m ih =>
    intro s ex h t₀ hsm hE T hB hfr hit X J Y
    obtain ⟨hloop, hmark⟩ := Z.ld.i3' fr it
    have hs3 : s < 3 := by (first | lia | omega)
    have hm : m + 1 = 3 - s := by (first | lia | omega)
    obtain ⟨aux, ep, x0⟩ := hfr
    have hok : okCode (lawLoop top 3 fr it) = true := ok_for (Z.la.isf 3 _ _ (by (first | lia | omega)))
    refine for_head hloop ?_
    rw [hm] at hit
    refine head_fin (pre_two T x0 hit low.1 (by (first | lia | omega)) (by (first | lia | omega))) sep hP a (by (first | lia | omega)) hok (Z.ld.k0 s hs3 _ t₀ fr it S f tf on ex aux ep) trivial fun h1 B1 => ⟨rfl, ?_⟩
    have c1 : Chg h h1 [fr, it] := B1.chg
    have T1 : TopOk top h1 := T.chg sep c1 (by intro b hb; simp at hb; (first | lia | omega))
    have s1 := B1.size
    have hB1 : 143 ≤ h1.objs.size := by (first | lia | omega)
    have X1 := X.chg c1 (fr_cls ⟨aux, ep, x0⟩) (ri_cls hit)
    have J1 := JobsAt.chg J c1 (fr_cls ⟨aux, ep, x0⟩) (ri_cls hit)
    have hit1 : h1.get? it = some (riO (.ofNat (s + 1)) (.ofNat m) 1) := by
      have q := B1.at 0 rfl
      have e1 : Int.ofNat (3 - s) - 1 = Int.ofNat m := by rw [← hm]; simp
      rw [e1] at q
      exact q
    have f1 : IsDic h1 fr "frame" (vsL (S.vs (fsV f tf on (exR0 (some (.int (.ofNat s) t₀, exS ex)))))) := by
      have q : IsDic h1 fr "frame" (vsL (S.vs (fsV f tf on (exR1 (.int (.ofNat s) t₀) ex)))) := B1.dicAt 0 rfl
      rw [exR1_is] at q
      exact q
    obtain ⟨aux1, ep1, x1⟩ := f1
    refine own_if (bool_fin (pre_one T1 x1 low.1) sep hP a (by (first | lia | omega)) hok (Z.ld.k1 f s hf hs3 _ _ fr it S tf on t₀ (exS ex) aux1 ep1) trivial fun h2 B2 => ?_)
    have c2 : Chg h1 h2 [fr] := B2.chg
    have c2' : Chg h1 h2 [fr, it] := c2.drop fun b hb hn => by simp at hb hn; (first | lia | omega)
    have T2 : TopOk top h2 := T1.chg sep c2 (by intro b hb; simp at hb; (first | lia | omega))
    have s2 := B2.size
    have X2 := X1.chg c2' (fr_cls ⟨aux1, ep1, x1⟩) (ri_cls hit1)
    have J2 := JobsAt.chg J1 c2' (fr_cls ⟨aux1, ep1, x1⟩) (ri_cls hit1)
    have hit2 := c2.kp hit1 (by simp; (first | lia | omega))
    have f2 : IsDic h2 fr "frame" (vsL (S.vs (fsV f tf on (exR0 (some (.int (.ofNat s) t₀, exS ex)))))) := B2.dicAt 0 rfl
    have c12 : Chg h h2 [fr, it] := (c1.trans c2).drop fun b hb hn => by simp at hb hn; (first | lia | omega)
    by_cases hsf : f = s
    · rw [if_neg (by rw [hsf]; simp [Nat.beq_refl])]
      refine own_nil ⟨rfl, ?_⟩
      refine ih (s + 1) _ h2 _ (by (first | lia | omega)) ?_ T2 (by (first | lia | omega)) f2 hit2 X2 J2 fun h' t' v t g1 g2 g3 g4 g5 => Y h' t' v t g1 g2 g3 g4 ((c12.trans g5).drop fun b hb hn => by simp at hb hn; (first | lia | omega))
      rcases hE with ⟨v, t, rfl⟩ | rfl | ⟨rfl, h⟩
      · exact .inl ⟨_, _, rfl⟩
      · exact .inr (.inr ⟨rfl, hsf⟩)
      · (first | lia | omega)
    · rw [if_pos (by have : Nat.beq f s = false := by
                       cases e : Nat.beq f s with
                       | false => rfl
                       | true => exact absurd (Nat.eq_of_beq_eq_true e) hsf
                     rw [this]; rfl)]
      refine own_app (xs := [_]) (ys := [_]) ?_
      obtain ⟨aux2, ep2, x2⟩ := f2
      refine own_stop (pre_one T2 x2 low.1) sep hP a (by (first | lia | omega)) hok (Z.ld.k2 _ _ fr it S f tf on s t₀ (exS ex) aux2 ep2) trivial fun h3 B3 A3 a3 => ?_
      have c3 : Chg h2 h3 [fr] := B3.chg
      have c3' : Chg h2 h3 [fr, it] := c3.drop fun b hb hn => by simp at hb hn; (first | lia | omega)
      have T3 : TopOk top h3 := T2.chg sep c3 (by intro b hb; simp at hb; (first | lia | omega))
      have s3 := B3.size
      have X3 := X2.chg c3' (fr_cls ⟨aux2, ep2, x2⟩) (ri_cls hit2)
      have J3 := JobsAt.chg J2 c3' (fr_cls ⟨aux2, ep2, x2⟩) (ri_cls hit2)
      have hit3 := c3.kp hit2 (by simp; (first | lia | omega))
      refine callsTo (served_at hP Z sep T3 a3 (by (first | lia | omega)) X3 hc hs J3 h4 h7 (by (first | lia | omega)) up s hs3 rfl fun h4' t4 tw j2 J4 e1 e2 c4 l4 => ?_)
      have T4 : TopOk top h4' := T3.chg sep c4 (by simp)
      have X4 := X3.old c4
      have s4 := c4.size
      obtain ⟨aux4, ep4, x4⟩ := (B3.dicAt 0 rfl : IsDic h3 fr _ _).kp c4 (by simp)
      have hit4 := c4.kp hit3 (by simp)
      refine res_fin (pre_one T4 x4 low.1) sep hP a (by (first | lia | omega)) (Z.ld.k3 _ _ fr it S f tf on s t₀ (exS ex) aux2 ep2 _ t4 aux4 ep4 tw) trivial fun h5 B5 => ?_
      have c5 : Chg h4' h5 [fr] := B5.chg
      have c5' : Chg h4' h5 [fr, it] := c5.drop fun b hb hn => by simp at hb hn; (first | lia | omega)
      have T5 : TopOk top h5 := T4.chg sep c5 (by intro b hb; simp at hb; (first | lia | omega))
      have s5 := B5.size
      have X5 := X4.chg c5' (fr_cls ⟨aux4, ep4, x4⟩) (ri_cls hit4)
      have J5 := JobsAt.chg J4 c5' (fr_cls ⟨aux4, ep4, x4⟩) (ri_cls hit4)
      have hit5 := c5.kp hit4 (by simp; (first | lia | omega))
      obtain ⟨aux5, ep5, x5⟩ : IsDic h5 fr "frame" (vsL (S.vs (fsV f tf on [.int (.ofNat s) t₀, .ref tw]))) := B5.dicAt 0 rfl
      refine own_if (own_ne hmark ?_)
      refine val_stop (pre_one T5 x5 low.1) sep hP a (by (first | lia | omega)) hok (Z.ld.k4 _ _ fr it S f tf on s t₀ tw aux5 ep5) trivial fun h6 B6 A6 a6 => ?_
      have c6 : Chg h5 h6 [fr] := B6.chg
      have c6' : Chg h5 h6 [fr, it] := c6.drop fun b hb hn => by simp at hb hn; (first | lia | omega)
      have T6 : TopOk top h6 := T5.chg sep c6 (by intro b hb; simp at hb; (first | lia | omega))
      have s6 := B6.size
      have X6 := X5.chg c6' (fr_cls ⟨aux5, ep5, x5⟩) (ri_cls hit5)
      have J6 := JobsAt.chg J5 c6' (fr_cls ⟨aux5, ep5, x5⟩) (ri_cls hit5)
      have hit6 := c6.kp hit5 (by simp; (first | lia | omega))
      have len2 : j2.length = j1.length := by have := congrArg List.length e1; simpa [deskGo_length] using this
      refine callsTo (served_at hP Z sep T6 a6 (by (first | lia | omega)) X6 hc hs J6 (by (first | lia | omega)) (by (first | lia | omega)) (by (first | lia | omega)) (by rw [e1]; exact desk_up (hc s).1 (hs s) up) (3 - f - s) (by (first | lia | omega)) (sub3 hf hs3 hsf) fun h7' t7 o3 j3 J7 e3 e4 c7 l7 => ?_)
      have T7 : TopOk top h7' := T6.chg sep c7 (by simp)
      have X7 := X6.old c7
      have s7 := c7.size
      have hit7 := c7.kp hit6 (by simp)
      obtain ⟨aux7, ep7, x7⟩ := (B6.dicAt 0 rfl : IsDic h6 fr _ _).kp c7 (by simp)
      refine res_fin (L := []) (pre_nil T7) sep hP a (by (first | lia | omega)) (Z.ld.k5 _ _ fr it S f tf on s t₀ tw aux5 ep5 _ t7 o3) trivial fun h8 B8 => ?_
      have c8 : Chg h7' h8 [] := B8.chg
      have T8 : TopOk top h8 := T7.chg sep c8 (by simp)
      have s8 := c8.size
      have x8 := c8.kp x7 (by simp)
      have hit8 := c8.kp hit7 (by simp)
      refine val_fin (pre_one T8 x8 low.1) sep hP a (by (first | lia | omega)) hok (Z.ld.k6 _ _ fr it S f tf on s t₀ tw aux7 ep7) trivial fun h9 B9 => ?_
      have c9 : Chg h8 h9 [fr] := B9.chg
      have c9' : Chg h8 h9 [fr, it] := c9.drop fun b hb hn => by simp at hb hn; (first | lia | omega)
      have T9 : TopOk top h9 := T8.chg sep c9 (by intro b hb; simp at hb; (first | lia | omega))
      have s9 := B9.size
      have X9 := (X7.old c8).chg c9' (fr_cls ⟨aux7, ep7, x8⟩) (ri_cls hit8)
      have J9 := JobsAt.chg (JobsAt.old J7 c8) c9' (fr_cls ⟨aux7, ep7, x8⟩) (ri_cls hit8)
      have hit9 := c9.kp hit8 (by simp; (first | lia | omega))
      obtain ⟨tl9, e9, K9⟩ := J9
      obtain ⟨tld, ed, Kd⟩ := X9.due
      have room := (a.room (by (first | lia | omega) : nr ≤ 400))
      have wt := ok_weight hok
      have hun : (A.under (lawLoop top 3 fr it)).units + 1 < cLine := by
        show A.units + (lawLoop top 3 fr it).cUnits + 1 < 9900
        have := room.units
        (first | lia | omega)
      refine ne_jobs (s := ⟨h9, g, dr, _, os⟩) hun K9 Kd (by rw [e3, e1]; exact all s hs3 (Ne.symm hsf)) (by rw [e4, e2]; exact hn) ⟨rfl, ?_⟩
      show OwnP w A _ [] _ _ _
      refine own_nil ⟨rfl, ?_⟩
      have j9 : JobsAt h9 on j1 := by
        have q1 := JobsAt.old J3 c4
        have q2 := JobsAt.chg q1 c5' (fr_cls ⟨aux4, ep4, x4⟩) (ri_cls hit4)
        have q3 := JobsAt.chg q2 c6' (fr_cls ⟨aux5, ep5, x5⟩) (ri_cls hit5)
        exact JobsAt.chg (JobsAt.old (JobsAt.old q3 c7) c8) c9' (fr_cls ⟨aux7, ep7, x8⟩) (ri_cls hit8)
      refine ih (s + 1) (some (.int (.ofNat s) t₀, some (.ref tw))) h9 _ (by (first | lia | omega)) (.inl ⟨_, _, rfl⟩) T9 (by (first | lia | omega)) (B9.dicAt 0 rfl) hit9 X9 j9 fun h' t' v t g1 g2 g3 g4 g5 => Y h' t' v t g1 g2 g3 g4 ?_
      exact ((((((((c12.trans c3).trans c4).trans c5).trans c6).trans c7).trans c8).trans c9).trans g5).drop fun b hb hn => by simp at hb hn; (first | lia | omega)
end
end
end Mine

end
section
open PySem PySem.W PySem.W.X PyProof.Rows
set_option maxRecDepth 100000
set_option Elab.async false
set_option maxHeartbeats 2000000
set_option genInjectivity false
set_option genSizeOfSpec false
namespace Mine
noncomputable section
noncomputable def toR : Option (Value × Value × Value × Value) → Option (Value × Option Value)
  | none => none
  | some (_, _, c, d) => some (c, some d)
theorem exQ2_is (f tf on : Nat) (ex : Option (Value × Value × Value × Value)) : exQ2 (.int (.ofNat f) tf) (.ref on) ex = fsV f tf on (exR0 (toR ex)) := by
  rcases ex with _ | ⟨_, _, _, _⟩ <;> rfl
/-- what lies about law's parts -/
structure LawSt (h : Heap) (fr : Nat) (vals : List Value) (M : Int) (tM : Nat) (told : Option Value) (da nl hl : Nat) (D : List (Int × Nat)) (N : List (Str × Nat)) (H : List (Int × Nat)) : Prop where
  xfr : IsDic h fr "frame" (vsL vals)
  c1 : h.get? (fr + 1) = some (ceO (some (.int M tM)))
  c2 : h.get? (fr + 2) = some (ceO (some (.ref nl)))
  c3 : h.get? (fr + 3) = some (ceO (some (.ref hl)))
  c4 : h.get? (fr + 4) = some (ceO told)
  xda : ∃ e, h.get? da = some (lsO (ivs D) e)
  xnl : ∃ e, h.get? nl = some (lsO (nvs N) e)
  xhl : ∃ e, h.get? hl = some (lsO (ivs H) e)
  low : 143 ≤ fr ∧ fr + 4 < da ∧ da < nl ∧ nl < hl
theorem LawSt.hlt {h : Heap} {fr : Nat} {vals : List Value} {M : Int} {tM : Nat} {told : Option Value} {da nl hl : Nat} {D : List (Int × Nat)} {N : List (Str × Nat)} {H : List (Int × Nat)} (X : LawSt h fr vals M tM told da nl hl D N H) : hl < h.objs.size := by
  obtain ⟨e, x⟩ := X.xhl
  exact Heap.lt_size x
theorem LawSt.chg {h h' : Heap} {fr : Nat} {vals vals' : List Value} {M : Int} {tM : Nat} {told : Option Value} {da nl hl : Nat} {D : List (Int × Nat)} {N : List (Str × Nat)} {H : List (Int × Nat)} (X : LawSt h fr vals M tM told da nl hl D N H) {ls : List Nat} (c : Chg h h' ls) (hn : ∀ a ∈ ls, a ≤ fr ∨ hl < a) (hf : IsDic h' fr "frame" (vsL vals')) : LawSt h' fr vals' M tM told da nl hl D N H := by
  have low := X.low
  have no : ∀ b, fr < b → b ≤ hl → b ∉ ls := fun b h1 h2 hm => by have := hn b hm; (first | lia | omega)
  obtain ⟨e1, x1⟩ := X.xda
  obtain ⟨e2, x2⟩ := X.xnl
  obtain ⟨e3, x3⟩ := X.xhl
  exact ⟨hf, c.kp X.c1 (no _ (by (first | lia | omega)) (by (first | lia | omega))), c.kp X.c2 (no _ (by (first | lia | omega)) (by (first | lia | omega))), c.kp X.c3 (no _ (by (first | lia | omega)) (by (first | lia | omega))), c.kp X.c4 (no _ (by (first | lia | omega)) (by (first | lia | omega))), ⟨e1, c.kp x1 (no _ (by (first | lia | omega)) (by (first | lia | omega)))⟩, ⟨e2, c.kp x2 (no _ (by (first | lia | omega)) (by (first | lia | omega)))⟩, ⟨e3, c.kp x3 (no _ (by (first | lia | omega)) (by (first | lia | omega)))⟩, low⟩
theorem text_len : ∀ (ds : List Int) (p : Nat) (l : List Nat), (textGo p l ds).length ≤ l.length + 12 * ds.length
  | [], p, l => by simp [textGo]
  | x :: r, p, l => by
    obtain ⟨f1, f2, f3, g1, g2, g3⟩ := fig_ok x
    have h1 := text_len r (p + 1) (finL l p (figK x) (figG x) (figB x))
    have h2 := (finL_len l p g1 g2 g3).1
    rw [textGo, List.length_cons]
    (first | lia | omega)
theorem zip_len : ∀ (H : List (Int × Nat)) (N : List (Str × Nat)), H.length = N.length → (zipJ H N).length = H.length
  | [], _, _ => by simp [zipJ]
  | h :: H, [], e => by simp at e
  | h :: H, n :: N, e => by simp [zipJ, zip_len H N (by simpa using e)]
theorem zip_hrs : ∀ (H : List (Int × Nat)) (N : List (Str × Nat)), H.length = N.length → hrs (zipJ H N) = H.map (·.1) ∧ nms (zipJ H N) = N.map (·.1)
  | [], [], _ => ⟨rfl, rfl⟩
  | [], _ :: _, e => by simp at e
  | h :: H, [], e => by simp at e
  | h :: H, n :: N, e => by
    obtain ⟨h1, h2⟩ := zip_hrs H N (by simpa using e)
    refine ⟨?_, ?_⟩
    · show h.1 :: hrs (zipJ H N) = _
      rw [h1]; rfl
    · show n.1 :: nms (zipJ H N) = _
      rw [h2]; rfl
theorem refF_len : ∀ (js : List Job) (a : Nat), (refF a js).length = js.length
  | [], _ => rfl
  | _ :: r, a => by rw [refF, List.length_cons, refF_len r, List.length_cons]
theorem refF_at : ∀ (js : List Job) (a k t : Nat), (refF a js)[k]? = some t → t = a + k ∧ k < js.length
  | [], a, k, t, h => by simp [refF] at h
  | _ :: r, a, 0, t, h => by simp [refF] at h; exact ⟨by (first | lia | omega), by simp⟩
  | _ :: r, a, k + 1, t, h => by
    have := refF_at r (a + 1) k t (by simpa [refF] using h)
    exact ⟨by (first | lia | omega), by simp; (first | lia | omega)⟩
theorem tupF_mem : ∀ (js : List Job) (a k : Nat) (j : Job), js[k]? = some j → (a + k, some (tuO j)) ∈ tupF a js
  | [], _, k, j, h => by simp at h
  | x :: r, a, 0, j, h => by simp at h; subst h; exact .head _
  | x :: r, a, k + 1, j, h => by
    have := tupF_mem r (a + 1) k j (by simpa using h)
    refine .tail _ ?_
    have e : a + 1 + k = a + (k + 1) := by (first | lia | omega)
    rw [← e]; exact this
theorem jobs_new {h : Heap} {l a e : Nat} {js : List Job} (hl : h.get? l = some (lsO (rfs (refF a js)) e)) (ht : HasO h (tupF a js)) (h1 : 143 ≤ l) (h2 : 143 ≤ a) : Jobs h l (refF a js) js e :=
  ⟨hl, h1, refF_len js a, fun k t j g1 g2 => by
    obtain ⟨rfl, _⟩ := refF_at js a k t g1
    exact ⟨ht _ (tupF_mem js a k j g2) _ rfl, by (first | lia | omega)⟩⟩
section
variable {P : Params} {top : Nat → Option Obj} {w : World} {A : Around} {R : Result → Shared → Prop} {g : Array GenState} {dr : Drawn} {os : OsState} {h : Heap} {t₀ : Nat} {Q : Flow → Shared → Prop}
theorem first_loop (hP : P = w.params) (Z : AllRuns P top) (sep : TopSep top) {nr : Nat} (a : Rm A nr) (ha : nr ≤ 310) {fr it : Nat} {S : F12} {jjs jdu : List Job} {ca : Nat → Nat} {sa : Nat → Int} (hc : ∀ k, 1 ≤ ca k ∧ ca k ≤ 4) (hs : ∀ k, 0 ≤ sa k) (low : 143 ≤ fr ∧ fr < it) (h4 : 4 ≤ jjs.length) (h7 : jjs.length ≤ 7) (up : Up (0 :: hrs jjs)) (hn : nms jjs = nms jdu)
    (all : ∀ f s, f < 3 → s < 3 → s ≠ f → deskGo (ca (3 - f - s)) (sa (3 - f - s)) [] (deskGo (ca s) (sa s) [] (deskGo (ca f) (sa f) [] (hrs jjs))) = hrs jdu) :
    ∀ (m f : Nat) (ex : Option (Value × Value × Value × Value)) (h : Heap) (t₀ : Nat), f + m = 3 → TopOk top h → it < h.objs.size → IsDic h fr "frame" (vsL (S.vs (exQ ex))) → h.get? it = some (riO (.ofNat f) (.ofNat m) 1) → Ord h S jjs jdu ca sa →
      (∀ h' t', TopOk top h' → Chg h h' [fr, it] → R (.ok .next) ⟨h', g, dr, t', os⟩) → codeAny (Md w) A (lawLoop top 2 fr it) R ⟨h, g, dr, t₀, os⟩ := by
  intro m
  induction m with
  | zero =>
    intro f ex h t₀ hfm T hsz hfr hit X Y
    refine for_endR hP Z.du sep T a (by (first | lia | omega)) hit (by (first | lia | omega)) (Z.la.isf 2 _ _ (by (first | lia | omega))) (fun _ _ _ _ e => lawLoop_it e) fun h' t' c al => ?_
    exact Y h' t' (T.chg sep c (by intro b hb; simp at hb; (first | lia | omega))) (c.drop fun b hb hn => by simp at hb hn; (first | lia | omega))
  | succ m ih =>
    intro f ex h t₀ hfm T hsz hfr hit X Y
    have hf3 : f < 3 := by (first | lia | omega)
    have hm : m + 1 = 3 - f := by (first | lia | omega)
    obtain ⟨aux, ep, x0⟩ := hfr
    rw [hm] at hit
    refine code_stop (pre_two T x0 hit low.1 (by (first | lia | omega)) (by (first | lia | omega))) sep hP a (by (first | lia | omega)) (ok_for (Z.la.isf 2 _ _ (by (first | lia | omega)))) (Z.ld.i1 f hf3 _ t₀ fr it S ex aux ep) trivial fun h1 B1 A1 a1 => ?_
    have c1 : Chg h h1 [fr, it] := B1.chg
    have T1 : TopOk top h1 := T.chg sep c1 (by intro b hb; simp at hb; (first | lia | omega))
    have s1 := B1.size
    have X1 := X.chg c1 (fr_cls ⟨aux, ep, x0⟩) (ri_cls hit)
    have hit1 : h1.get? it = some (riO (.ofNat (f + 1)) (.ofNat m) 1) := by
      have q := B1.at 0 rfl
      have e1 : Int.ofNat (3 - f) - 1 = Int.ofNat m := by rw [← hm]; simp
      rw [e1] at q
      exact q
    refine served_at hP Z sep T1 a1 (by (first | lia | omega)) X1 hc hs X1.jobs h4 h7 (by (first | lia | omega)) up f hf3 rfl fun h2 t2 on j1 J2 e1 e2 c2 l2 => ?_
    have T2 : TopOk top h2 := T1.chg sep c2 (by simp)
    have s2 := c2.size
    have X2 := X1.old c2
    have hit2 := c2.kp hit1 (by simp)
    obtain ⟨aux2, ep2, x2⟩ := (B1.dicAt 0 rfl : IsDic h1 fr _ _).kp c2 (by simp)
    refine res_stop (pre_one T2 x2 low.1) sep hP a (by (first | lia | omega)) (Z.ld.i2 f hf3 _ t₀ fr it S ex aux ep _ t2 aux2 ep2 _ on) trivial fun h3 B3 A3 a3 => ?_
    have c3 : Chg h2 h3 [fr] := B3.chg
    have c3' : Chg h2 h3 [fr, it] := c3.drop fun b hb hn => by simp at hb hn; (first | lia | omega)
    have T3 : TopOk top h3 := T2.chg sep c3 (by intro b hb; simp at hb; (first | lia | omega))
    have s3 := B3.size
    have X3 := X2.chg c3' (fr_cls ⟨aux2, ep2, x2⟩) (ri_cls hit2)
    have J3 := JobsAt.chg J2 c3' (fr_cls ⟨aux2, ep2, x2⟩) (ri_cls hit2)
    have hit3 := c3.kp hit2 (by simp; (first | lia | omega))
    have f3 : IsDic h3 fr "frame" (vsL (S.vs (fsV f t₀ on (exR0 (toR ex))))) := by
      have q : IsDic h3 fr "frame" (vsL (S.vs (exQ2 (.int (.ofNat f) t₀) (.ref on) ex))) := B3.dicAt 0 rfl
      rw [exQ2_is] at q
      exact q
    have lj : j1.length = jjs.length := by have := congrArg List.length e1; simpa [deskGo_length] using this
    refine second_loop hP Z sep a3 (by (first | lia | omega)) hc hs hf3 (by (first | lia | omega)) (by (first | lia | omega)) (by (first | lia | omega)) (by rw [e1]; exact desk_up (hc f).1 (hs f) up) (by rw [e2]; exact hn) (fun s h1 h2 => by rw [e1]; exact all f s hf3 h1 h2) 3 0 (toR ex) h3 _ rfl (.inr (.inl rfl)) T3 (by (first | lia | omega)) f3 (B3.at 0 rfl) X3 J3 fun h4 t4 v t T4 _ f4 X4 c4 => ?_
    have s4 := c4.size
    refine res_again (L := []) (pre_nil T4) sep hP a (by (first | lia | omega)) (Z.ld.i3 f hf3 _ t₀ fr it S ex aux ep _ t2 aux2 ep2 _ on _ t4) trivial fun h5 B5 => ?_
    have c5 : Chg h4 h5 [] := B5.chg
    have T5 : TopOk top h5 := T4.chg sep c5 (by simp)
    have s5 := c5.size
    have hit5 : h5.get? it = some (riO (.ofNat (f + 1)) (.ofNat m) 1) := c5.kp (c4.kp hit3 (by simp; (first | lia | omega))) (by simp)
    have cc : Chg h h5 [fr, it] := ((((c1.trans c2).trans c3).trans c4).trans c5).old fun b hb => by simp at hb ⊢; (first | lia | omega)
    refine ih (f + 1) (some (.int (.ofNat f) t₀, .ref on, v, t)) h5 _ (by (first | lia | omega)) T5 (by (first | lia | omega)) (f4.kp c5 (by simp)) hit5 (X4.old c5) fun h6 t6 T6 c6 => ?_
    exact Y h6 t6 T6 ((cc.trans c6).drop fun b hb hn => by simp at hb hn; (first | lia | omega))
end
end
end Mine

end
section
open PySem PySem.W PySem.W.X PyProof.Rows
set_option maxRecDepth 100000
set_option Elab.async false
set_option maxHeartbeats 2000000
set_option genInjectivity false
set_option genSizeOfSpec false
namespace Mine
noncomputable section
section
variable {P : Params} {top : Nat → Option Obj} {w : World} {A : Around} {R : Result → Shared → Prop} {g : Array GenState} {dr : Drawn} {os : OsState} {h : Heap} {t₀ : Nat} {Q : Flow → Shared → Prop}
theorem part_b (hP : P = w.params) (Z : AllRuns P top) (sep : TopSep top) (T : TopOk top h) {nr : Nat} (a : Rm A nr) (ha : nr ≤ 305) {fr sl M tM da tt} {D : List (Int × Nat)} (hD : D.length ≤ 7) {ds : List Int} (h13 : D.map (·.1) = 13 :: ds) (hok : ∀ j x, 1 ≤ j → D[j]? = some x → okT j (figK x.1) (figG x.1) (figB x.1)) (X : LawSt h fr [.ref sl, .ref da, .str ⟨⟨[]⟩⟩ tt] M tM none da (da + 1) (da + 2) D [] [])
    (Y : ∀ h' t' tt' w1 w2 w3 w4 N H, TopOk top h' → LawSt h' fr [.ref sl, .ref da, .str ⟨⟨textGo 0 [] (D.map (·.1))⟩⟩ tt', w1, w2, w3, w4] M tM none da (da + 1) (da + 2) D N H → N.map (·.1) = (namesGo 0 (D.map (·.1))).map (fun l => ⟨⟨l⟩⟩) → H.map (·.1) = hoursGo 0 [] (D.map (·.1)) → Chg h h' [fr, da + 1, da + 2] → Q .next ⟨h', g, dr, t', os⟩) : OwnP w A (lawF top fr) (partB top 5 1) (lawE top fr) Q ⟨h, g, dr, t₀, os⟩ := by
  have low := X.low
  have hlt := X.hlt
  obtain ⟨aux, ep, x0⟩ := X.xfr
  obtain ⟨ed, x1⟩ := X.xda
  refine own_stop (pre_two T x0 x1 low.1 (by (first | lia | omega)) (by (first | lia | omega))) sep hP a (by (first | lia | omega)) rfl (Z.la.a4 _ t₀ fr sl da _ aux ep D ed) ⟨⟨Int.natCast_nonneg _, by show (((ivs D).length : Nat) : Int) ≤ 100000; simp; (first | lia | omega)⟩, by simp; (first | lia | omega), trivial⟩ fun h1 B1 A1 a1 => ?_
  have c1 : Chg h h1 [fr] := B1.chg.drop fun b hb hn => by
    simp at hb hn
    rcases hb with rfl | rfl
    · exact absurd rfl hn
    · exact same_of x1 (B1.at 0 rfl)
  have T1 : TopOk top h1 := T.chg sep c1 (by intro b hb; simp at hb; (first | lia | omega))
  have s1 := B1.size
  have X1 := X.chg c1 (by intro b hb; simp at hb; (first | lia | omega)) (B1.dicAt 0 rfl)
  have hit : h1.get? (h.objs.size + 1) = some (riO 0 (.ofNat D.length) 1) := by
    have q := B1.at 1 rfl
    simpa using q
  refine callsTo (text_spec hP Z.tx Z.la Z.du sep T1 a1 (by (first | lia | omega)) hD h13 (by (first | lia | omega)) hok ⟨X1.xfr, X1.xda, X1.c2, X1.c3, X1.xnl, X1.xhl⟩ hit fun h2 t2 tt2 w1 w2 w3 w4 N H X2 n2 m2 c2 => ?_)
  have T2 : TopOk top h2 := T1.chg sep c2 (by intro b hb; simp at hb; (first | lia | omega))
  refine res_fin (L := []) (pre_nil T2) sep hP a (by (first | lia | omega)) (Z.la.a5 _ t₀ fr sl da _ aux ep D ed _ t2) trivial fun h3 B3 => ?_
  have c3 : Chg h2 h3 [] := B3.chg
  have T3 : TopOk top h3 := T2.chg sep c3 (by simp)
  have s2 := c2.size
  have cc : Chg h h3 [fr, da + 1, da + 2] := ((c1.trans c2).trans c3).old fun b hb => by simp at hb ⊢; (first | lia | omega)
  obtain ⟨e1, q1⟩ := X2.xda
  obtain ⟨e2, q2⟩ := X2.xnl
  obtain ⟨e3, q3⟩ := X2.xhl
  exact Y h3 _ tt2 w1 w2 w3 w4 N H T3 ⟨X2.xfr.kp c3 (by simp), c3.kp (c2.kp X1.c1 (by simp; (first | lia | omega))) (by simp), c3.kp X2.xcn (by simp), c3.kp X2.xch (by simp), c3.kp (c2.kp X1.c4 (by simp; (first | lia | omega))) (by simp), ⟨e1, c3.kp q1 (by simp)⟩, ⟨e2, c3.kp q2 (by simp)⟩, ⟨e3, c3.kp q3 (by simp)⟩, low⟩ n2 m2 cc
theorem part_c (hP : P = w.params) (Z : AllRuns P top) (sep : TopSep top) (T : TopOk top h) {nr : Nat} (a : Rm A nr) (ha : nr ≤ 305) {fr M tM} {S : F7} {D : List (Int × Nat)} {N : List (Str × Nat)} {H : List (Int × Nat)} (hD : D.length ≤ 7) (hD4 : 4 ≤ D.length) (hok : ∀ j x, D[j]? = some x → okA j (figK x.1) (figG x.1) (figB x.1)) (hl : S.l = textGo 0 [] (D.map (·.1))) (X : LawSt h fr (S.vs []) M tM none S.dr (S.dr + 1) (S.dr + 2) D N H) (h97 : h.get? 97 = some o97e)
    (Y : ∀ h' t' (S' : F7) (G : GS) jl wd ln rs lead js c1 c2, S'.sl = S.sl → S'.dr = S.dr → TopOk top h' → LawSt h' fr (S'.vs [.ref G.lx, .ref jl, wd]) M tM none S.dr (S.dr + 1) (S.dr + 2) D N H → h'.get? 97 = some (o97 c1 c2) → LexSt top h' G ln rs → rs.map (·.1) = lead → (∀ c ∈ lead, c = 10 ∨ c = 32) → rs.length ≤ 1000 → (∀ b ∈ G.adrs, S.dr + 2 < b) → JobsAt h' jl js → S.dr + 2 < jl → hrs js = lineGo 0 1 [] (D.map (·.1)) → nms js = (namesGo 0 (D.map (·.1))).map (fun l => ⟨⟨l⟩⟩) → Chg h h' [97, fr] → (∃ tl e, Jobs h' jl tl js e ∧ (∀ t ∈ tl, jl < t) ∧ ∀ b ∈ G.adrs, b < jl) → Q .next ⟨h', g, dr, t', os⟩) : OwnP w A (lawF top fr) (partB top 6 3) (lawE top fr) Q ⟨h, g, dr, t₀, os⟩ := by
  have low := X.low
  have hlt := X.hlt
  obtain ⟨aux, ep, x0⟩ := X.xfr
  refine own_stop (pre_one T x0 low.1) sep hP a (by (first | lia | omega)) rfl (Z.lb.b1 _ t₀ fr S aux ep) trivial fun h1 B1 A1 a1 => ?_
  have c1 : Chg h h1 [fr] := B1.chg
  have T1 : TopOk top h1 := T.chg sep c1 (by intro b hb; simp at hb; (first | lia | omega))
  have s1 := B1.size
  have X1 := X.chg c1 (by intro b hb; simp at hb; (first | lia | omega)) (B1.dicAt 0 rfl)
  have tl := text_len (D.map (·.1)) 0 []
  simp at tl
  refine callsTo (lex_spec hP Z.lx sep T1 a1 (by (first | lia | omega)) (by rw [hl]; (first | lia | omega)) (c1.kp h97 (by simp; (first | lia | omega))) (by (first | lia | omega)) fun h2 t2 G rs k1 k2 L2 hrs hG hk97 c2 => ?_)
  have T2 : TopOk top h2 := T1.chg sep c2 (by intro b hb; simp at hb; (first | lia | omega))
  have s2 := c2.size
  have X2 := X1.chg c2 (by intro b hb; simp at hb; (first | lia | omega)) (X1.xfr.kp c2 (by simp; (first | lia | omega)))
  obtain ⟨aux2, ep2, x2⟩ := X2.xfr
  obtain ⟨ed, xd⟩ := X2.xda
  refine res_stop (pre_two T2 x2 xd low.1 (by (first | lia | omega)) (by (first | lia | omega))) sep hP a (by (first | lia | omega)) (Z.lb.b2 _ t₀ fr S aux ep _ t2 aux2 ep2 D ed G.lx) ⟨⟨Int.natCast_nonneg _, by show (((ivs D).length : Nat) : Int) ≤ 100000; simp; (first | lia | omega)⟩, by simp; (first | lia | omega), trivial⟩ fun h3 B3 A3 a3 => ?_
  have c3 : Chg h2 h3 [fr] := B3.chg.drop fun b hb hn => by
    simp at hb hn
    rcases hb with rfl | rfl
    · exact absurd rfl hn
    · exact same_of xd (B3.at 0 rfl)
  have T3 : TopOk top h3 := T2.chg sep c3 (by intro b hb; simp at hb; (first | lia | omega))
  have s3 := B3.size
  have L3 := L2.chg c3 fun b hb => by have := hG b hb; simp; (first | lia | omega)
  have hit : h3.get? (h2.objs.size + 2) = some (riO (.ofNat 0) (.ofNat D.length) 1) := by
    have q := B3.at 2 rfl
    simpa using q
  have lt2 := L2.lt
  have hr0 : rs.map (·.1) = restGo 0 [] (D.map (·.1)) := by
    rw [hrs, hl]
    have := text_is (D.map (·.1)) 0 [] []
    simpa using this
  have hrl : rs.length ≤ 1000 := by
    have := congrArg List.length hrs
    simp at this
    rw [this, hl]; (first | lia | omega)
  have J3 : Jobs h3 h2.objs.size [] [] 0 := ⟨B3.at 1 rfl, by (first | lia | omega), rfl, fun k t j h1 _ => by simp at h1⟩
  refine (read_loop hP Z.lb Z.la Z.gt Z.tk Z.du sep a3 (by (first | lia | omega)) hD low.1 (fun b hb => ⟨by have := hG b hb; (first | lia | omega), lt2 b hb⟩) (by (first | lia | omega)) hok D.length 0 S none 1 [] rs [] [] 0 h3 _ (by (first | lia | omega)) (.inl ⟨rfl, rfl⟩) (by simp) hrl (by simpa using hr0) (by simp) (fun e => by (first | lia | omega)) T3 (by (first | lia | omega)) (B3.dicAt 0 rfl) hit L3 J3 (by simp) fun h4 t4 S4 wd ln4 lead4 rs4 tl4 js4 ej4 g1 g2 g3 g4 g5 g6 g7 g8 g9 g10 g11 g12 => ?_)
  have lowG : ∀ b ∈ G.adrs, 143 ≤ b := L2.low
  have hGl : G.ld ∈ G.adrs ∧ G.sg ∈ G.adrs := by simp [GS.adrs]
  have q1 := hG _ hGl.1
  have q2 := hG _ hGl.2
  have T4 : TopOk top h4 := T3.chg sep g11 (by intro b hb; simp at hb; (first | lia | omega))
  have s4 := g11.size
  refine res_fin (L := []) (pre_nil T4) sep hP a (by (first | lia | omega)) (Z.lb.b3 _ t₀ fr S aux ep _ t2 aux2 ep2 D ed G.lx _ t4) trivial fun h5 B5 => ?_
  have c5 : Chg h4 h5 [] := B5.chg
  have T5 : TopOk top h5 := T4.chg sep c5 (by simp)
  have X3 : LawSt h3 fr (S.vs [.ref G.lx, .ref h2.objs.size]) M tM none S.dr (S.dr + 1) (S.dr + 2) D N H := X2.chg c3 (by intro b hb; simp at hb; (first | lia | omega)) (B3.dicAt 0 rfl)
  have X4 := X3.chg g11 (by intro b hb; simp at hb; (first | lia | omega)) g3
  have X5 := X4.chg c5 (by simp) (g3.kp c5 (by simp))
  have h97' : h5.get? 97 = some (o97 k1 k2) := c5.kp (g11.kp (c3.kp hk97 (by simp; (first | lia | omega))) (by simp; (first | lia | omega))) (by simp)
  simp only [List.nil_append, List.map_nil, List.drop_zero] at g9 g10
  refine Y h5 _ S4 G h2.objs.size wd ln4 rs4 lead4 js4 k1 k2 g1 g2 T5 X5 h97' (g4.chg c5 (by simp)) g5 g6 g7 (fun b hb => by have := hG b hb; (first | lia | omega)) ⟨tl4, ej4, g8.chg c5 (by simp) (by simp)⟩ (by (first | lia | omega)) g9 g10 ?_ ⟨tl4, ej4, g8.chg c5 (by simp) (by simp), fun t ht => Nat.lt_of_le_of_lt (Nat.le_add_right _ 2) (g12 t ht), lt2⟩
  exact ((((c1.trans c2).trans c3).trans g11).trans c5).old fun b hb => by simp at hb ⊢; (first | lia | omega)
end
end
end Mine

end
section
open PySem PySem.W PySem.W.X PyProof.Rows
set_option maxRecDepth 100000
set_option Elab.async false
set_option maxHeartbeats 2000000
set_option genInjectivity false
set_option genSizeOfSpec false
namespace Mine
noncomputable section
section
variable {P : Params} {top : Nat → Option Obj} {w : World} {A : Around} {R : Result → Shared → Prop} {g : Array GenState} {dr : Drawn} {os : OsState} {h : Heap} {t₀ : Nat} {Q : Flow → Shared → Prop}
theorem hasO_sub {h : Heap} {F F' : List (Nat × Option Obj)} (x : HasO h F) (s : ∀ p ∈ F', p ∈ F) : HasO h F' := fun p hp o e => x p (s p hp) o e
theorem pre_N (T : TopOk top h) {fr : Nat} {vals : List Value} {M : Int} {tM : Nat} {told : Option Value} {da nl hl : Nat} {D : List (Int × Nat)} {N : List (Str × Nat)} {H : List (Int × Nat)} {aux : Nat → Int × Nat} {ep ed en eh : Nat} (X : LawSt h fr vals M tM told da nl hl D N H) (x0 : h.get? fr = some (frO vals aux ep)) (x1 : h.get? da = some (lsO (ivs D) ed)) (x2 : h.get? nl = some (lsO (nvs N) en)) {k2 hl' : Nat} {H' : List (Int × Nat)} (hk : k2 = 3 ∨ k2 = 4) (x3 : h.get? hl' = some (lsO (ivs H') eh)) (x4 : h.get? (fr + k2) = some (ceO (some (.ref hl')))) (hh : nl < hl') : Pre top h (ledN fr vals aux ep 2 nl k2 hl' da D ed N en H' eh) := by
  have low := X.low
  refine pre_mk T ?_ ?_ ?_
  · intro q hq
    simp only [ledN, List.mem_cons, List.not_mem_nil, or_false] at hq
    rcases hq with rfl | rfl | rfl | rfl | rfl | rfl
    · exact x0
    · exact X.c2
    · exact x4
    · exact x1
    · exact x2
    · exact x3
  · simp [ledN]; (first | lia | omega)
  · intro q hq
    simp [ledN] at hq
    (first | lia | omega)
theorem same_N {h h' : Heap} {fr : Nat} {vals : List Value} {aux : Nat → Int × Nat} {ep nl k2 hl da : Nat} {D : List (Int × Nat)} {ed : Nat} {N : List (Str × Nat)} {en : Nat} {H : List (Int × Nat)} {eh m : Nat} {F : List (Nat × Option Obj)} {G : List (Nat × Option (Bool × Vs))} (B : Behind h h' (ledN fr vals aux ep 2 nl k2 hl da D ed N en H eh) m F G) (s : ∀ p ∈ ledF' fr 2 nl k2 hl da D ed N en H eh, p ∈ F)
    (x1 : h.get? da = some (lsO (ivs D) ed)) (x2 : h.get? nl = some (lsO (nvs N) en)) (x3 : h.get? hl = some (lsO (ivs H) eh)) (c2 : h.get? (fr + 2) = some (ceO (some (.ref nl)))) (c4 : h.get? (fr + k2) = some (ceO (some (.ref hl)))) : Chg h h' [fr] := B.chg.drop fun b hb hn => by
  simp only [ledN, List.map_cons, List.map_nil, List.mem_cons, List.not_mem_nil, or_false] at hb hn
  have z := hasO_sub B.has s
  rcases hb with rfl | rfl | rfl | rfl | rfl | rfl
  · exact absurd rfl hn
  · exact same_of c2 (z _ (.head _) _ rfl)
  · exact same_of c4 (z _ (.tail _ (.head _)) _ rfl)
  · exact same_of x1 (z _ (.tail _ (.tail _ (.head _))) _ rfl)
  · exact same_of x2 (z _ (.tail _ (.tail _ (.tail _ (.head _)))) _ rfl)
  · exact same_of x3 (z _ (.tail _ (.tail _ (.tail _ (.tail _ (.head _))))) _ rfl)
theorem part_d (hP : P = w.params) (Z : AllRuns P top) (sep : TopSep top) (T : TopOk top h) {nr : Nat} (a : Rm A nr) (ha : nr ≤ 305) {fr M tM jl} {wd : Value} {S : F7} {G : GS} {ln : Int} {rs : List (Nat × Nat)} {lead : List Nat} {D : List (Int × Nat)} {N : List (Str × Nat)} {H : List (Int × Nat)} {n : Nat} (h4 : 4 ≤ n) (h7 : n ≤ 7) (hD : D.length = n) (hN : N.length = n) (hH : H.length = n) (X : LawSt h fr (v10 S G.lx jl wd []) M tM none S.dr (S.dr + 1) (S.dr + 2) D N H) (XL : LexSt top h G ln rs) (hrr : rs.map (·.1) = lead) (hlead : ∀ c ∈ lead, c = 10 ∨ c = 32) (hrl : rs.length ≤ 1000) (hG : ∀ b ∈ G.adrs, S.dr + 2 < b)
    {js : List Job} {tl : List Nat} {e : Nat} (J : Jobs h jl tl js e) (hjl : S.dr + 2 < jl) (htl : ∀ t ∈ tl, jl < t) (hGj : ∀ b ∈ G.adrs, b < jl) (e1 : hrs js = H.map (·.1)) (e2 : nms js = N.map (·.1))
    (Y : ∀ h' t', TopOk top h' → LawSt h' fr (v10 S G.lx jl wd []) M tM none S.dr (S.dr + 1) (S.dr + 2) D N H → Jobs h' jl tl js e → Chg h h' [fr, G.ld, G.sg] → Q .next ⟨h', g, dr, t', os⟩) : OwnP w A (lawF top fr) (partB top 9 1) (lawE top fr) Q ⟨h, g, dr, t₀, os⟩ := by
  obtain ⟨hb, hmark⟩ := Z.lc.i9
  rw [hb]
  have low := X.low
  have hlt := X.hlt
  obtain ⟨aux, ep, x0⟩ := X.xfr
  refine own_if (own_or (own_ne hmark ?_))
  refine val_fin (pre_one T x0 low.1) sep hP a (by (first | lia | omega)) rfl (Z.lc.e1 _ t₀ fr S G.lx jl wd aux ep) trivial fun h1 B1 => ?_
  have c1 : Chg h h1 [fr] := B1.chg
  have T1 : TopOk top h1 := T.chg sep c1 (by intro b hb; simp at hb; (first | lia | omega))
  have s1 := B1.size
  have X1 := X.chg c1 (by intro b hb; simp at hb; (first | lia | omega)) (B1.dicAt 0 rfl)
  obtain ⟨aux1, ep1, x1⟩ := X1.xfr
  obtain ⟨ed, xd⟩ := X1.xda
  obtain ⟨en, xn⟩ := X1.xnl
  obtain ⟨eh, xh⟩ := X1.xhl
  refine val_fin (pre_N T1 X1 x1 xd xn (.inl rfl) xh X1.c3 (by (first | lia | omega))) sep hP a (by (first | lia | omega)) rfl (Z.lc.e2 n D N H h4 h7 hD hN hH _ _ fr S G.lx jl wd aux1 ep1 _ _ ed en eh) trivial fun h2 B2 => ?_
  have c2 : Chg h1 h2 [fr] := same_N B2 (fun p hp => .tail _ (List.mem_append_right _ hp)) xd xn xh X1.c2 X1.c3
  have T2 : TopOk top h2 := T1.chg sep c2 (by intro b hb; simp at hb; (first | lia | omega))
  have s2 := B2.size
  have X2 := X1.chg c2 (by intro b hb; simp at hb; (first | lia | omega)) (B2.dicAt 0 rfl)
  have J2 : Jobs h2 jl tl js e := (J.chg c1 (by simp; (first | lia | omega)) fun t ht => by have := htl t ht; simp; (first | lia | omega)).chg c2 (by simp; (first | lia | omega)) fun t ht => by have := htl t ht; simp; (first | lia | omega)
  have K2 : Jobs h2 (h1.objs.size + 2) (refF (h1.objs.size + 4) (zipJ H N)) (zipJ H N) n := jobs_new (B2.has _ (.head _) _ rfl) (hasO_sub B2.has fun p hp => .tail _ (List.mem_append_left _ hp)) (by (first | lia | omega)) (by (first | lia | omega))
  obtain ⟨z1, z2⟩ := zip_hrs H N (by (first | lia | omega))
  have hun : (A.under (lawF top fr)).units + 1 < cLine := by
    show A.units + (lawF top fr).cUnits + 1 < 9900
    have := (a.room (by (first | lia | omega) : nr ≤ 400)).units
    have := (ok_weight (c := lawF top fr) rfl).2
    (first | lia | omega)
  refine ne_jobs (s := ⟨h2, g, dr, _, os⟩) hun J2 K2 (by rw [z1, e1]) (by rw [z2, e2]) ⟨rfl, rfl, ?_⟩
  have XL2 : LexSt top h2 G ln rs := (XL.chg c1 fun b hb => by have := hG b hb; simp; (first | lia | omega)).chg c2 fun b hb => by have := hG b hb; simp; (first | lia | omega)
  obtain ⟨tln, aux3, ep3, xl⟩ := XL2.ld
  obtain ⟨aux2, ep2, x2⟩ := X2.xfr
  have nd := XL.nd
  have n1 : G.lx ≠ G.ld := by
    simp only [GS.adrs, List.nodup_cons, List.mem_cons, List.not_mem_nil, or_false, not_or] at nd
    exact nd.1.1
  have gA := hG G.lx (by simp [GS.adrs])
  have gB := hG G.ld (by simp [GS.adrs])
  have gC := hG G.sg (by simp [GS.adrs])
  have pre3 : Pre top h2 [(fr, frO (v10 S G.lx jl wd []) aux2 ep2), (G.lx, lxO G.ld), (G.ld, dicF "dict" (G.vd ln tln) aux3 ep3)] := by
    refine pre_mk T2 ?_ ?_ ?_
    · intro q hq
      simp only [List.mem_cons, List.not_mem_nil, or_false] at hq
      rcases hq with rfl | rfl | rfl
      · exact x2
      · exact XL2.lx
      · exact xl
    · simp [n1]; (first | lia | omega)
    · intro q hq
      simp at hq
      (first | lia | omega)
  refine bool_stop pre3 sep hP a (by (first | lia | omega)) rfl (Z.lc.e3 _ _ fr S G jl wd aux2 ep2 aux3 ep3 ln tln) trivial fun h3 B3 A3 a3 => ?_
  have c3 : Chg h2 h3 [fr] := B3.chg.drop fun b hb hn => by
    simp only [List.map_cons, List.map_nil, List.mem_cons, List.not_mem_nil, or_false] at hb hn
    rcases hb with rfl | rfl | rfl
    · exact absurd rfl hn
    · exact same_of XL2.lx (B3.at 0 rfl)
    · exact same_of xl (B3.at 1 rfl)
  have T3 : TopOk top h3 := T2.chg sep c3 (by intro b hb; simp at hb; (first | lia | omega))
  have s3 := B3.size
  have X3 := X2.chg c3 (by intro b hb; simp at hb; (first | lia | omega)) (B3.dicAt 0 rfl)
  refine callsTo (gt_end hP Z.gt Z.cz sep T3 a3 (by (first | lia | omega)) (by (first | lia | omega)) hlead hrr hrl (XL2.chg c3 fun b hb => by have := hG b hb; simp; (first | lia | omega)) fun h4' t4 tn c4 => ?_)
  have T4 : TopOk top h4' := T3.chg sep c4 (by intro b hb; simp at hb; (first | lia | omega))
  refine res_fin (L := []) (pre_nil T4) sep hP a (by (first | lia | omega)) (Z.lc.e4 _ _ fr S G jl wd aux2 ep2 aux3 ep3 ln tln _ t4 tn) trivial fun h5 B5 => ?_
  have c5 : Chg h4' h5 [] := B5.chg
  have T5 : TopOk top h5 := T4.chg sep c5 (by simp)
  have s4 := c4.size
  refine ⟨rfl, ?_⟩
  show OwnP w A _ [] _ _ _
  refine own_nil (Y h5 _ T5 ?_ ?_ ?_)
  · exact (X3.chg c4 (by intro b hb; simp at hb; (first | lia | omega)) (X3.xfr.kp c4 (by simp; (first | lia | omega)))).chg c5 (by simp) ((X3.xfr.kp c4 (by simp; (first | lia | omega))).kp c5 (by simp))
  · have j1 : G.ld < jl := hGj _ (by simp [GS.adrs])
    have j2 : G.sg < jl := hGj _ (by simp [GS.adrs])
    exact (((J2.chg c3 (by simp; (first | lia | omega)) fun t ht => by have := htl t ht; simp; (first | lia | omega)).chg c4 (by simp; (first | lia | omega)) fun t ht => by have := htl t ht; simp; (first | lia | omega)).chg c5 (by simp) (by simp))
  · exact ((((c1.trans c2).trans c3).trans c4).trans c5).old fun b hb => by simp at hb ⊢; (first | lia | omega)
end
end
end Mine

end
section
open PySem PySem.W PySem.W.X PyProof.Rows
set_option maxRecDepth 100000
set_option Elab.async false
set_option maxHeartbeats 2000000
set_option genInjectivity false
set_option genSizeOfSpec false
namespace Mine
noncomputable section
noncomputable def ca (tot : Int) (k : Nat) : Nat := (cK tot k).toNat
theorem cK_ok (tot : Int) (k : Nat) : cK tot k = ((ca tot k : Nat) : Int) ∧ 1 ≤ ca tot k ∧ ca tot k ≤ 4 := by
  have key : ∀ z : Int, 0 ≤ Int.fmod z 4 ∧ Int.fmod z 4 < 4 := fun z => ⟨Int.fmod_nonneg_of_pos z (by decide), Int.fmod_lt_of_pos z (by decide)⟩
  have h : 1 ≤ cK tot k ∧ cK tot k ≤ 4 := by
    unfold cK
    split
    · have := key (Int.fdiv tot (.ofNat (4 ^ 0)) + 2); (first | lia | omega)
    · have := key (Int.fdiv tot (.ofNat (4 ^ 1)) + 1); (first | lia | omega)
    · have := key (Int.fdiv tot (.ofNat (4 ^ 2)) + 1); (first | lia | omega)
  unfold ca
  (first | lia | omega)
theorem sK_ok (tot : Int) (k : Nat) : 0 ≤ sK tot k := by
  have key : ∀ z : Int, 0 ≤ Int.fmod z 5 := fun z => Int.fmod_nonneg_of_pos z (by decide)
  unfold sK
  split
  · have := key (Int.fdiv tot (64 * .ofNat (5 ^ 0)) + 4); (first | lia | omega)
  · have := key (Int.fdiv tot (64 * .ofNat (5 ^ 1)) + 2); (first | lia | omega)
  · have := key (Int.fdiv tot (64 * .ofNat (5 ^ 2)) + 1); (first | lia | omega)
section
variable {P : Params} {top : Nat → Option Obj} {w : World} {A : Around} {R : Result → Shared → Prop} {g : Array GenState} {dr : Drawn} {os : OsState} {h : Heap} {t₀ : Nat} {Q : Flow → Shared → Prop}
noncomputable def DesksAt (h : Heap) (dl : Nat) (tot : Int) : Prop := ∃ d0 d1 d2 e tc ts, Desks h dl d0 d1 d2 e (ca tot) (sK tot) tc ts
theorem DesksAt.chg {h h' : Heap} {dl : Nat} {tot : Int} {fr : Nat} (X : DesksAt h dl tot) (c : Chg h h' [fr]) (hfr : ∀ o, h.get? fr = some o → o.cls ≠ .type "list" ∧ o.cls ≠ .type "tuple" ∧ o.cls ≠ .none) : DesksAt h' dl tot := by
  obtain ⟨d0, d1, d2, e, tc, ts, D⟩ := X
  have key : ∀ b o, h.get? b = some o → (o.cls = .type "list" ∨ o.cls = .type "tuple") → h'.get? b = some o := fun b o hb hc => c.kp hb (by
    simp only [List.mem_cons, List.not_mem_nil, or_false]
    intro e
    subst e; have := hfr _ hb; rcases hc with q | q <;> simp_all)
  exact ⟨d0, d1, d2, e, tc, ts, key _ _ D.list (.inl rfl), key _ _ D.t0 (.inr rfl), key _ _ D.t1 (.inr rfl), key _ _ D.t2 (.inr rfl), D.low⟩
theorem part_e (hP : P = w.params) (Z : AllRuns P top) (sep : TopSep top) (T : TopOk top h) {nr : Nat} (a : Rm A nr) (ha : nr ≤ 305) {fr M tM lx jl da nl hl} {wd : Value} {S : F7} {D : List (Int × Nat)} {N : List (Str × Nat)} {H : List (Int × Nat)} (hH : H.length ≤ 9) (X : LawSt h fr (v10 S lx jl wd []) M tM none da nl hl D N H)
    (Y : ∀ h' t' dl td Td, TopOk top h' → LawSt h' fr (v10 S lx jl wd [.ref dl]) M tM (some (.ref td)) da nl hl D N H → DesksAt h' dl M → hl < td → (∃ e, h'.get? td = some (lsO (ivs Td) e)) → Td.length = H.length → (∀ n', n' < H.length → Top' (at' (H.map (·.1))) [(ca M 0, sK M 0), (ca M 1, sK M 1), (ca M 2, sK M 2)] n' (at' (Td.map (·.1)) n')) → Chg h h' [fr, fr + 4] → Q .next ⟨h', g, dr, t', os⟩) : OwnP w A (lawF top fr) (partB top 10 2) (lawE top fr) Q ⟨h, g, dr, t₀, os⟩ := by
  have low := X.low
  have hlt := X.hlt
  obtain ⟨aux, ep, x0⟩ := X.xfr
  have pre : Pre top h [(fr, frO (v10 S lx jl wd []) aux ep), (fr + 1, ceO (some (.int M tM))), (fr + 3, ceO (some (.ref hl)))] := by
    refine pre_mk T ?_ ?_ ?_
    · intro q hq
      simp only [List.mem_cons, List.not_mem_nil, or_false] at hq
      rcases hq with rfl | rfl | rfl
      · exact x0
      · exact X.c1
      · exact X.c3
    · simp
    · intro q hq
      simp at hq
      (first | lia | omega)
  refine own_stop pre sep hP a (by (first | lia | omega)) rfl (Z.lc.f1 _ t₀ fr S lx jl wd aux ep M tM hl) trivial fun h1 B1 A1 a1 => ?_
  have c1 : Chg h h1 [fr] := B1.chg.drop fun b hb hn => by
    simp only [List.map_cons, List.map_nil, List.mem_cons, List.not_mem_nil, or_false] at hb hn
    rcases hb with rfl | rfl | rfl
    · exact absurd rfl hn
    · exact same_of X.c1 (B1.at 4 rfl)
    · exact same_of X.c3 (B1.at 5 rfl)
  have T1 : TopOk top h1 := T.chg sep c1 (by intro b hb; simp at hb; (first | lia | omega))
  have s1 := B1.size
  have X1 := X.chg c1 (by intro b hb; simp at hb; (first | lia | omega)) (B1.dicAt 0 rfl)
  obtain ⟨eh, xh⟩ := X1.xhl
  have D1 : Desks h1 (h.objs.size + 2) (h.objs.size + 6) (h.objs.size + 9) (h.objs.size + 12) 3 (ca M) (sK M) (fun k => match k with | 0 => t₀ + 15 | 1 => t₀ + 41 | _ => t₀ + 67) (fun k => match k with | 0 => t₀ + 28 | 1 => t₀ + 54 | _ => t₀ + 80) :=
    ⟨B1.at 0 rfl, by have q := B1.at 1 rfl; rw [(cK_ok M 0).1] at q; exact q, by have q := B1.at 2 rfl; rw [(cK_ok M 1).1] at q; exact q, by have q := B1.at 3 rfl; rw [(cK_ok M 2).1] at q; exact q, by (first | lia | omega)⟩
  refine callsTo (due_spec hP Z.du sep T1 a1 (by (first | lia | omega)) (fun k => (cK_ok M k).2) hH xh D1 (by (first | lia | omega)) (by (first | lia | omega)) (by simp; (first | lia | omega)) fun h2 t2 td Td etd q1 q2 q3 c2 q4 => ?_)
  have T2 : TopOk top h2 := T1.chg sep c2 (by simp)
  have s2 := c2.size
  have X2 := X1.chg c2 (by simp) (X1.xfr.kp c2 (by simp))
  refine res_fin (pre_one T2 X2.c4 (by (first | lia | omega))) sep hP a (by (first | lia | omega)) (Z.lc.f2 _ t₀ fr S lx jl wd aux ep M tM hl _ t2 td) trivial fun h3 B3 => ?_
  have c3 : Chg h2 h3 [fr + 4] := B3.chg
  have T3 : TopOk top h3 := T2.chg sep c3 (by intro b hb; simp at hb; (first | lia | omega))
  have D2 := D1.chg c2
  have X3 : LawSt h3 fr (v10 S lx jl wd [.ref (h.objs.size + 2)]) M tM (some (.ref td)) da nl hl D N H := by
    obtain ⟨u1, v1⟩ := X2.xda
    obtain ⟨u2, v2⟩ := X2.xnl
    obtain ⟨u3, v3⟩ := X2.xhl
    exact ⟨X2.xfr.kp c3 (by simp), c3.kp X2.c1 (by simp), c3.kp X2.c2 (by simp), c3.kp X2.c3 (by simp), B3.at 0 rfl, ⟨u1, c3.kp v1 (by simp; (first | lia | omega))⟩, ⟨u2, c3.kp v2 (by simp; (first | lia | omega))⟩, ⟨u3, c3.kp v3 (by simp; (first | lia | omega))⟩, low⟩
  refine Y h3 _ (h.objs.size + 2) td Td T3 X3 ⟨_, _, _, _, (fun k => match k with | 0 => t₀ + 15 | 1 => t₀ + 41 | _ => t₀ + 67), (fun k => match k with | 0 => t₀ + 28 | 1 => t₀ + 54 | _ => t₀ + 80), c3.kp D2.list (by simp; (first | lia | omega)), c3.kp D2.t0 (by simp; (first | lia | omega)), c3.kp D2.t1 (by simp; (first | lia | omega)), c3.kp D2.t2 (by simp; (first | lia | omega)), D2.low⟩ (by (first | lia | omega)) ⟨etd, c3.kp q1 (by simp; (first | lia | omega))⟩ q2 q3 ?_
  exact ((c1.trans c2).trans c3).old fun b hb => by simp at hb ⊢; (first | lia | omega)
theorem part_f (hP : P = w.params) (Z : AllRuns P top) (sep : TopSep top) (T : TopOk top h) {nr : Nat} (a : Rm A nr) (ha : nr ≤ 305) {fr M tM lx jl td} {wd ds : Value} {S : F7} {D : List (Int × Nat)} {N : List (Str × Nat)} {H Td : List (Int × Nat)} {n : Nat} (h4 : 4 ≤ n) (h7 : n ≤ 7) (hD : D.length = n) (hN : N.length = n) (hT : Td.length = n) (X : LawSt h fr (v10 S lx jl wd [ds]) M tM (some (.ref td)) S.dr (S.dr + 1) (S.dr + 2) D N H) (htd : S.dr + 2 < td) (xt : ∃ e, h.get? td = some (lsO (ivs Td) e))
    (Y : ∀ h' t' du, TopOk top h' → IsDic h' fr "frame" (vsL (v10 S lx jl wd [ds, .ref du])) → JobsAt h' du (zipJ Td N) → S.dr + 2 < du → Chg h h' [fr] → Q .next ⟨h', g, dr, t', os⟩) : OwnP w A (lawF top fr) (partB top 12 1) (lawE top fr) Q ⟨h, g, dr, t₀, os⟩ := by
  have low := X.low
  have hlt := X.hlt
  obtain ⟨aux, ep, x0⟩ := X.xfr
  obtain ⟨ed, xd⟩ := X.xda
  obtain ⟨en, xn⟩ := X.xnl
  obtain ⟨et, xt⟩ := xt
  refine own_fin (pre_N T X x0 xd xn (.inr rfl) xt X.c4 (by (first | lia | omega))) sep hP a (by (first | lia | omega)) rfl (Z.lc.g1 n D N Td h4 h7 hD hN hT _ t₀ fr S lx jl wd ds aux ep _ _ ed en et) trivial fun h2 B2 => ?_
  have c2 : Chg h h2 [fr] := same_N B2 (fun p hp => .tail _ (List.mem_append_right _ hp)) xd xn xt X.c2 X.c4
  have K2 : Jobs h2 (h.objs.size + 2) (refF (h.objs.size + 4) (zipJ Td N)) (zipJ Td N) n := jobs_new (B2.has _ (.head _) _ rfl) (hasO_sub B2.has fun p hp => .tail _ (List.mem_append_left _ hp)) (by (first | lia | omega)) (by (first | lia | omega))
  exact Y h2 _ _ (T.chg sep c2 (by intro b hb; simp at hb; (first | lia | omega))) (B2.dicAt 0 rfl) ⟨_, _, K2⟩ (by (first | lia | omega)) c2
theorem part_g (hP : P = w.params) (Z : AllRuns P top) (sep : TopSep top) (T : TopOk top h) {nr : Nat} (a : Rm A nr) (ha : nr ≤ 305) {fr : Nat} {S : F12} {jjs jdu : List Job} {tot : Int} (low : 143 ≤ fr) (hf : IsDic h fr "frame" (vsL (S.vs []))) (X : Ord h S jjs jdu (ca tot) (sK tot)) (h4 : 4 ≤ jjs.length) (h7 : jjs.length ≤ 7) (up : Up (0 :: hrs jjs)) (hn : nms jjs = nms jdu)
    (all : ∀ f s, f < 3 → s < 3 → s ≠ f → deskGo (ca tot (3 - f - s)) (sK tot (3 - f - s)) [] (deskGo (ca tot s) (sK tot s) [] (deskGo (ca tot f) (sK tot f) [] (hrs jjs))) = hrs jdu)
    (Y : ∀ h' t', TopOk top h' → Chg h h' [fr] → Q .next ⟨h', g, dr, t', os⟩) : OwnP w A (lawF top fr) (partB top 13 1) (lawE top fr) Q ⟨h, g, dr, t₀, os⟩ := by
  obtain ⟨aux, ep, x0⟩ := hf
  have hfr : fr < h.objs.size := Heap.lt_size x0
  refine own_stop (pre_one T x0 low) sep hP a (by (first | lia | omega)) rfl (Z.ld.h1 _ t₀ fr S aux ep) trivial fun h1 B1 A1 a1 => ?_
  have c1 : Chg h h1 [fr] := B1.chg
  have c1' : Chg h h1 [fr, fr] := c1.drop fun b hb hn => by simp at hb hn; (first | lia | omega)
  have T1 : TopOk top h1 := T.chg sep c1 (by intro b hb; simp at hb; (first | lia | omega))
  have s1 := B1.size
  have X1 := X.chg c1' (fr_cls ⟨aux, ep, x0⟩) (fr_cls ⟨aux, ep, x0⟩)
  refine callsTo (first_loop hP Z sep a1 (by (first | lia | omega)) (fun k => (cK_ok tot k).2) (sK_ok tot) (by (first | lia | omega)) h4 h7 up hn all 3 0 none h1 _ rfl T1 (by (first | lia | omega)) (B1.dicAt 0 rfl) (B1.at 0 rfl) X1 fun h2 t2 T2 c2 => ?_)
  refine res_fin (L := []) (pre_nil T2) sep hP a (by (first | lia | omega)) (Z.ld.h2 _ t₀ fr S aux ep _ t2) trivial fun h3 B3 => ?_
  have c3 : Chg h2 h3 [] := B3.chg
  exact Y h3 _ (T2.chg sep c3 (by simp)) (((c1.trans c2).trans c3).old fun b hb => by simp at hb ⊢; (first | lia | omega))
end
end
end Mine

end
section
open PySem PySem.W PySem.W.X PyProof.Rows
set_option maxRecDepth 100000
set_option Elab.async false
set_option maxHeartbeats 2000000
set_option genInjectivity false
set_option genSizeOfSpec false
namespace Mine
noncomputable section
theorem law_parts {top : Nat → Option Obj} (hl : (lawB top).length = 15) : lawB top = partB top 0 5 ++ (partB top 5 1 ++ (partB top 6 3 ++ (partB top 9 1 ++ (partB top 10 2 ++ (partB top 12 1 ++ (partB top 13 1 ++ partB top 14 1)))))) := by
  have step : ∀ i n, (lawB top).drop i = partB top i n ++ (lawB top).drop (i + n) := fun i n => by
    unfold partB
    rw [← List.drop_drop, List.take_append_drop]
  have h0 : lawB top = (lawB top).drop 0 := by simp
  have h15 : (lawB top).drop (14 + 1) = [] := by simp [hl]
  have e := step 14 1
  rw [h15, List.append_nil] at e
  rw [← e, ← step 13 1, ← step 12 1, ← step 10 2, ← step 9 1, ← step 6 3, ← step 5 1, ← step 0 5]
  exact h0
theorem draws_ok {D xs : List (Int × Nat)} (h : D.map (·.1) = [13, 3, 7, 21] ++ (xs.take 3).map (·.1)) : 4 ≤ D.length ∧ D.length ≤ 7 ∧ (∀ j x, D[j]? = some x → okA j (figK x.1) (figG x.1) (figB x.1)) ∧ (∀ j x, 1 ≤ j → D[j]? = some x → okT j (figK x.1) (figG x.1) (figB x.1)) := by
  have hl := congrArg List.length h
  simp at hl
  have key : ∀ j x, D[j]? = some x → okA j (figK x.1) (figG x.1) (figB x.1) := by
    intro j x hx
    have hj : (D.map (·.1))[j]? = some x.1 := by rw [List.getElem?_map, hx]; rfl
    have hlt : j < D.length := (List.getElem?_eq_some_iff.mp hx).1
    rw [h] at hj
    match j with
    | 0 =>
      have : x.1 = 13 := by simpa using hj.symm
      rw [this]
      exact .inl (by decide)
    | 1 =>
      have : x.1 = 3 := by simpa using hj.symm
      rw [this]
      exact .inr (.inl (by decide))
    | 2 =>
      have : x.1 = 7 := by simpa using hj.symm
      rw [this]
      exact .inr (.inr (.inl (by decide)))
    | 3 =>
      have : x.1 = 21 := by simpa using hj.symm
      rw [this]
      exact .inr (.inr (.inr (.inl (by decide))))
    | j + 4 =>
      obtain ⟨_, _, _, g1, g2, g3⟩ := fig_ok x.1
      exact .inr (.inr (.inr (.inr ⟨by (first | lia | omega), by (first | lia | omega), g1, g2, g3⟩)))
  refine ⟨by (first | lia | omega), by (first | lia | omega), key, fun j x hj hx => ?_⟩
  rcases key j x hx with h | h
  · (first | lia | omega)
  · exact h
theorem perm_fs {α : Type} (p : Nat → α) {f s : Nat} (hf : f < 3) (hs : s < 3) (hn : s ≠ f) : [p f, p s, p (3 - f - s)].Perm [p 0, p 1, p 2] := by
  have h1 : f = 0 ∨ f = 1 ∨ f = 2 := by (first | lia | omega)
  have h2 : s = 0 ∨ s = 1 ∨ s = 2 := by (first | lia | omega)
  rcases h1 with rfl | rfl | rfl <;> rcases h2 with rfl | rfl | rfl
  · exact absurd rfl hn
  · exact List.Perm.refl _
  · exact .cons _ (.swap _ _ _)
  · exact .swap _ _ _
  · exact absurd rfl hn
  · exact (List.Perm.cons _ (.swap _ _ _)).trans (.swap _ _ _)
  · exact (List.Perm.swap _ _ _).trans (.cons _ (.swap _ _ _))
  · exact ((List.Perm.swap _ _ _).trans (.cons _ (.swap _ _ _))).trans (.swap _ _ _)
  · exact absurd rfl hn
section
variable {P : Params} {top : Nat → Option Obj} {w : World} {A : Around} {R : Result → Shared → Prop} {g : Array GenState} {dr : Drawn} {os : OsState} {h : Heap} {t₀ : Nat}
theorem law_spec (hP : P = w.params) (Z : AllRuns P top) (sep : TopSep top) (T : TopOk top h) {nr : Nat} (a : Rm A nr) (ha : nr ≤ 305) {sl e : Nat} {xs : List (Int × Nat)} (hsl : h.get? sl = some (lsO (ivs xs) e)) (low : 143 ≤ sl) (hn : xs.length ≤ 100) (h97 : h.get? 97 = some o97e)
    (Y : ∀ h' t' c1 c2, Chg h h' [97] → h'.get? 97 = some (o97 c1 c2) → R (.ok (.ret (.bool true))) ⟨h', g, dr, t', os⟩) : codeAny (Md w) A (lawCl sl) R ⟨h, g, dr, t₀, os⟩ := by
  have hlt : sl < h.objs.size := Heap.lt_size hsl
  refine code_again (pre_one T hsl low) sep hP a (by (first | lia | omega)) rfl (Z.la.a0 _ t₀ sl xs e) trivial fun h1 B1 => ?_
  have k1 : Chg h h1 [] := B1.chg.drop fun b hb hn => by
    simp at hb; subst hb
    exact same_of hsl (B1.at 0 rfl)
  have T1 : TopOk top h1 := T.chg sep k1 (by simp)
  have s1 := B1.size
  refine func_own ?_
  show OwnP w A (lawF top h.objs.size) (lawB top) (lawE top h.objs.size) _ _
  rw [law_parts Z.la.len]
  refine own_app (part_a hP Z.la sep T1 a (by (first | lia | omega)) s1 ⟨low, hlt⟩ (B1.dicAt 0 rfl) (B1.at 1 rfl) (B1.at 2 rfl) (B1.at 3 rfl) (B1.at 4 rfl) (k1.kp hsl (by simp)) (by (first | lia | omega)) fun h2 t2 M tM D da tt hD X2 l1 l2 hM k2 => ?_)
  obtain ⟨d4, d7, okAll, okR⟩ := draws_ok hD
  have T2 : TopOk top h2 := T1.chg sep k2 (by intro b hb; simp at hb; (first | lia | omega))
  have L2 : LawSt h2 h.objs.size [.ref sl, .ref da, .str ⟨⟨[]⟩⟩ tt] M tM none da (da + 1) (da + 2) D [] [] := ⟨X2.xfr, hM, X2.xcn, X2.xch, k2.kp (B1.at 4 rfl) (by simp), X2.xda, X2.xnl, X2.xhl, by (first | lia | omega)⟩
  have k12 : Chg h h2 [] := (k1.trans k2).old fun b hb => by simp at hb ⊢; (first | lia | omega)
  refine own_app (part_b hP Z sep T2 a (by (first | lia | omega)) d7 (by rw [hD]; rfl) okR L2 fun h3 t3 tt3 w1 w2 w3 w4 N H T3 L3 n3 m3 k3 => ?_)
  have k13 : Chg h h3 [] := (k12.trans k3).old fun b hb => by simp at hb ⊢; (first | lia | omega)
  refine own_app (part_c (S := (⟨sl, da, textGo 0 [] (D.map (fun x : Int × Nat => x.1)), tt3, w1, w2, w3, w4⟩ : F7)) (M := M) (tM := tM) (D := D) (N := N) (H := H) hP Z sep T3 a (by (first | lia | omega)) d7 d4 okAll rfl L3 (k13.kp h97 (by simp)) fun h4 t4 S G jl wd ln rs lead js c1 c2 g1 g2 T4 L4 h97' XL hrr hlead hrl hG _ hjl e1 e2 k4 ⟨tl, ej, J4, htl, hGj⟩ => ?_)
  have g2' : S.dr = da := g2
  have hH : H.map (·.1) = lineGo 0 1 [] (D.map (·.1)) := by
    rw [m3]
    have := hours_is (D.map (·.1)) 0 [] []
    simpa [nlc] using this
  have nN : N.length = D.length := by have := congrArg List.length n3; simpa [names_len] using this
  have nH : H.length = D.length := by have := congrArg List.length hH; simpa [line_len] using this
  have E1 : hrs js = H.map (·.1) := by rw [e1, hH]
  have E2 : nms js = N.map (·.1) := by rw [e2, n3]
  replace L4 : LawSt h4 h.objs.size (v10 S G.lx jl wd []) M tM none S.dr (S.dr + 1) (S.dr + 2) D N H := by rw [g2']; exact L4
  replace hG : ∀ b ∈ G.adrs, S.dr + 2 < b := by rw [g2']; exact hG
  replace hjl : S.dr + 2 < jl := by rw [g2']; exact hjl
  refine own_app (part_d hP Z sep T4 a (by (first | lia | omega)) d4 d7 rfl nN nH L4 XL hrr hlead hrl hG J4 hjl htl hGj E1 E2 fun h5 t5 T5 L5 J5 k5 => ?_)
  have low5 := L5.low
  have gl : S.dr + 2 < G.ld ∧ S.dr + 2 < G.sg := ⟨hG _ (by simp [GS.adrs]), hG _ (by simp [GS.adrs])⟩
  have h97a : h5.get? 97 = some (o97 c1 c2) := k5.kp h97' (by simp; (first | lia | omega))
  refine own_app (part_e hP Z sep T5 a (by (first | lia | omega)) (by (first | lia | omega)) L5 fun h6 t6 dl td Td T6 L6 D6 ltd xt lT tp k6 => ?_)
  have h97b : h6.get? 97 = some (o97 c1 c2) := k6.kp h97a (by simp; (first | lia | omega))
  have J6 : Jobs h6 jl tl js ej := J5.chg k6 (by simp; (first | lia | omega)) fun t ht => by have q : t > jl := htl t ht; simp; (first | lia | omega)
  refine own_app (part_f hP Z sep T6 a (by (first | lia | omega)) d4 d7 rfl nN (by (first | lia | omega)) L6 ltd xt fun h7 t7 du T7 f7 J7 ldu k7 => ?_)
  have h97c : h7.get? 97 = some (o97 c1 c2) := k7.kp h97b (by simp; (first | lia | omega))
  have J7' : Jobs h7 jl tl js ej := J6.chg k7 (by simp; (first | lia | omega)) fun t ht => by have q : t > jl := htl t ht; simp; (first | lia | omega)
  obtain ⟨z1, z2⟩ := zip_hrs Td N (by (first | lia | omega))
  have ljs : js.length = D.length := by have := congrArg List.length E1; simpa [nH] using this
  have nn : ∀ x ∈ hrs js, 0 ≤ x := fun x hx => by
    rw [e1] at hx
    have := line_up _ _ _ _ x hx
    (first | lia | omega)
  have up : Up (0 :: hrs js) := up_cons nn (by rw [e1]; exact line_Up _ _ _ _)
  have D7 : DesksAt h7 dl M := D6.chg k7 (fr_cls L6.xfr)
  obtain ⟨q0, q1, q2, qe, qtc, qts, D7'⟩ := D7
  have O7 : Ord h7 ⟨S, G.lx, jl, wd, dl, du⟩ js (zipJ Td N) (ca M) (sK M) := ⟨⟨tl, ej, J7'⟩, J7, ⟨q0, q1, q2, qe, qtc, qts, D7'⟩, c1, c2, h97c⟩
  refine own_app (part_g (S := (⟨S, G.lx, jl, wd, dl, du⟩ : F12)) hP Z sep T7 a (by (first | lia | omega)) (by (first | lia | omega)) f7 O7 (by (first | lia | omega)) (by (first | lia | omega)) up (by rw [z2, E2]) (fun f s hf hs hne => ?_) fun h8 t8 T8 k8 => ?_)
  · rw [z1]
    have p := perm_fs (fun k => ((ca M k, sK M k) : Nat × Int)) hf hs hne
    have q := served_is (ds := [(ca M f, sK M f), (ca M s, sK M s), (ca M (3 - f - s), sK M (3 - f - s))]) (hs := hrs js) (E := Td.map (·.1)) (by
      intro d hd
      simp at hd
      rcases hd with rfl | rfl | rfl <;> exact ⟨(cK_ok M _).2.1, sK_ok M _⟩) nn p (by rw [List.length_map, lT, E1, List.length_map]) (by
      rw [E1]
      intro n hn'
      exact tp n (by simpa using hn'))
    exact q
  · have h97d : h8.get? 97 = some (o97 c1 c2) := k8.kp h97c (by simp; (first | lia | omega))
    refine own_fin (L := []) (pre_nil T8) sep hP a (by (first | lia | omega)) rfl (Z.ld.z1 _ t8 h.objs.size) trivial fun h9 B9 => ?_
    have k9 : Chg h8 h9 [] := B9.chg
    refine Y h9 _ c1 c2 ?_ (k9.kp h97d (by simp))
    refine (((((((k13.trans k4).trans k5).trans k6).trans k7).trans k8).trans k9)).old fun b hb => ?_
    simp at hb ⊢
    (first | lia | omega)
end
end
end Mine

end
section
open PySem PySem.W
set_option maxRecDepth 100000
set_option Elab.async false
set_option maxHeartbeats 2000000
set_option genInjectivity false
set_option genSizeOfSpec false
namespace Mine
theorem hrRuns_z_r1 (P : Params) (b1 b2 b3 : Bool) : HrRuns_r1 (setRows P b1 b2 b3) (zTop (setRows P b1 b2 b3)) := by
  revert b1; refine allB ?_ ?_
  · intro _; intros; intro B t₀; kernel_rfl
  · intro _; intros; intro B t₀; kernel_rfl
theorem hrRuns_z_r2 (P : Params) (b1 b2 b3 : Bool) : HrRuns_r2 (setRows P b1 b2 b3) (zTop (setRows P b1 b2 b3)) := by
  revert b1; refine allB ?_ ?_
  · intro _; intros; intro B t₀; kernel_rfl
  · intro _; intros; intro B t₀; kernel_rfl
theorem hrRuns_z_r3a (P : Params) (b1 b2 b3 : Bool) : HrRuns_r3a (setRows P b1 b2 b3) (zTop (setRows P b1 b2 b3)) := by
  revert b1; refine allB ?_ ?_
  · intro _; intros; intro B t₀; kernel_rfl
  · intro _; intros; intro B t₀; kernel_rfl
theorem hrRuns_z_r3b (P : Params) (b1 b2 b3 : Bool) : HrRuns_r3b (setRows P b1 b2 b3) (zTop (setRows P b1 b2 b3)) := by
  revert b1; refine allB ?_ ?_
  · intro _; intros; intro B t₀; kernel_rfl
  · intro _; intros; intro B t₀; kernel_rfl
theorem hrRuns_z_r4a (P : Params) (b1 b2 b3 : Bool) : HrRuns_r4a (setRows P b1 b2 b3) (zTop (setRows P b1 b2 b3)) := by
  revert b1; refine allB ?_ ?_
  · intro _; intros; intro B t₀; kernel_rfl
  · intro _; intros; intro B t₀; kernel_rfl
theorem hrRuns_z_r4b (P : Params) (b1 b2 b3 : Bool) : HrRuns_r4b (setRows P b1 b2 b3) (zTop (setRows P b1 b2 b3)) := by
  revert b1; refine allB ?_ ?_
  · intro _; intros; intro B t₀; kernel_rfl
  · intro _; intros; intro B t₀; kernel_rfl
theorem hrRuns_z (P : Params) (b1 b2 b3 : Bool) : HrRuns (setRows P b1 b2 b3) (zTop (setRows P b1 b2 b3)) :=
  ⟨hrRuns_z_r1 P b1 b2 b3, hrRuns_z_r2 P b1 b2 b3, hrRuns_z_r3a P b1 b2 b3, hrRuns_z_r3b P b1 b2 b3, hrRuns_z_r4a P b1 b2 b3, hrRuns_z_r4b P b1 b2 b3⟩
end Mine

end
section
open PySem PySem.W
set_option maxRecDepth 100000
set_option Elab.async false
set_option maxHeartbeats 2000000
set_option genInjectivity false
set_option genSizeOfSpec false
namespace Mine
theorem biRuns_z_entry (P : Params) (b1 b2 b3 : Bool) : BiRuns_entry (setRows P b1 b2 b3) (zTop (setRows P b1 b2 b3)) := by
  revert b1; refine allB ?_ ?_
  · intro B t₀ a xs e x tx; refine allO ?_ ?_ <;> (intros; kernel_rfl)
  · intro B t₀ a xs e x tx; refine allO ?_ ?_ <;> (intros; kernel_rfl)
theorem biRuns_z_turnA (P : Params) (b1 b2 b3 : Bool) : BiRuns_turnA (setRows P b1 b2 b3) (zTop (setRows P b1 b2 b3)) := by
  revert b1; refine allB ?_ ?_
  · intro B t₀ a fr xs e x tx lo tlo hi thi; refine allO ?_ ?_ <;> (intros; kernel_rfl)
  · intro B t₀ a fr xs e x tx lo tlo hi thi; refine allO ?_ ?_ <;> (intros; kernel_rfl)
theorem biRuns_z_turnB (P : Params) (b1 b2 b3 : Bool) : BiRuns_turnB (setRows P b1 b2 b3) (zTop (setRows P b1 b2 b3)) := by
  revert b1; refine allB ?_ ?_
  · intro B t₀ a fr xs e x tx lo tlo hi thi; refine allO ?_ ?_ <;> (intros; kernel_rfl)
  · intro B t₀ a fr xs e x tx lo tlo hi thi; refine allO ?_ ?_ <;> (intros; kernel_rfl)
theorem biRuns_z_last (P : Params) (b1 b2 b3 : Bool) : BiRuns_last (setRows P b1 b2 b3) (zTop (setRows P b1 b2 b3)) := by
  revert b1; refine allB ?_ ?_
  · intro _; intros; kernel_rfl
  · intro _; intros; kernel_rfl
theorem biRuns_z_back (P : Params) (b1 b2 b3 : Bool) : BiRuns_back (setRows P b1 b2 b3) (zTop (setRows P b1 b2 b3)) := by
  revert b1; refine allB ?_ ?_
  · intro B t₀ a xs e x tx mr B2; revert mr; refine allO ?_ ?_ <;> (intros; kernel_rfl)
  · intro B t₀ a xs e x tx mr B2; revert mr; refine allO ?_ ?_ <;> (intros; kernel_rfl)
theorem biRuns_z (P : Params) (b1 b2 b3 : Bool) : BiRuns (setRows P b1 b2 b3) (zTop (setRows P b1 b2 b3)) :=
  ⟨biRuns_z_entry P b1 b2 b3, biRuns_z_turnA P b1 b2 b3, biRuns_z_turnB P b1 b2 b3, biRuns_z_last P b1 b2 b3, biRuns_z_back P b1 b2 b3⟩
end Mine

end
section
open PySem PySem.W
set_option maxRecDepth 100000
set_option Elab.async false
set_option maxHeartbeats 2000000
set_option genInjectivity false
set_option genSizeOfSpec false
namespace Mine
theorem inRuns_z_entry (P : Params) (b1 b2 b3 : Bool) : InRuns_entry (setRows P b1 b2 b3) (zTop (setRows P b1 b2 b3)) := by
  intro _; intros; kernel_rfl
theorem inRuns_z_back (P : Params) (b1 b2 b3 : Bool) : InRuns_back (setRows P b1 b2 b3) (zTop (setRows P b1 b2 b3)) := by
  intro _; intros; kernel_rfl
theorem inRuns_z (P : Params) (b1 b2 b3 : Bool) : InRuns (setRows P b1 b2 b3) (zTop (setRows P b1 b2 b3)) :=
  ⟨inRuns_z_entry P b1 b2 b3, inRuns_z_back P b1 b2 b3⟩
end Mine

end
section
open PySem PySem.W
set_option maxRecDepth 100000
set_option Elab.async false
set_option maxHeartbeats 2000000
set_option genInjectivity false
set_option genSizeOfSpec false
namespace Mine
theorem enRuns_z_e4 (P : Params) (b1 b2 b3 : Bool) : EnRuns_e4 (setRows P b1 b2 b3) (zTop (setRows P b1 b2 b3)) := by
  intro _; intros; (try (intro B; intros)); kernel_rfl
theorem enRuns_z_e5 (P : Params) (b1 b2 b3 : Bool) : EnRuns_e5 (setRows P b1 b2 b3) (zTop (setRows P b1 b2 b3)) := by
  intro _; intros; (try (intro B; intros)); kernel_rfl
theorem enRuns_z_e6 (P : Params) (b1 b2 b3 : Bool) : EnRuns_e6 (setRows P b1 b2 b3) (zTop (setRows P b1 b2 b3)) := by
  intro _; intros; (try (intro B; intros)); kernel_rfl
theorem enRuns_z_e7 (P : Params) (b1 b2 b3 : Bool) : EnRuns_e7 (setRows P b1 b2 b3) (zTop (setRows P b1 b2 b3)) := by
  intro _; intros; (try (intro B; intros)); kernel_rfl
theorem enRuns_z (P : Params) (b1 b2 b3 : Bool) : EnRuns (setRows P b1 b2 b3) (zTop (setRows P b1 b2 b3)) :=
  ⟨enRuns_z_e4 P b1 b2 b3, enRuns_z_e5 P b1 b2 b3, enRuns_z_e6 P b1 b2 b3, enRuns_z_e7 P b1 b2 b3⟩
end Mine

end
section
open PySem PySem.W
set_option maxRecDepth 100000
set_option Elab.async false
set_option maxHeartbeats 2000000
set_option genInjectivity false
set_option genSizeOfSpec false
namespace Mine
theorem roRuns_z_shape (P : Params) (b1 b2 b3 : Bool) : RoRuns_shape (setRows P b1 b2 b3) (zTop (setRows P b1 b2 b3)) := by
  intro fr it; kernel_rfl
theorem roRuns_z_entry (P : Params) (b1 b2 b3 : Bool) : RoRuns_entry (setRows P b1 b2 b3) (zTop (setRows P b1 b2 b3)) := by
  revert b1; refine allB ?_ ?_
  · intro _; intros; kernel_rfl
  · intro _; intros; kernel_rfl
theorem roRuns_z_turn1 (P : Params) (b1 b2 b3 : Bool) : RoRuns_turn1 (setRows P b1 b2 b3) (zTop (setRows P b1 b2 b3)) := by
  revert b1; refine allB ?_ ?_
  · intro B t₀ S; refine allO ?_ ?_ <;> (intros; kernel_rfl)
  · intro B t₀ S; refine allO ?_ ?_ <;> (intros; kernel_rfl)
theorem roRuns_z_turn2T (P : Params) (b1 b2 b3 : Bool) : RoRuns_turn2T (setRows P b1 b2 b3) (zTop (setRows P b1 b2 b3)) := by
  revert b1; refine allB ?_ ?_
  · intro B t₀ S; refine allO ?_ ?_ <;> (intros; kernel_rfl)
  · intro B t₀ S; refine allO ?_ ?_ <;> (intros; kernel_rfl)
theorem roRuns_z_turn2F (P : Params) (b1 b2 b3 : Bool) : RoRuns_turn2F (setRows P b1 b2 b3) (zTop (setRows P b1 b2 b3)) := by
  revert b1; refine allB ?_ ?_
  · intro B t₀ S; refine allO ?_ ?_ <;> (intros; kernel_rfl)
  · intro B t₀ S; refine allO ?_ ?_ <;> (intros; kernel_rfl)
theorem roRuns_z_turn3T (P : Params) (b1 b2 b3 : Bool) : RoRuns_turn3T (setRows P b1 b2 b3) (zTop (setRows P b1 b2 b3)) := by
  revert b1; refine allB ?_ ?_
  · intro B t₀ S; refine allO ?_ ?_ <;> (intros; kernel_rfl)
  · intro B t₀ S; refine allO ?_ ?_ <;> (intros; kernel_rfl)
theorem roRuns_z_turn3F (P : Params) (b1 b2 b3 : Bool) : RoRuns_turn3F (setRows P b1 b2 b3) (zTop (setRows P b1 b2 b3)) := by
  revert b1; refine allB ?_ ?_
  · intro B t₀ S; refine allO ?_ ?_ <;> (intros; kernel_rfl)
  · intro B t₀ S; refine allO ?_ ?_ <;> (intros; kernel_rfl)
theorem roRuns_z_back (P : Params) (b1 b2 b3 : Bool) : RoRuns_back (setRows P b1 b2 b3) (zTop (setRows P b1 b2 b3)) := by
  revert b1; refine allB ?_ ?_
  · intro _; intros; rename_i ex aux ep; revert ex; refine allO ?_ ?_ <;> (intros; kernel_rfl)
  · intro _; intros; rename_i ex aux ep; revert ex; refine allO ?_ ?_ <;> (intros; kernel_rfl)
theorem roRuns_z (P : Params) (b1 b2 b3 : Bool) : RoRuns (setRows P b1 b2 b3) (zTop (setRows P b1 b2 b3)) :=
  ⟨roRuns_z_shape P b1 b2 b3, roRuns_z_entry P b1 b2 b3, roRuns_z_turn1 P b1 b2 b3, roRuns_z_turn2T P b1 b2 b3, roRuns_z_turn2F P b1 b2 b3, roRuns_z_turn3T P b1 b2 b3, roRuns_z_turn3F P b1 b2 b3, roRuns_z_back P b1 b2 b3⟩
end Mine

end
section
open PySem PySem.W
set_option maxRecDepth 100000
set_option Elab.async false
set_option maxHeartbeats 2000000
set_option genInjectivity false
set_option genSizeOfSpec false
namespace Mine
theorem heRuns_z_shape (P : Params) (b1 b2 b3 : Bool) : HeRuns_shape (setRows P b1 b2 b3) (zTop (setRows P b1 b2 b3)) := by
  intro fr it; kernel_rfl
theorem heRuns_z_turnT (P : Params) (b1 b2 b3 : Bool) : HeRuns_turnT (setRows P b1 b2 b3) (zTop (setRows P b1 b2 b3)) := by
  revert b1; refine allB ?_ ?_
  · intro S f0 tf B t₀; refine allO ?_ ?_ <;> (intros; kernel_rfl)
  · intro S f0 tf B t₀; refine allO ?_ ?_ <;> (intros; kernel_rfl)
theorem heRuns_z_turnF (P : Params) (b1 b2 b3 : Bool) : HeRuns_turnF (setRows P b1 b2 b3) (zTop (setRows P b1 b2 b3)) := by
  revert b1; refine allB ?_ ?_
  · intro S f0 tf B t₀; refine allO ?_ ?_ <;> (intros; kernel_rfl)
  · intro S f0 tf B t₀; refine allO ?_ ?_ <;> (intros; kernel_rfl)
theorem heRuns_z_backT (P : Params) (b1 b2 b3 : Bool) : HeRuns_backT (setRows P b1 b2 b3) (zTop (setRows P b1 b2 b3)) := by
  revert b1; refine allB ?_ ?_
  · intro S f0 tf B t₀; refine allO ?_ ?_ <;> (intros; kernel_rfl)
  · intro S f0 tf B t₀; refine allO ?_ ?_ <;> (intros; kernel_rfl)
theorem heRuns_z_backF (P : Params) (b1 b2 b3 : Bool) : HeRuns_backF (setRows P b1 b2 b3) (zTop (setRows P b1 b2 b3)) := by
  revert b1; refine allB ?_ ?_
  · intro S f0 tf B t₀; refine allO ?_ ?_ <;> (intros; kernel_rfl)
  · intro S f0 tf B t₀; refine allO ?_ ?_ <;> (intros; kernel_rfl)
theorem heRuns_z_back (P : Params) (b1 b2 b3 : Bool) : HeRuns_back (setRows P b1 b2 b3) (zTop (setRows P b1 b2 b3)) := by
  revert b1; refine allB ?_ ?_
  · intro B t₀ jl tl ej c tc s ts B2 t2 en dn ex aux ep; revert c; refine all14 ?_ ?_ ?_ ?_ <;> (revert ex; refine allO ?_ ?_ <;> (intros; kernel_rfl))
  · intro B t₀ jl tl ej c tc s ts B2 t2 en dn ex aux ep; revert c; refine all14 ?_ ?_ ?_ ?_ <;> (revert ex; refine allO ?_ ?_ <;> (intros; kernel_rfl))
theorem heRuns_z (P : Params) (b1 b2 b3 : Bool) : HeRuns (setRows P b1 b2 b3) (zTop (setRows P b1 b2 b3)) :=
  ⟨heRuns_z_shape P b1 b2 b3, (by revert b1; refine allB ?_ ?_ <;> (intro B; intros; kernel_rfl)), (by revert b1; refine allB ?_ ?_ <;> (intro B; intros; kernel_rfl)), (by revert b1; refine allB ?_ ?_ <;> (intro B; intros; kernel_rfl)), (by revert b1; refine allB ?_ ?_ <;> (intro B; intros; kernel_rfl)), heRuns_z_turnT P b1 b2 b3, heRuns_z_turnF P b1 b2 b3, heRuns_z_backT P b1 b2 b3, heRuns_z_backF P b1 b2 b3, heRuns_z_back P b1 b2 b3⟩
end Mine

end
section
open PySem PySem.W
set_option maxRecDepth 100000
set_option Elab.async false
set_option maxHeartbeats 2000000
set_option genInjectivity false
set_option genSizeOfSpec false
namespace Mine
theorem liRuns_z_shape0 (P : Params) (b1 b2 b3 : Bool) : LiRuns_shape0 (setRows P b1 b2 b3) (zTop (setRows P b1 b2 b3)) := by
  intro fr it; show isFor _ = true; kernel_rfl
theorem liRuns_z_shape1 (P : Params) (b1 b2 b3 : Bool) : LiRuns_shape1 (setRows P b1 b2 b3) (zTop (setRows P b1 b2 b3)) := by
  intro fr it; show isFor _ = true; kernel_rfl
theorem liRuns_z_rA (P : Params) (b1 b2 b3 : Bool) : LiRuns_rA (setRows P b1 b2 b3) (zTop (setRows P b1 b2 b3)) := by
  intro Z; refine all14 ?_ ?_ ?_ ?_ <;> kernel_rfl
theorem liRuns_z_rB (P : Params) (b1 b2 b3 : Bool) : LiRuns_rB (setRows P b1 b2 b3) (zTop (setRows P b1 b2 b3)) := by
  revert b1; refine allB ?_ ?_
  · intro Z; refine all14 ?_ ?_ ?_ ?_ <;> kernel_rfl
  · intro Z; refine all14 ?_ ?_ ?_ ?_ <;> kernel_rfl
theorem liRuns_z_rC (P : Params) (b1 b2 b3 : Bool) : LiRuns_rC (setRows P b1 b2 b3) (zTop (setRows P b1 b2 b3)) := by
  revert b1; refine allB ?_ ?_
  · intro Z; refine all14 ?_ ?_ ?_ ?_ <;> (intros; kernel_rfl)
  · intro Z; refine all14 ?_ ?_ ?_ ?_ <;> (intros; kernel_rfl)
theorem liRuns_z_rR (P : Params) (b1 b2 b3 : Bool) : LiRuns_rR (setRows P b1 b2 b3) (zTop (setRows P b1 b2 b3)) := by
  revert b1; refine allB ?_ ?_
  · intro Z; refine all14 ?_ ?_ ?_ ?_ <;> (intro B3 t3 ck aux ep B4 t4 ck' dn; refine allO ?_ ?_ <;> (intros; kernel_rfl))
  · intro Z; refine all14 ?_ ?_ ?_ ?_ <;> (intro B3 t3 ck aux ep B4 t4 ck' dn; refine allO ?_ ?_ <;> (intros; kernel_rfl))
theorem liRuns_z_ct (P : Params) (b1 b2 b3 : Bool) : LiRuns_ct (setRows P b1 b2 b3) (zTop (setRows P b1 b2 b3)) := by
  intro S; refine allCI ?_ ?_ ?_ ?_ ?_ ?_ ?_ ?_ ?_ ?_ <;> (intro B t₀; refine allO ?_ ?_ <;> (intros; kernel_rfl))
theorem liRuns_z_ct2 (P : Params) (b1 b2 b3 : Bool) : LiRuns_ct2 (setRows P b1 b2 b3) (zTop (setRows P b1 b2 b3)) := by
  intro S; refine allCI ?_ ?_ ?_ ?_ ?_ ?_ ?_ ?_ ?_ ?_ <;> (intro B t₀; refine allO ?_ ?_ <;> (intros; kernel_rfl))
theorem liRuns_z_cE (P : Params) (b1 b2 b3 : Bool) : LiRuns_cE (setRows P b1 b2 b3) (zTop (setRows P b1 b2 b3)) := by
  refine all14 ?_ ?_ ?_ ?_ <;> (intros; kernel_rfl)
theorem liRuns_z_m1 (P : Params) (b1 b2 b3 : Bool) : LiRuns_m1 (setRows P b1 b2 b3) (zTop (setRows P b1 b2 b3)) := by
  revert b1; refine allB ?_ ?_
  · intro S; refine allXS ?_ ?_ ?_ ?_ <;> (intros; rename_i ex _ _ _ _ _ _; revert ex; refine allO ?_ ?_ <;> (intros; kernel_rfl))
  · intro S; refine allXS ?_ ?_ ?_ ?_ <;> (intros; rename_i ex _ _ _ _ _ _; revert ex; refine allO ?_ ?_ <;> (intros; kernel_rfl))
theorem liRuns_z_m2T (P : Params) (b1 b2 b3 : Bool) : LiRuns_m2T (setRows P b1 b2 b3) (zTop (setRows P b1 b2 b3)) := by
  revert b1; refine allB ?_ ?_
  · intro S; refine allXS ?_ ?_ ?_ ?_ <;> (intros; rename_i ex U; revert ex; refine allO ?_ ?_ <;> (intros; kernel_rfl))
  · intro S; refine allXS ?_ ?_ ?_ ?_ <;> (intros; rename_i ex U; revert ex; refine allO ?_ ?_ <;> (intros; kernel_rfl))
theorem liRuns_z_m2F (P : Params) (b1 b2 b3 : Bool) : LiRuns_m2F (setRows P b1 b2 b3) (zTop (setRows P b1 b2 b3)) := by
  revert b1; refine allB ?_ ?_
  · intro S; refine allXS ?_ ?_ ?_ ?_ <;> (intros; rename_i ex U; revert ex; refine allO ?_ ?_ <;> (intros; kernel_rfl))
  · intro S; refine allXS ?_ ?_ ?_ ?_ <;> (intros; rename_i ex U; revert ex; refine allO ?_ ?_ <;> (intros; kernel_rfl))
theorem liRuns_z_m3T (P : Params) (b1 b2 b3 : Bool) : LiRuns_m3T (setRows P b1 b2 b3) (zTop (setRows P b1 b2 b3)) := by
  revert b1; refine allB ?_ ?_
  · intro S; refine allXS ?_ ?_ ?_ ?_ <;> (intros; rename_i ex U; revert ex; refine allO ?_ ?_ <;> (intros; kernel_rfl))
  · intro S; refine allXS ?_ ?_ ?_ ?_ <;> (intros; rename_i ex U; revert ex; refine allO ?_ ?_ <;> (intros; kernel_rfl))
theorem liRuns_z_m3F (P : Params) (b1 b2 b3 : Bool) : LiRuns_m3F (setRows P b1 b2 b3) (zTop (setRows P b1 b2 b3)) := by
  revert b1; refine allB ?_ ?_
  · intro S; refine allXS ?_ ?_ ?_ ?_ <;> (intros; rename_i ex U; revert ex; refine allO ?_ ?_ <;> (intros; kernel_rfl))
  · intro S; refine allXS ?_ ?_ ?_ ?_ <;> (intros; rename_i ex U; revert ex; refine allO ?_ ?_ <;> (intros; kernel_rfl))
theorem liRuns_z_m4T (P : Params) (b1 b2 b3 : Bool) : LiRuns_m4T (setRows P b1 b2 b3) (zTop (setRows P b1 b2 b3)) := by
  revert b1; refine allB ?_ ?_
  · intro S; refine allXS ?_ ?_ ?_ ?_ <;> (intros; rename_i ex U; revert ex; refine allO ?_ ?_ <;> (intros; kernel_rfl))
  · intro S; refine allXS ?_ ?_ ?_ ?_ <;> (intros; rename_i ex U; revert ex; refine allO ?_ ?_ <;> (intros; kernel_rfl))
theorem liRuns_z_m4F (P : Params) (b1 b2 b3 : Bool) : LiRuns_m4F (setRows P b1 b2 b3) (zTop (setRows P b1 b2 b3)) := by
  revert b1; refine allB ?_ ?_
  · intro S; refine allXS ?_ ?_ ?_ ?_ <;> (intros; rename_i ex U; revert ex; refine allO ?_ ?_ <;> (intros; kernel_rfl))
  · intro S; refine allXS ?_ ?_ ?_ ?_ <;> (intros; rename_i ex U; revert ex; refine allO ?_ ?_ <;> (intros; kernel_rfl))
theorem liRuns_z (P : Params) (b1 b2 b3 : Bool) : LiRuns (setRows P b1 b2 b3) (zTop (setRows P b1 b2 b3)) :=
  ⟨liRuns_z_shape0 P b1 b2 b3, liRuns_z_shape1 P b1 b2 b3, liRuns_z_rA P b1 b2 b3, liRuns_z_rB P b1 b2 b3, liRuns_z_rC P b1 b2 b3, liRuns_z_rR P b1 b2 b3, liRuns_z_ct P b1 b2 b3, liRuns_z_ct2 P b1 b2 b3, liRuns_z_cE P b1 b2 b3, liRuns_z_m1 P b1 b2 b3, liRuns_z_m2T P b1 b2 b3, liRuns_z_m2F P b1 b2 b3, liRuns_z_m3T P b1 b2 b3, liRuns_z_m3F P b1 b2 b3, liRuns_z_m4T P b1 b2 b3, liRuns_z_m4F P b1 b2 b3⟩
end Mine

end
section
open PySem PySem.W
set_option maxRecDepth 100000
set_option Elab.async false
set_option maxHeartbeats 2000000
set_option genInjectivity false
set_option genSizeOfSpec false
namespace Mine
theorem svRuns_z (P : Params) (b1 b2 b3 : Bool) : SvRuns (setRows P b1 b2 b3) (zTop (setRows P b1 b2 b3)) :=
  ⟨(by revert b1; refine allB ?_ ?_ <;> (intro B; intros; kernel_rfl)), (by revert b1; refine allB ?_ ?_ <;> (intro B; intros; kernel_rfl)), (by revert b1; refine allB ?_ ?_ <;> (intro B; intros; kernel_rfl)), (by revert b1; refine allB ?_ ?_ <;> (intro B; intros; kernel_rfl)), (by revert b1; refine allB ?_ ?_ <;> (intro B; intros; kernel_rfl)), (by revert b1; refine allB ?_ ?_ <;> (intro B; intros; kernel_rfl))⟩
end Mine

end
section
open PySem PySem.W
set_option maxRecDepth 100000
set_option Elab.async false
set_option maxHeartbeats 2000000
set_option genInjectivity false
set_option genSizeOfSpec false
namespace Mine
theorem duRuns_z_s0 (P : Params) (b1 b2 b3 : Bool) : DuRuns_s0 (setRows P b1 b2 b3) (zTop (setRows P b1 b2 b3)) := by
  intro _; intros; kernel_rfl
theorem duRuns_z_s1 (P : Params) (b1 b2 b3 : Bool) : DuRuns_s1 (setRows P b1 b2 b3) (zTop (setRows P b1 b2 b3)) := by
  intro _; intros; kernel_rfl
theorem duRuns_z_s2 (P : Params) (b1 b2 b3 : Bool) : DuRuns_s2 (setRows P b1 b2 b3) (zTop (setRows P b1 b2 b3)) := by
  intro _; intros; kernel_rfl
theorem duRuns_z_s3 (P : Params) (b1 b2 b3 : Bool) : DuRuns_s3 (setRows P b1 b2 b3) (zTop (setRows P b1 b2 b3)) := by
  intro _; intros; kernel_rfl
theorem duRuns_z_entry (P : Params) (b1 b2 b3 : Bool) : DuRuns_entry (setRows P b1 b2 b3) (zTop (setRows P b1 b2 b3)) := by
  revert b1; refine allB ?_ ?_
  · intro B t₀ S H eh d0 d1 d2 e hS; obtain ⟨hl, dl, a, ta, s, ts, b, tb, t, tt, c, tc, u, tu, du⟩ := S; cases hS; (intros; kernel_rfl)
  · intro B t₀ S H eh d0 d1 d2 e hS; obtain ⟨hl, dl, a, ta, s, ts, b, tb, t, tt, c, tc, u, tu, du⟩ := S; cases hS; (intros; kernel_rfl)
theorem duRuns_z_n1 (P : Params) (b1 b2 b3 : Bool) : DuRuns_n1 (setRows P b1 b2 b3) (zTop (setRows P b1 b2 b3)) := by
  revert b1; refine allB ?_ ?_
  · intro B t₀ S fr it aux ep n m; refine allO ?_ ?_ <;> (intros; kernel_rfl)
  · intro B t₀ S fr it aux ep n m; refine allO ?_ ?_ <;> (intros; kernel_rfl)
theorem duRuns_z_n2 (P : Params) (b1 b2 b3 : Bool) : DuRuns_n2 (setRows P b1 b2 b3) (zTop (setRows P b1 b2 b3)) := by
  revert b1; refine allB ?_ ?_
  · intro B t₀ S fr it aux ep n m; refine allO ?_ ?_ <;> (intros; kernel_rfl)
  · intro B t₀ S fr it aux ep n m; refine allO ?_ ?_ <;> (intros; kernel_rfl)
theorem duRuns_z_n3 (P : Params) (b1 b2 b3 : Bool) : DuRuns_n3 (setRows P b1 b2 b3) (zTop (setRows P b1 b2 b3)) := by
  revert b1; refine allB ?_ ?_
  · intro B t₀ S fr it aux ep n m; refine allO ?_ ?_ <;> (intros; kernel_rfl)
  · intro B t₀ S fr it aux ep n m; refine allO ?_ ?_ <;> (intros; kernel_rfl)
theorem duRuns_z_i1 (P : Params) (b1 b2 b3 : Bool) : DuRuns_i1 (setRows P b1 b2 b3) (zTop (setRows P b1 b2 b3)) := by
  revert b1; refine allB ?_ ?_
  · intro B t₀ S fr it aux ep n tn sm i m; refine allO ?_ ?_ <;> (intros; kernel_rfl)
  · intro B t₀ S fr it aux ep n tn sm i m; refine allO ?_ ?_ <;> (intros; kernel_rfl)
theorem duRuns_z_i2 (P : Params) (b1 b2 b3 : Bool) : DuRuns_i2 (setRows P b1 b2 b3) (zTop (setRows P b1 b2 b3)) := by
  revert b1; refine allB ?_ ?_
  · intro B t₀ S fr it aux ep n tn sm i m; refine allO ?_ ?_ <;> (intros; kernel_rfl)
  · intro B t₀ S fr it aux ep n tn sm i m; refine allO ?_ ?_ <;> (intros; kernel_rfl)
theorem duRuns_z_j1 (P : Params) (b1 b2 b3 : Bool) : DuRuns_j1 (setRows P b1 b2 b3) (zTop (setRows P b1 b2 b3)) := by
  revert b1; refine allB ?_ ?_
  · intro B t₀ S fr it aux ep n tn sm i ti j m; refine allO ?_ ?_ <;> (intros; kernel_rfl)
  · intro B t₀ S fr it aux ep n tn sm i ti j m; refine allO ?_ ?_ <;> (intros; kernel_rfl)
theorem duRuns_z_j2 (P : Params) (b1 b2 b3 : Bool) : DuRuns_j2 (setRows P b1 b2 b3) (zTop (setRows P b1 b2 b3)) := by
  revert b1; refine allB ?_ ?_
  · intro B t₀ S fr it aux ep n tn sm i ti j m; refine allO ?_ ?_ <;> (intros; kernel_rfl)
  · intro B t₀ S fr it aux ep n tn sm i ti j m; refine allO ?_ ?_ <;> (intros; kernel_rfl)
theorem duRuns_z_k1 (P : Params) (b1 b2 b3 : Bool) : DuRuns_k1 (setRows P b1 b2 b3) (zTop (setRows P b1 b2 b3)) := by
  intro B t₀ S fr it aux ep n tn sm i ti j tj k m; refine allO ?_ ?_ <;> (intros; kernel_rfl)
theorem duRuns_z_rE (P : Params) (b1 b2 b3 : Bool) : DuRuns_rE (setRows P b1 b2 b3) (zTop (setRows P b1 b2 b3)) := by
  intro _; intros; kernel_rfl
theorem duRuns_z_back (P : Params) (b1 b2 b3 : Bool) : DuRuns_back (setRows P b1 b2 b3) (zTop (setRows P b1 b2 b3)) := by
  revert b1; refine allB ?_ ?_
  · intro B t₀ S H eh d0 d1 d2 e ex aux ep B2 t2 hS; obtain ⟨hl, dl, a, ta, s, ts, b, tb, t, tt, c, tc, u, tu, du⟩ := S; cases hS; (intros; kernel_rfl)
  · intro B t₀ S H eh d0 d1 d2 e ex aux ep B2 t2 hS; obtain ⟨hl, dl, a, ta, s, ts, b, tb, t, tt, c, tc, u, tu, du⟩ := S; cases hS; (intros; kernel_rfl)
theorem duRuns_z (P : Params) (b1 b2 b3 : Bool) : DuRuns (setRows P b1 b2 b3) (zTop (setRows P b1 b2 b3)) :=
  ⟨duRuns_z_s0 P b1 b2 b3, duRuns_z_s1 P b1 b2 b3, duRuns_z_s2 P b1 b2 b3, duRuns_z_s3 P b1 b2 b3, duRuns_z_entry P b1 b2 b3, duRuns_z_n1 P b1 b2 b3, duRuns_z_n2 P b1 b2 b3, duRuns_z_n3 P b1 b2 b3, duRuns_z_i1 P b1 b2 b3, duRuns_z_i2 P b1 b2 b3, duRuns_z_j1 P b1 b2 b3, duRuns_z_j2 P b1 b2 b3, duRuns_z_k1 P b1 b2 b3, duRuns_z_rE P b1 b2 b3, duRuns_z_back P b1 b2 b3⟩
end Mine

end
section
open PySem PySem.W
set_option maxRecDepth 100000
set_option Elab.async false
set_option maxHeartbeats 2000000
set_option genInjectivity false
set_option genSizeOfSpec false
namespace Mine
theorem txz_0 (P : Params) (b1 b2 b3 : Bool) : tx0 (setRows P b1 b2 b3) (zTop (setRows P b1 b2 b3)) := by
  revert b1; refine allB ?_ ?_ <;> (revert b3; refine allB ?_ ?_ <;> (intro B; intros; kernel_rfl))
theorem txz_1 (P : Params) (b1 b2 b3 : Bool) : txTurn (setRows P b1 b2 b3) (zTop (setRows P b1 b2 b3)) 1 1 0 0 := by
  revert b1; refine allB ?_ ?_ <;> (intro B; intros; kernel_rfl)
theorem txz_2 (P : Params) (b1 b2 b3 : Bool) : txTurn (setRows P b1 b2 b3) (zTop (setRows P b1 b2 b3)) 2 2 1 0 := by
  revert b1; refine allB ?_ ?_ <;> (intro B; intros; kernel_rfl)
theorem txz_3 (P : Params) (b1 b2 b3 : Bool) : txTurn (setRows P b1 b2 b3) (zTop (setRows P b1 b2 b3)) 3 3 0 1 := by
  revert b1; refine allB ?_ ?_ <;> (revert b3; refine allB ?_ ?_ <;> (intro B; intros; kernel_rfl))
end Mine

end
section
open PySem PySem.W
set_option maxRecDepth 100000
set_option Elab.async false
set_option maxHeartbeats 2000000
set_option genInjectivity false
set_option genSizeOfSpec false
namespace Mine
theorem txz_4_0_0 (P : Params) (b1 b2 b3 : Bool) : ∀ g, g < 3 → txTurn (setRows P b1 b2 b3) (zTop (setRows P b1 b2 b3)) 4 0 g 0 := by
  refine all3 ?_ ?_ ?_ <;> (revert b1; refine allB ?_ ?_ <;> (intro B; intros; kernel_rfl))
theorem txz_4_0_1 (P : Params) (b1 b2 b3 : Bool) : ∀ g, g < 3 → txTurn (setRows P b1 b2 b3) (zTop (setRows P b1 b2 b3)) 4 0 g 1 := by
  refine all3 ?_ ?_ ?_ <;> (revert b1; refine allB ?_ ?_ <;> (revert b3; refine allB ?_ ?_ <;> (intro B; intros; kernel_rfl)))
theorem txz_4_1_0 (P : Params) (b1 b2 b3 : Bool) : ∀ g, g < 3 → txTurn (setRows P b1 b2 b3) (zTop (setRows P b1 b2 b3)) 4 1 g 0 := by
  refine all3 ?_ ?_ ?_ <;> (revert b1; refine allB ?_ ?_ <;> (intro B; intros; kernel_rfl))
theorem txz_4_1_1 (P : Params) (b1 b2 b3 : Bool) : ∀ g, g < 3 → txTurn (setRows P b1 b2 b3) (zTop (setRows P b1 b2 b3)) 4 1 g 1 := by
  refine all3 ?_ ?_ ?_ <;> (revert b1; refine allB ?_ ?_ <;> (revert b3; refine allB ?_ ?_ <;> (intro B; intros; kernel_rfl)))
theorem txz_4_2_0 (P : Params) (b1 b2 b3 : Bool) : ∀ g, g < 3 → txTurn (setRows P b1 b2 b3) (zTop (setRows P b1 b2 b3)) 4 2 g 0 := by
  refine all3 ?_ ?_ ?_ <;> (revert b1; refine allB ?_ ?_ <;> (intro B; intros; kernel_rfl))
theorem txz_4_2_1 (P : Params) (b1 b2 b3 : Bool) : ∀ g, g < 3 → txTurn (setRows P b1 b2 b3) (zTop (setRows P b1 b2 b3)) 4 2 g 1 := by
  refine all3 ?_ ?_ ?_ <;> (revert b1; refine allB ?_ ?_ <;> (revert b3; refine allB ?_ ?_ <;> (intro B; intros; kernel_rfl)))
theorem txz_4_3_0 (P : Params) (b1 b2 b3 : Bool) : ∀ g, g < 3 → txTurn (setRows P b1 b2 b3) (zTop (setRows P b1 b2 b3)) 4 3 g 0 := by
  refine all3 ?_ ?_ ?_ <;> (revert b1; refine allB ?_ ?_ <;> (intro B; intros; kernel_rfl))
theorem txz_4_3_1 (P : Params) (b1 b2 b3 : Bool) : ∀ g, g < 3 → txTurn (setRows P b1 b2 b3) (zTop (setRows P b1 b2 b3)) 4 3 g 1 := by
  refine all3 ?_ ?_ ?_ <;> (revert b1; refine allB ?_ ?_ <;> (revert b3; refine allB ?_ ?_ <;> (intro B; intros; kernel_rfl)))
theorem txz_4 (P : Params) (b1 b2 b3 : Bool) : ∀ k g b, k < 4 → g < 3 → b < 2 → txTurn (setRows P b1 b2 b3) (zTop (setRows P b1 b2 b3)) 4 k g b := fun k g b hk hg hb =>
  all4 (p := fun k => ∀ b, b < 2 → txTurn (setRows P b1 b2 b3) (zTop (setRows P b1 b2 b3)) 4 k g b) (all2 (txz_4_0_0 P b1 b2 b3 g hg) (txz_4_0_1 P b1 b2 b3 g hg)) (all2 (txz_4_1_0 P b1 b2 b3 g hg) (txz_4_1_1 P b1 b2 b3 g hg)) (all2 (txz_4_2_0 P b1 b2 b3 g hg) (txz_4_2_1 P b1 b2 b3 g hg)) (all2 (txz_4_3_0 P b1 b2 b3 g hg) (txz_4_3_1 P b1 b2 b3 g hg)) k hk b hb
end Mine

end
section
open PySem PySem.W
set_option maxRecDepth 100000
set_option Elab.async false
set_option maxHeartbeats 2000000
set_option genInjectivity false
set_option genSizeOfSpec false
namespace Mine
theorem txz_5_0_0 (P : Params) (b1 b2 b3 : Bool) : ∀ g, g < 3 → txTurn (setRows P b1 b2 b3) (zTop (setRows P b1 b2 b3)) 5 0 g 0 := by
  refine all3 ?_ ?_ ?_ <;> (revert b1; refine allB ?_ ?_ <;> (intro B; intros; kernel_rfl))
theorem txz_5_0_1 (P : Params) (b1 b2 b3 : Bool) : ∀ g, g < 3 → txTurn (setRows P b1 b2 b3) (zTop (setRows P b1 b2 b3)) 5 0 g 1 := by
  refine all3 ?_ ?_ ?_ <;> (revert b1; refine allB ?_ ?_ <;> (revert b3; refine allB ?_ ?_ <;> (intro B; intros; kernel_rfl)))
theorem txz_5_1_0 (P : Params) (b1 b2 b3 : Bool) : ∀ g, g < 3 → txTurn (setRows P b1 b2 b3) (zTop (setRows P b1 b2 b3)) 5 1 g 0 := by
  refine all3 ?_ ?_ ?_ <;> (revert b1; refine allB ?_ ?_ <;> (intro B; intros; kernel_rfl))
theorem txz_5_1_1 (P : Params) (b1 b2 b3 : Bool) : ∀ g, g < 3 → txTurn (setRows P b1 b2 b3) (zTop (setRows P b1 b2 b3)) 5 1 g 1 := by
  refine all3 ?_ ?_ ?_ <;> (revert b1; refine allB ?_ ?_ <;> (revert b3; refine allB ?_ ?_ <;> (intro B; intros; kernel_rfl)))
theorem txz_5_2_0 (P : Params) (b1 b2 b3 : Bool) : ∀ g, g < 3 → txTurn (setRows P b1 b2 b3) (zTop (setRows P b1 b2 b3)) 5 2 g 0 := by
  refine all3 ?_ ?_ ?_ <;> (revert b1; refine allB ?_ ?_ <;> (intro B; intros; kernel_rfl))
theorem txz_5_2_1 (P : Params) (b1 b2 b3 : Bool) : ∀ g, g < 3 → txTurn (setRows P b1 b2 b3) (zTop (setRows P b1 b2 b3)) 5 2 g 1 := by
  refine all3 ?_ ?_ ?_ <;> (revert b1; refine allB ?_ ?_ <;> (revert b3; refine allB ?_ ?_ <;> (intro B; intros; kernel_rfl)))
theorem txz_5_3_0 (P : Params) (b1 b2 b3 : Bool) : ∀ g, g < 3 → txTurn (setRows P b1 b2 b3) (zTop (setRows P b1 b2 b3)) 5 3 g 0 := by
  refine all3 ?_ ?_ ?_ <;> (revert b1; refine allB ?_ ?_ <;> (intro B; intros; kernel_rfl))
theorem txz_5_3_1 (P : Params) (b1 b2 b3 : Bool) : ∀ g, g < 3 → txTurn (setRows P b1 b2 b3) (zTop (setRows P b1 b2 b3)) 5 3 g 1 := by
  refine all3 ?_ ?_ ?_ <;> (revert b1; refine allB ?_ ?_ <;> (revert b3; refine allB ?_ ?_ <;> (intro B; intros; kernel_rfl)))
theorem txz_5 (P : Params) (b1 b2 b3 : Bool) : ∀ k g b, k < 4 → g < 3 → b < 2 → txTurn (setRows P b1 b2 b3) (zTop (setRows P b1 b2 b3)) 5 k g b := fun k g b hk hg hb =>
  all4 (p := fun k => ∀ b, b < 2 → txTurn (setRows P b1 b2 b3) (zTop (setRows P b1 b2 b3)) 5 k g b) (all2 (txz_5_0_0 P b1 b2 b3 g hg) (txz_5_0_1 P b1 b2 b3 g hg)) (all2 (txz_5_1_0 P b1 b2 b3 g hg) (txz_5_1_1 P b1 b2 b3 g hg)) (all2 (txz_5_2_0 P b1 b2 b3 g hg) (txz_5_2_1 P b1 b2 b3 g hg)) (all2 (txz_5_3_0 P b1 b2 b3 g hg) (txz_5_3_1 P b1 b2 b3 g hg)) k hk b hb
end Mine

end
section
open PySem PySem.W
set_option maxRecDepth 100000
set_option Elab.async false
set_option maxHeartbeats 2000000
set_option genInjectivity false
set_option genSizeOfSpec false
namespace Mine
theorem txz_6_0_0 (P : Params) (b1 b2 b3 : Bool) : ∀ g, g < 3 → txTurn (setRows P b1 b2 b3) (zTop (setRows P b1 b2 b3)) 6 0 g 0 := by
  refine all3 ?_ ?_ ?_ <;> (revert b1; refine allB ?_ ?_ <;> (intro B; intros; kernel_rfl))
theorem txz_6_0_1 (P : Params) (b1 b2 b3 : Bool) : ∀ g, g < 3 → txTurn (setRows P b1 b2 b3) (zTop (setRows P b1 b2 b3)) 6 0 g 1 := by
  refine all3 ?_ ?_ ?_ <;> (revert b1; refine allB ?_ ?_ <;> (revert b3; refine allB ?_ ?_ <;> (intro B; intros; kernel_rfl)))
theorem txz_6_1_0 (P : Params) (b1 b2 b3 : Bool) : ∀ g, g < 3 → txTurn (setRows P b1 b2 b3) (zTop (setRows P b1 b2 b3)) 6 1 g 0 := by
  refine all3 ?_ ?_ ?_ <;> (revert b1; refine allB ?_ ?_ <;> (intro B; intros; kernel_rfl))
theorem txz_6_1_1 (P : Params) (b1 b2 b3 : Bool) : ∀ g, g < 3 → txTurn (setRows P b1 b2 b3) (zTop (setRows P b1 b2 b3)) 6 1 g 1 := by
  refine all3 ?_ ?_ ?_ <;> (revert b1; refine allB ?_ ?_ <;> (revert b3; refine allB ?_ ?_ <;> (intro B; intros; kernel_rfl)))
theorem txz_6_2_0 (P : Params) (b1 b2 b3 : Bool) : ∀ g, g < 3 → txTurn (setRows P b1 b2 b3) (zTop (setRows P b1 b2 b3)) 6 2 g 0 := by
  refine all3 ?_ ?_ ?_ <;> (revert b1; refine allB ?_ ?_ <;> (intro B; intros; kernel_rfl))
theorem txz_6_2_1 (P : Params) (b1 b2 b3 : Bool) : ∀ g, g < 3 → txTurn (setRows P b1 b2 b3) (zTop (setRows P b1 b2 b3)) 6 2 g 1 := by
  refine all3 ?_ ?_ ?_ <;> (revert b1; refine allB ?_ ?_ <;> (revert b3; refine allB ?_ ?_ <;> (intro B; intros; kernel_rfl)))
theorem txz_6_3_0 (P : Params) (b1 b2 b3 : Bool) : ∀ g, g < 3 → txTurn (setRows P b1 b2 b3) (zTop (setRows P b1 b2 b3)) 6 3 g 0 := by
  refine all3 ?_ ?_ ?_ <;> (revert b1; refine allB ?_ ?_ <;> (intro B; intros; kernel_rfl))
theorem txz_6_3_1 (P : Params) (b1 b2 b3 : Bool) : ∀ g, g < 3 → txTurn (setRows P b1 b2 b3) (zTop (setRows P b1 b2 b3)) 6 3 g 1 := by
  refine all3 ?_ ?_ ?_ <;> (revert b1; refine allB ?_ ?_ <;> (revert b3; refine allB ?_ ?_ <;> (intro B; intros; kernel_rfl)))
theorem txz_6 (P : Params) (b1 b2 b3 : Bool) : ∀ k g b, k < 4 → g < 3 → b < 2 → txTurn (setRows P b1 b2 b3) (zTop (setRows P b1 b2 b3)) 6 k g b := fun k g b hk hg hb =>
  all4 (p := fun k => ∀ b, b < 2 → txTurn (setRows P b1 b2 b3) (zTop (setRows P b1 b2 b3)) 6 k g b) (all2 (txz_6_0_0 P b1 b2 b3 g hg) (txz_6_0_1 P b1 b2 b3 g hg)) (all2 (txz_6_1_0 P b1 b2 b3 g hg) (txz_6_1_1 P b1 b2 b3 g hg)) (all2 (txz_6_2_0 P b1 b2 b3 g hg) (txz_6_2_1 P b1 b2 b3 g hg)) (all2 (txz_6_3_0 P b1 b2 b3 g hg) (txz_6_3_1 P b1 b2 b3 g hg)) k hk b hb
end Mine

end
section
open PySem PySem.W
set_option maxRecDepth 100000
set_option Elab.async false
set_option maxHeartbeats 2000000
set_option genInjectivity false
set_option genSizeOfSpec false
namespace Mine
theorem txRuns_z (P : Params) (b1 b2 b3 : Bool) : TxRuns (setRows P b1 b2 b3) (zTop (setRows P b1 b2 b3)) := ⟨txz_0 P b1 b2 b3, txz_1 P b1 b2 b3, txz_2 P b1 b2 b3, txz_3 P b1 b2 b3, txz_4 P b1 b2 b3, txz_5 P b1 b2 b3, txz_6 P b1 b2 b3⟩
end Mine

end
section
open PySem PySem.W
set_option maxRecDepth 100000
set_option Elab.async false
set_option maxHeartbeats 2000000
set_option genInjectivity false
set_option genSizeOfSpec false
namespace Mine
theorem tkz_0 (P : Params) (b1 b2 b3 : Bool) : tkTurn (setRows P b1 b2 b3) (zTop (setRows P b1 b2 b3)) 0 0 1 false := by
  revert b1; refine allB ?_ ?_ <;> (intro B; intros; kernel_rfl)
theorem tkz_1 (P : Params) (b1 b2 b3 : Bool) : tkTurn (setRows P b1 b2 b3) (zTop (setRows P b1 b2 b3)) 1 1 0 true := by
  revert b1; refine allB ?_ ?_ <;> (intro B; intros; kernel_rfl)
theorem tkz_2 (P : Params) (b1 b2 b3 : Bool) : tkTurn (setRows P b1 b2 b3) (zTop (setRows P b1 b2 b3)) 2 2 0 true := by
  revert b1; refine allB ?_ ?_ <;> (intro B; intros; kernel_rfl)
theorem tkz_3 (P : Params) (b1 b2 b3 : Bool) : tkTurn (setRows P b1 b2 b3) (zTop (setRows P b1 b2 b3)) 3 3 2 true := by
  revert b1; refine allB ?_ ?_ <;> (intro B; intros; kernel_rfl)
end Mine

end
section
open PySem PySem.W
set_option maxRecDepth 100000
set_option Elab.async false
set_option maxHeartbeats 2000000
set_option genInjectivity false
set_option genSizeOfSpec false
namespace Mine
theorem tkz_4_0_false (P : Params) (b1 b2 b3 : Bool) : ∀ m, m < 3 → tkTurn (setRows P b1 b2 b3) (zTop (setRows P b1 b2 b3)) 4 0 m false := by
  refine all3 ?_ ?_ ?_ <;> (revert b1; refine allB ?_ ?_ <;> (intro B; intros; kernel_rfl))
theorem tkz_4_1_false (P : Params) (b1 b2 b3 : Bool) : ∀ m, m < 3 → tkTurn (setRows P b1 b2 b3) (zTop (setRows P b1 b2 b3)) 4 1 m false := by
  refine all3 ?_ ?_ ?_ <;> (revert b1; refine allB ?_ ?_ <;> (intro B; intros; kernel_rfl))
theorem tkz_4_2_false (P : Params) (b1 b2 b3 : Bool) : ∀ m, m < 3 → tkTurn (setRows P b1 b2 b3) (zTop (setRows P b1 b2 b3)) 4 2 m false := by
  refine all3 ?_ ?_ ?_ <;> (revert b1; refine allB ?_ ?_ <;> (intro B; intros; kernel_rfl))
theorem tkz_4_3_false (P : Params) (b1 b2 b3 : Bool) : ∀ m, m < 3 → tkTurn (setRows P b1 b2 b3) (zTop (setRows P b1 b2 b3)) 4 3 m false := by
  refine all3 ?_ ?_ ?_ <;> (revert b1; refine allB ?_ ?_ <;> (intro B; intros; kernel_rfl))
theorem tkz_4 (P : Params) (b1 b2 b3 : Bool) : ∀ k m, k < 4 → m < 3 → tkTurn (setRows P b1 b2 b3) (zTop (setRows P b1 b2 b3)) 4 k m false := fun k m hk hm =>
  all4 (p := fun k => tkTurn (setRows P b1 b2 b3) (zTop (setRows P b1 b2 b3)) 4 k m false) (tkz_4_0_false P b1 b2 b3 m hm) (tkz_4_1_false P b1 b2 b3 m hm) (tkz_4_2_false P b1 b2 b3 m hm) (tkz_4_3_false P b1 b2 b3 m hm) k hk
end Mine

end
section
open PySem PySem.W
set_option maxRecDepth 100000
set_option Elab.async false
set_option maxHeartbeats 2000000
set_option genInjectivity false
set_option genSizeOfSpec false
namespace Mine
theorem tkz_5_0_true (P : Params) (b1 b2 b3 : Bool) : ∀ m, m < 3 → tkTurn (setRows P b1 b2 b3) (zTop (setRows P b1 b2 b3)) 5 0 m true := by
  refine all3 ?_ ?_ ?_ <;> (revert b1; refine allB ?_ ?_ <;> (intro B; intros; kernel_rfl))
theorem tkz_5_0_false (P : Params) (b1 b2 b3 : Bool) : ∀ m, m < 3 → tkTurn (setRows P b1 b2 b3) (zTop (setRows P b1 b2 b3)) 5 0 m false := by
  refine all3 ?_ ?_ ?_ <;> (revert b1; refine allB ?_ ?_ <;> (intro B; intros; kernel_rfl))
theorem tkz_5_1_true (P : Params) (b1 b2 b3 : Bool) : ∀ m, m < 3 → tkTurn (setRows P b1 b2 b3) (zTop (setRows P b1 b2 b3)) 5 1 m true := by
  refine all3 ?_ ?_ ?_ <;> (revert b1; refine allB ?_ ?_ <;> (intro B; intros; kernel_rfl))
theorem tkz_5_1_false (P : Params) (b1 b2 b3 : Bool) : ∀ m, m < 3 → tkTurn (setRows P b1 b2 b3) (zTop (setRows P b1 b2 b3)) 5 1 m false := by
  refine all3 ?_ ?_ ?_ <;> (revert b1; refine allB ?_ ?_ <;> (intro B; intros; kernel_rfl))
theorem tkz_5_2_true (P : Params) (b1 b2 b3 : Bool) : ∀ m, m < 3 → tkTurn (setRows P b1 b2 b3) (zTop (setRows P b1 b2 b3)) 5 2 m true := by
  refine all3 ?_ ?_ ?_ <;> (revert b1; refine allB ?_ ?_ <;> (intro B; intros; kernel_rfl))
theorem tkz_5_2_false (P : Params) (b1 b2 b3 : Bool) : ∀ m, m < 3 → tkTurn (setRows P b1 b2 b3) (zTop (setRows P b1 b2 b3)) 5 2 m false := by
  refine all3 ?_ ?_ ?_ <;> (revert b1; refine allB ?_ ?_ <;> (intro B; intros; kernel_rfl))
theorem tkz_5_3_true (P : Params) (b1 b2 b3 : Bool) : ∀ m, m < 3 → tkTurn (setRows P b1 b2 b3) (zTop (setRows P b1 b2 b3)) 5 3 m true := by
  refine all3 ?_ ?_ ?_ <;> (revert b1; refine allB ?_ ?_ <;> (intro B; intros; kernel_rfl))
theorem tkz_5_3_false (P : Params) (b1 b2 b3 : Bool) : ∀ m, m < 3 → tkTurn (setRows P b1 b2 b3) (zTop (setRows P b1 b2 b3)) 5 3 m false := by
  refine all3 ?_ ?_ ?_ <;> (revert b1; refine allB ?_ ?_ <;> (intro B; intros; kernel_rfl))
theorem tkz_5 (P : Params) (b1 b2 b3 : Bool) : ∀ k m b, k < 4 → m < 3 → tkTurn (setRows P b1 b2 b3) (zTop (setRows P b1 b2 b3)) 5 k m b := fun k m b hk hm =>
  all4 (p := fun k => ∀ b, tkTurn (setRows P b1 b2 b3) (zTop (setRows P b1 b2 b3)) 5 k m b) (allB (tkz_5_0_true P b1 b2 b3 m hm) (tkz_5_0_false P b1 b2 b3 m hm)) (allB (tkz_5_1_true P b1 b2 b3 m hm) (tkz_5_1_false P b1 b2 b3 m hm)) (allB (tkz_5_2_true P b1 b2 b3 m hm) (tkz_5_2_false P b1 b2 b3 m hm)) (allB (tkz_5_3_true P b1 b2 b3 m hm) (tkz_5_3_false P b1 b2 b3 m hm)) k hk b
end Mine

end
section
open PySem PySem.W
set_option maxRecDepth 100000
set_option Elab.async false
set_option maxHeartbeats 2000000
set_option genInjectivity false
set_option genSizeOfSpec false
namespace Mine
theorem tkz_6_0_true (P : Params) (b1 b2 b3 : Bool) : ∀ m, m < 3 → tkTurn (setRows P b1 b2 b3) (zTop (setRows P b1 b2 b3)) 6 0 m true := by
  refine all3 ?_ ?_ ?_ <;> (revert b1; refine allB ?_ ?_ <;> (intro B; intros; kernel_rfl))
theorem tkz_6_0_false (P : Params) (b1 b2 b3 : Bool) : ∀ m, m < 3 → tkTurn (setRows P b1 b2 b3) (zTop (setRows P b1 b2 b3)) 6 0 m false := by
  refine all3 ?_ ?_ ?_ <;> (revert b1; refine allB ?_ ?_ <;> (intro B; intros; kernel_rfl))
theorem tkz_6_1_true (P : Params) (b1 b2 b3 : Bool) : ∀ m, m < 3 → tkTurn (setRows P b1 b2 b3) (zTop (setRows P b1 b2 b3)) 6 1 m true := by
  refine all3 ?_ ?_ ?_ <;> (revert b1; refine allB ?_ ?_ <;> (intro B; intros; kernel_rfl))
theorem tkz_6_1_false (P : Params) (b1 b2 b3 : Bool) : ∀ m, m < 3 → tkTurn (setRows P b1 b2 b3) (zTop (setRows P b1 b2 b3)) 6 1 m false := by
  refine all3 ?_ ?_ ?_ <;> (revert b1; refine allB ?_ ?_ <;> (intro B; intros; kernel_rfl))
theorem tkz_6_2_true (P : Params) (b1 b2 b3 : Bool) : ∀ m, m < 3 → tkTurn (setRows P b1 b2 b3) (zTop (setRows P b1 b2 b3)) 6 2 m true := by
  refine all3 ?_ ?_ ?_ <;> (revert b1; refine allB ?_ ?_ <;> (intro B; intros; kernel_rfl))
theorem tkz_6_2_false (P : Params) (b1 b2 b3 : Bool) : ∀ m, m < 3 → tkTurn (setRows P b1 b2 b3) (zTop (setRows P b1 b2 b3)) 6 2 m false := by
  refine all3 ?_ ?_ ?_ <;> (revert b1; refine allB ?_ ?_ <;> (intro B; intros; kernel_rfl))
theorem tkz_6_3_true (P : Params) (b1 b2 b3 : Bool) : ∀ m, m < 3 → tkTurn (setRows P b1 b2 b3) (zTop (setRows P b1 b2 b3)) 6 3 m true := by
  refine all3 ?_ ?_ ?_ <;> (revert b1; refine allB ?_ ?_ <;> (intro B; intros; kernel_rfl))
theorem tkz_6_3_false (P : Params) (b1 b2 b3 : Bool) : ∀ m, m < 3 → tkTurn (setRows P b1 b2 b3) (zTop (setRows P b1 b2 b3)) 6 3 m false := by
  refine all3 ?_ ?_ ?_ <;> (revert b1; refine allB ?_ ?_ <;> (intro B; intros; kernel_rfl))
theorem tkz_6 (P : Params) (b1 b2 b3 : Bool) : ∀ k m b, k < 4 → m < 3 → tkTurn (setRows P b1 b2 b3) (zTop (setRows P b1 b2 b3)) 6 k m b := fun k m b hk hm =>
  all4 (p := fun k => ∀ b, tkTurn (setRows P b1 b2 b3) (zTop (setRows P b1 b2 b3)) 6 k m b) (allB (tkz_6_0_true P b1 b2 b3 m hm) (tkz_6_0_false P b1 b2 b3 m hm)) (allB (tkz_6_1_true P b1 b2 b3 m hm) (tkz_6_1_false P b1 b2 b3 m hm)) (allB (tkz_6_2_true P b1 b2 b3 m hm) (tkz_6_2_false P b1 b2 b3 m hm)) (allB (tkz_6_3_true P b1 b2 b3 m hm) (tkz_6_3_false P b1 b2 b3 m hm)) k hk b
end Mine

end
section
open PySem PySem.W
set_option maxRecDepth 100000
set_option Elab.async false
set_option maxHeartbeats 2000000
set_option genInjectivity false
set_option genSizeOfSpec false
namespace Mine
theorem tkRuns_z (P : Params) (b1 b2 b3 : Bool) : TkRuns (setRows P b1 b2 b3) (zTop (setRows P b1 b2 b3)) := ⟨tkz_0 P b1 b2 b3, tkz_1 P b1 b2 b3, tkz_2 P b1 b2 b3, tkz_3 P b1 b2 b3, tkz_4 P b1 b2 b3, tkz_5 P b1 b2 b3, tkz_6 P b1 b2 b3⟩
end Mine

end
section
open PySem PySem.W
set_option maxRecDepth 100000
set_option Elab.async false
set_option maxHeartbeats 2000000
set_option genInjectivity false
set_option genSizeOfSpec false
namespace Mine
theorem laRuns_z_isf (P : Params) (b1 b2 b3 : Bool) : LaRuns_isf (setRows P b1 b2 b3) (zTop (setRows P b1 b2 b3)) := by
  intro k fr it; revert k; refine all4 ?_ ?_ ?_ ?_ <;> kernel_rfl
theorem laRuns_z_a0 (P : Params) (b1 b2 b3 : Bool) : LaRuns_a0 (setRows P b1 b2 b3) (zTop (setRows P b1 b2 b3)) := by
  intro _; intros; kernel_rfl
theorem laRuns_z_a1 (P : Params) (b1 b2 b3 : Bool) : LaRuns_a1 (setRows P b1 b2 b3) (zTop (setRows P b1 b2 b3)) := by
  intro _; intros; kernel_rfl
theorem laRuns_z_a2 (P : Params) (b1 b2 b3 : Bool) : LaRuns_a2 (setRows P b1 b2 b3) (zTop (setRows P b1 b2 b3)) := by
  intro _; intros; kernel_rfl
theorem laRuns_z_a3 (P : Params) (b1 b2 b3 : Bool) : LaRuns_a3 (setRows P b1 b2 b3) (zTop (setRows P b1 b2 b3)) := by
  refine allL3 ?_ ?_ ?_ ?_ <;> (intro _; intros; kernel_rfl)
theorem laRuns_z_a4 (P : Params) (b1 b2 b3 : Bool) : LaRuns_a4 (setRows P b1 b2 b3) (zTop (setRows P b1 b2 b3)) := by
  revert b1; refine allB ?_ ?_
  · intro _; intros; kernel_rfl
  · intro _; intros; kernel_rfl
theorem laRuns_z_a5 (P : Params) (b1 b2 b3 : Bool) : LaRuns_a5 (setRows P b1 b2 b3) (zTop (setRows P b1 b2 b3)) := by
  revert b1; refine allB ?_ ?_
  · intro _; intros; kernel_rfl
  · intro _; intros; kernel_rfl
theorem laRuns_z (P : Params) (b1 b2 b3 : Bool) : LaRuns (setRows P b1 b2 b3) (zTop (setRows P b1 b2 b3)) :=
  ⟨(by revert b1; refine allB ?_ ?_ <;> (kernel_rfl)), laRuns_z_isf P b1 b2 b3, laRuns_z_a0 P b1 b2 b3, laRuns_z_a1 P b1 b2 b3, laRuns_z_a2 P b1 b2 b3, laRuns_z_a3 P b1 b2 b3, laRuns_z_a4 P b1 b2 b3, laRuns_z_a5 P b1 b2 b3⟩
theorem lbRuns_z_b1 (P : Params) (b1 b2 b3 : Bool) : LbRuns_b1 (setRows P b1 b2 b3) (zTop (setRows P b1 b2 b3)) := by
  intro _; intros; kernel_rfl
theorem lbRuns_z_b2 (P : Params) (b1 b2 b3 : Bool) : LbRuns_b2 (setRows P b1 b2 b3) (zTop (setRows P b1 b2 b3)) := by
  revert b1; refine allB ?_ ?_
  · intro _; intros; kernel_rfl
  · intro _; intros; kernel_rfl
theorem lbRuns_z_b3 (P : Params) (b1 b2 b3 : Bool) : LbRuns_b3 (setRows P b1 b2 b3) (zTop (setRows P b1 b2 b3)) := by
  revert b1; refine allB ?_ ?_
  · intro _; intros; kernel_rfl
  · intro _; intros; kernel_rfl
theorem lbRuns_z_c1 (P : Params) (b1 b2 b3 : Bool) : LbRuns_c1 (setRows P b1 b2 b3) (zTop (setRows P b1 b2 b3)) := by
  intro B t₀ fr it S Z jl; refine allO ?_ ?_ <;> (intros; kernel_rfl)
theorem lbRuns_z_c2 (P : Params) (b1 b2 b3 : Bool) : LbRuns_c2 (setRows P b1 b2 b3) (zTop (setRows P b1 b2 b3)) := by
  intro B t₀ fr it S Z jl; refine allO ?_ ?_ <;> (intros; kernel_rfl)
theorem lbRuns_z (P : Params) (b1 b2 b3 : Bool) : LbRuns (setRows P b1 b2 b3) (zTop (setRows P b1 b2 b3)) :=
  ⟨lbRuns_z_b1 P b1 b2 b3, lbRuns_z_b2 P b1 b2 b3, lbRuns_z_b3 P b1 b2 b3, lbRuns_z_c1 P b1 b2 b3, lbRuns_z_c2 P b1 b2 b3⟩
theorem ldRuns_z_h1 (P : Params) (b1 b2 b3 : Bool) : LdRuns_h1 (setRows P b1 b2 b3) (zTop (setRows P b1 b2 b3)) := by
  revert b1; refine allB ?_ ?_
  · intro _; intros; kernel_rfl
  · intro _; intros; kernel_rfl
theorem ldRuns_z_h2 (P : Params) (b1 b2 b3 : Bool) : LdRuns_h2 (setRows P b1 b2 b3) (zTop (setRows P b1 b2 b3)) := by
  revert b1; refine allB ?_ ?_
  · intro _; intros; kernel_rfl
  · intro _; intros; kernel_rfl
theorem ldRuns_z_z1 (P : Params) (b1 b2 b3 : Bool) : LdRuns_z1 (setRows P b1 b2 b3) (zTop (setRows P b1 b2 b3)) := by
  intro _; intros; kernel_rfl
theorem ldRuns_z_i1 (P : Params) (b1 b2 b3 : Bool) : LdRuns_i1 (setRows P b1 b2 b3) (zTop (setRows P b1 b2 b3)) := by
  refine all3 ?_ ?_ ?_ <;> (intro B t₀ fr it S; refine allO ?_ ?_ <;> (intros; kernel_rfl))
theorem ldRuns_z_i2 (P : Params) (b1 b2 b3 : Bool) : LdRuns_i2 (setRows P b1 b2 b3) (zTop (setRows P b1 b2 b3)) := by
  revert b1; refine allB ?_ ?_
  · refine all3 ?_ ?_ ?_ <;> (intro B t₀ fr it S; refine allO ?_ ?_ <;> (intros; kernel_rfl))
  · refine all3 ?_ ?_ ?_ <;> (intro B t₀ fr it S; refine allO ?_ ?_ <;> (intros; kernel_rfl))
theorem ldRuns_z_i3 (P : Params) (b1 b2 b3 : Bool) : LdRuns_i3 (setRows P b1 b2 b3) (zTop (setRows P b1 b2 b3)) := by
  revert b1; refine allB ?_ ?_
  · refine all3 ?_ ?_ ?_ <;> (intro B t₀ fr it S; refine allO ?_ ?_ <;> (intros; kernel_rfl))
  · refine all3 ?_ ?_ ?_ <;> (intro B t₀ fr it S; refine allO ?_ ?_ <;> (intros; kernel_rfl))
theorem ldRuns_z_i3q (P : Params) (b1 b2 b3 : Bool) : LdRuns_i3q (setRows P b1 b2 b3) (zTop (setRows P b1 b2 b3)) := by
  intro fr it; exact ⟨by kernel_rfl, by kernel_rfl⟩
theorem ldRuns_z_k0 (P : Params) (b1 b2 b3 : Bool) : LdRuns_k0 (setRows P b1 b2 b3) (zTop (setRows P b1 b2 b3)) := by
  refine all3 ?_ ?_ ?_ <;> (intro B t₀ fr it S f tf on ex; rcases ex with _ | ⟨_, _ | _⟩ <;> (intros; kernel_rfl))
theorem ldRuns_z_k1 (P : Params) (b1 b2 b3 : Bool) : LdRuns_k1 (setRows P b1 b2 b3) (zTop (setRows P b1 b2 b3)) := by
  revert b1; refine allB ?_ ?_
  · intro f s hf hs; revert f; refine all3 ?_ ?_ ?_ <;> (revert s; refine all3 ?_ ?_ ?_ <;> (intro B t₀ fr it S tf on ts; refine allO ?_ ?_ <;> (intros; kernel_rfl)))
  · intro f s hf hs; revert f; refine all3 ?_ ?_ ?_ <;> (revert s; refine all3 ?_ ?_ ?_ <;> (intro B t₀ fr it S tf on ts; refine allO ?_ ?_ <;> (intros; kernel_rfl)))
theorem ldRuns_z_k2 (P : Params) (b1 b2 b3 : Bool) : LdRuns_k2 (setRows P b1 b2 b3) (zTop (setRows P b1 b2 b3)) := by
  intro B t₀ fr it S f tf on s ts; refine allO ?_ ?_ <;> (intros; kernel_rfl)
theorem ldRuns_z_k3 (P : Params) (b1 b2 b3 : Bool) : LdRuns_k3 (setRows P b1 b2 b3) (zTop (setRows P b1 b2 b3)) := by
  intro B t₀ fr it S f tf on s ts; refine allO ?_ ?_ <;> (intros; kernel_rfl)
theorem ldRuns_z_k4 (P : Params) (b1 b2 b3 : Bool) : LdRuns_k4 (setRows P b1 b2 b3) (zTop (setRows P b1 b2 b3)) := by
  intro _; intros; kernel_rfl
theorem ldRuns_z_k5 (P : Params) (b1 b2 b3 : Bool) : LdRuns_k5 (setRows P b1 b2 b3) (zTop (setRows P b1 b2 b3)) := by
  intro _; intros; kernel_rfl
theorem ldRuns_z_k6 (P : Params) (b1 b2 b3 : Bool) : LdRuns_k6 (setRows P b1 b2 b3) (zTop (setRows P b1 b2 b3)) := by
  intro _; intros; kernel_rfl
theorem ldRuns_z (P : Params) (b1 b2 b3 : Bool) : LdRuns (setRows P b1 b2 b3) (zTop (setRows P b1 b2 b3)) :=
  ⟨ldRuns_z_h1 P b1 b2 b3, ldRuns_z_h2 P b1 b2 b3, ldRuns_z_z1 P b1 b2 b3, ldRuns_z_i1 P b1 b2 b3, ldRuns_z_i2 P b1 b2 b3, ldRuns_z_i3 P b1 b2 b3, ldRuns_z_i3q P b1 b2 b3, ldRuns_z_k0 P b1 b2 b3, ldRuns_z_k1 P b1 b2 b3, ldRuns_z_k2 P b1 b2 b3, ldRuns_z_k3 P b1 b2 b3, ldRuns_z_k4 P b1 b2 b3, ldRuns_z_k5 P b1 b2 b3, ldRuns_z_k6 P b1 b2 b3⟩
end Mine

end
section
open PySem PySem.W
set_option maxRecDepth 100000
set_option Elab.async false
set_option maxHeartbeats 2000000
set_option genInjectivity false
set_option genSizeOfSpec false
namespace Mine
theorem lcRuns_z_i9 (P : Params) (b1 b2 b3 : Bool) : LcRuns_i9 (setRows P b1 b2 b3) (zTop (setRows P b1 b2 b3)) := by
  exact ⟨by kernel_rfl, by kernel_rfl⟩
theorem lcRuns_z_e1 (P : Params) (b1 b2 b3 : Bool) : LcRuns_e1 (setRows P b1 b2 b3) (zTop (setRows P b1 b2 b3)) := by
  intro _; intros; kernel_rfl
theorem lcRuns_z_e2 (P : Params) (b1 b2 b3 : Bool) : LcRuns_e2 (setRows P b1 b2 b3) (zTop (setRows P b1 b2 b3)) := by
  revert b1; refine allB ?_ ?_
  · refine allDNH ?_ ?_ ?_ ?_ <;> (revert b3; refine allB ?_ ?_ <;> (intro _; intros; kernel_rfl))
  · refine allDNH ?_ ?_ ?_ ?_ <;> (revert b3; refine allB ?_ ?_ <;> (intro _; intros; kernel_rfl))
theorem lcRuns_z_e3 (P : Params) (b1 b2 b3 : Bool) : LcRuns_e3 (setRows P b1 b2 b3) (zTop (setRows P b1 b2 b3)) := by
  intro _; intros; kernel_rfl
theorem lcRuns_z_e4 (P : Params) (b1 b2 b3 : Bool) : LcRuns_e4 (setRows P b1 b2 b3) (zTop (setRows P b1 b2 b3)) := by
  revert b1; refine allB ?_ ?_
  · intro _; intros; kernel_rfl
  · intro _; intros; kernel_rfl
theorem lcRuns_z_f1 (P : Params) (b1 b2 b3 : Bool) : LcRuns_f1 (setRows P b1 b2 b3) (zTop (setRows P b1 b2 b3)) := by
  revert b1; refine allB ?_ ?_
  · revert b3; refine allB ?_ ?_ <;> (intro _; intros; kernel_rfl)
  · revert b3; refine allB ?_ ?_ <;> (intro _; intros; kernel_rfl)
theorem lcRuns_z_f2 (P : Params) (b1 b2 b3 : Bool) : LcRuns_f2 (setRows P b1 b2 b3) (zTop (setRows P b1 b2 b3)) := by
  revert b1; refine allB ?_ ?_
  · revert b3; refine allB ?_ ?_ <;> (intro _; intros; kernel_rfl)
  · revert b3; refine allB ?_ ?_ <;> (intro _; intros; kernel_rfl)
theorem lcRuns_z_g1 (P : Params) (b1 b2 b3 : Bool) : LcRuns_g1 (setRows P b1 b2 b3) (zTop (setRows P b1 b2 b3)) := by
  revert b1; refine allB ?_ ?_
  · refine allDNH ?_ ?_ ?_ ?_ <;> (revert b3; refine allB ?_ ?_ <;> (intro _; intros; kernel_rfl))
  · refine allDNH ?_ ?_ ?_ ?_ <;> (revert b3; refine allB ?_ ?_ <;> (intro _; intros; kernel_rfl))
theorem lcRuns_z (P : Params) (b1 b2 b3 : Bool) : LcRuns (setRows P b1 b2 b3) (zTop (setRows P b1 b2 b3)) :=
  ⟨lcRuns_z_i9 P b1 b2 b3, lcRuns_z_e1 P b1 b2 b3, lcRuns_z_e2 P b1 b2 b3, lcRuns_z_e3 P b1 b2 b3, lcRuns_z_e4 P b1 b2 b3, lcRuns_z_f1 P b1 b2 b3, lcRuns_z_f2 P b1 b2 b3, lcRuns_z_g1 P b1 b2 b3⟩
end Mine

end
section
open PySem PySem.W
set_option maxRecDepth 100000
set_option Elab.async false
set_option maxHeartbeats 2000000
set_option genInjectivity false
set_option genSizeOfSpec false
namespace Mine
theorem lxRuns_z_r1 (P : Params) (b1 b2 b3 : Bool) : LxRuns_r1 (setRows P b1 b2 b3) (zTop (setRows P b1 b2 b3)) := by
  intro _; intros; kernel_rfl
theorem lxRuns_z_r2 (P : Params) (b1 b2 b3 : Bool) : LxRuns_r2 (setRows P b1 b2 b3) (zTop (setRows P b1 b2 b3)) := by
  intro _; intros; kernel_rfl
theorem lxRuns_z (P : Params) (b1 b2 b3 : Bool) : LxRuns (setRows P b1 b2 b3) (zTop (setRows P b1 b2 b3)) :=
  ⟨lxRuns_z_r1 P b1 b2 b3, lxRuns_z_r2 P b1 b2 b3⟩
end Mine

end
section
open PySem PySem.W
set_option maxRecDepth 100000
set_option Elab.async false
set_option maxHeartbeats 2000000
set_option genInjectivity false
set_option genSizeOfSpec false
namespace Mine
theorem gtRuns_z_isf (P : Params) (b1 b2 b3 : Bool) : GtRuns_isf (setRows P b1 b2 b3) (zTop (setRows P b1 b2 b3)) := by
  intro _; intros; kernel_rfl
theorem gtRuns_z_r1 (P : Params) (b1 b2 b3 : Bool) : GtRuns_r1 (setRows P b1 b2 b3) (zTop (setRows P b1 b2 b3)) := by
  revert b1; refine allB ?_ ?_
  · intro _; intros; kernel_rfl
  · intro _; intros; kernel_rfl
theorem gtRuns_z_r2 (P : Params) (b1 b2 b3 : Bool) : GtRuns_r2 (setRows P b1 b2 b3) (zTop (setRows P b1 b2 b3)) := by
  revert b1; refine allB ?_ ?_
  · intro _; intros; kernel_rfl
  · intro _; intros; kernel_rfl
theorem gtRuns_z_r3 (P : Params) (b1 b2 b3 : Bool) : GtRuns_r3 (setRows P b1 b2 b3) (zTop (setRows P b1 b2 b3)) := by
  revert b1; refine allB ?_ ?_
  · intro B t₀ S A ln tl e B2 t2 tt; refine allO ?_ ?_ <;> (intros; kernel_rfl)
  · intro B t₀ S A ln tl e B2 t2 tt; refine allO ?_ ?_ <;> (intros; kernel_rfl)
theorem gtRuns_z_ws (P : Params) (b1 b2 b3 : Bool) : GtRuns_ws (setRows P b1 b2 b3) (zTop (setRows P b1 b2 b3)) := by
  revert b1; refine allB ?_ ?_
  · intro B t₀ S A fr me it tt t0; refine allO ?_ ?_ <;> (intros; kernel_rfl)
  · intro B t₀ S A fr me it tt t0; refine allO ?_ ?_ <;> (intros; kernel_rfl)
theorem gtRuns_z_wn (P : Params) (b1 b2 b3 : Bool) : GtRuns_wn (setRows P b1 b2 b3) (zTop (setRows P b1 b2 b3)) := by
  revert b1; refine allB ?_ ?_
  · intro B t₀ S A fr me it tt t0; refine allO ?_ ?_ <;> (intros; kernel_rfl)
  · intro B t₀ S A fr me it tt t0; refine allO ?_ ?_ <;> (intros; kernel_rfl)
theorem gtRuns_z (P : Params) (b1 b2 b3 : Bool) : GtRuns (setRows P b1 b2 b3) (zTop (setRows P b1 b2 b3)) :=
  ⟨gtRuns_z_isf P b1 b2 b3, gtRuns_z_r1 P b1 b2 b3, gtRuns_z_r2 P b1 b2 b3, gtRuns_z_r3 P b1 b2 b3, gtRuns_z_ws P b1 b2 b3, gtRuns_z_wn P b1 b2 b3⟩
theorem czRuns_z_z0 (P : Params) (b1 b2 b3 : Bool) : CzRuns_z0 (setRows P b1 b2 b3) (zTop (setRows P b1 b2 b3)) := by
  intro _; intros; kernel_rfl
theorem czRuns_z_z3 (P : Params) (b1 b2 b3 : Bool) : CzRuns_z3 (setRows P b1 b2 b3) (zTop (setRows P b1 b2 b3)) := by
  intro _; intros; kernel_rfl
theorem czRuns_z_z00 (P : Params) (b1 b2 b3 : Bool) : CzRuns_z00 (setRows P b1 b2 b3) (zTop (setRows P b1 b2 b3)) := by
  intro _; intros; kernel_rfl
theorem czRuns_z_z1 (P : Params) (b1 b2 b3 : Bool) : CzRuns_z1 (setRows P b1 b2 b3) (zTop (setRows P b1 b2 b3)) := by
  revert b1; refine allB ?_ ?_
  · intro _; intros; kernel_rfl
  · intro _; intros; kernel_rfl
theorem czRuns_z_z2 (P : Params) (b1 b2 b3 : Bool) : CzRuns_z2 (setRows P b1 b2 b3) (zTop (setRows P b1 b2 b3)) := by
  intro _; intros; kernel_rfl
theorem czRuns_z (P : Params) (b1 b2 b3 : Bool) : CzRuns (setRows P b1 b2 b3) (zTop (setRows P b1 b2 b3)) :=
  ⟨czRuns_z_z0 P b1 b2 b3, czRuns_z_z3 P b1 b2 b3, czRuns_z_z00 P b1 b2 b3, czRuns_z_z1 P b1 b2 b3, czRuns_z_z2 P b1 b2 b3⟩
end Mine

end
section
open PySem PySem.W PySem.W.X PyProof.Rows
set_option maxRecDepth 100000
set_option Elab.async false
set_option maxHeartbeats 2000000
set_option genInjectivity false
set_option genSizeOfSpec false
namespace Mine
theorem allRuns_z (P : Params) (b1 b2 b3 : Bool) : AllRuns (setRows P b1 b2 b3) (zTop (setRows P b1 b2 b3)) :=
  ⟨⟨hrRuns_z P b1 b2 b3, biRuns_z P b1 b2 b3, inRuns_z P b1 b2 b3, enRuns_z P b1 b2 b3, roRuns_z P b1 b2 b3, heRuns_z P b1 b2 b3, liRuns_z P b1 b2 b3, svRuns_z P b1 b2 b3⟩, laRuns_z P b1 b2 b3, lbRuns_z P b1 b2 b3, lcRuns_z P b1 b2 b3, ldRuns_z P b1 b2 b3, lxRuns_z P b1 b2 b3, gtRuns_z P b1 b2 b3, czRuns_z P b1 b2 b3, tkRuns_z P b1 b2 b3, txRuns_z P b1 b2 b3, duRuns_z P b1 b2 b3⟩
theorem allRuns (P : Params) : AllRuns P (zTop P) := by
  have h := allRuns_z P (P.followText "special-get-raises") (P.followText "for-iterable-display-folded") (P.followText "comprehension-iter-twice")
  rw [setRows_is] at h
  exact h
noncomputable def o101 (P : Params) : Obj := match (ktop P).get 101 with
  | some o => o
  | none => default
noncomputable def vs101 (P : Params) : Array Value := match (o101 P).data with
  | .fields vs => vs
  | _ => #[]
theorem k101 (P : Params) : (ktop P).get 101 = some (o101 P) := by kernel_rfl
theorem k101' (P : Params) : o101 P = { o101 P with cls := .type "code", data := .fields (vs101 P) } := by kernel_rfl
theorem k101'' (P : Params) : (vs101 P)[11]? = some (.ref 97) := by kernel_rfl
theorem k97 (P : Params) : (ktop P).get 97 = some (tableObj #[]) := by kernel_rfl
theorem k143 (P : Params) : (ktop P).get 143 = none := by kernel_rfl
theorem zTop_get {P : Params} {a : Nat} {o : Obj} (e : zTop P a = some o) : (ktop P).get a = some o ∧ a ≠ 97 ∧ a ≠ 139 := by
  unfold zTop topOf at e
  split at e
  · cases e
  · rename_i h1
    split at e
    · cases e
    · rename_i h2
      refine ⟨e, fun q => ?_, fun q => ?_⟩
      · subst q; cases h1
      · subst q; cases h2
theorem ints_ivs {vals : List Value} {ns : List Int} (h : IntsAre vals ns) : ∃ xs : List (Int × Nat), vals = ivs xs ∧ xs.length = ns.length := by
  induction h with
  | nil => exact ⟨[], rfl, rfl⟩
  | cons n t _ ih =>
    obtain ⟨xs, h1, h2⟩ := ih
    exact ⟨(n, t) :: xs, by rw [h1]; rfl, by simp [h2]⟩
theorem fin_law {w : World} {s₁ : Shared} (ZH : KT.Holds s₁.heap 1 0 (ktop w.params)) (hsz : s₁.heap.objs.size = 143 + 1) (hg : s₁.gens = #[]) {vals : List Value} {nzs : List Int} (hL : s₁.heap.get? 143 = some { cls := .type "list", data := .seq vals.toArray }) (hi : IntsAre vals nzs) (hlen : nzs.length ≤ 63) {c : ClaimW} {cl : Str → Option Addr} {mean : ExcName → Option Value} {args : List WData} (hr : ∀ cls, c.raises args cls = false) (hp : c.post args (.bool true) args = true) :
    wpAny (Md w) callerA (call (.ref 142) [.ref 143]) (fun v s' => GoodWG c cl mean args s₁ (.ok (.ret v)) s') (fun e s' => GoodWG c cl mean args s₁ (.error e) s') s₁ := by
  obtain ⟨h, g, d, t, os⟩ := s₁
  simp only at ZH hsz hg hL
  have T : TopOk (zTop w.params) h := fun a o e => kt_at ZH (zTop_get e).1
  have sep : TopSep (zTop w.params) := fun a o e => by
    have h1 : a < h.objs.size := Heap.lt_size (T a o e)
    have h2 : a ≠ 143 := fun q => by
      subst q
      have := (zTop_get e).1
      rw [k143] at this
      cases this
    exact ⟨by (first | lia | omega), (zTop_get e).2⟩
  obtain ⟨xs, rfl, hx⟩ := ints_ivs hi
  have hsl : h.get? 143 = some (lsO (ivs xs) 0) := hL
  have h97 : h.get? 97 = some o97e := kt_at ZH (k97 w.params)
  have a : Rm callerA 301 := ⟨by decide, by decide, rfl⟩
  refine wpAny_call ?_
  refine law_spec rfl (allRuns w.params) sep T a (by (first | lia | omega)) hsl (by (first | lia | omega)) (by (first | lia | omega)) h97 fun h' t' c1 c2 k hk97 => ?_
  have D : Mem h h' [(97, tableObj (#[] ++ #[rawInt 107, rawInt 13, .ref c1, rawInt 108, rawInt 18, .ref c2]))] [] := by
    refine ⟨fun b o e q => ?_, fun p hp => ?_, by simp, fun p hp => (nomatch hp), by simp⟩
    · refine k.kp e ?_
      simp only [List.mem_cons, List.not_mem_nil, or_false]
      intro hb
      subst hb
      rw [h97] at e
      cases e
      exact absurd (show false = true from q) Bool.false_ne_true
    · simp only [List.mem_cons, List.not_mem_nil, or_false] at hp
      subst hp
      obtain ⟨cc, hcc⟩ := table_kt ZH (k101 w.params) (k101' w.params) (k101'' w.params) (k97 w.params)
      exact ⟨hk97, cc, #[], _, hcc, rfl⟩
  exact ⟨.inl ⟨_, _, [], rfl, hr, ReadsW.bool true, hp, fun _ => ⟨List.nodup_nil, fun _ hm => (nomatch hm)⟩⟩, D.oldK, rfl, by rw [hg]; exact AllBare.empty⟩
end Mine

end
open PySem PySem.W PySem.W.X PyProof.Rows
set_option maxRecDepth 100000
set_option Elab.async false
noncomputable def Mine.dLaw : DefRec := ⟨Str.ofString "law", (Mine.sParts (Mine.tS 16)).1, (Mine.sParts (Mine.tS 16)).2.1, (Mine.sParts (Mine.tS 16)).2.2.1, (Mine.sParts (Mine.tS 16)).2.2.2⟩
theorem Mine.said : OpenLaw.wellSaid PySem.Challenge.rw_qu0021_01 = true := by rw [Fast.te9446332074065402090]; kernel_rfl
theorem Mine.zH_eq {h : Heap} {t t' : KT} (e : t = t') (H : KT.Holds h 1 0 t) : KT.Holds h 1 0 t' := by subst e; exact H
theorem Mine.zH_of {h h' : Heap} {K : Frag} {t : KT} (e : KT.of K = t) (k : ∀ b o, h.get? b = some o → h'.get? b = some o) (A : AllIn h K) : KT.Holds h' 1 0 t := Mine.zH_eq e (KT.Holds.keeps k (holds_of A))
set_option maxHeartbeats 0 in
theorem PySem.Challenge.cw_qu0021_01_holds : PySem.Challenge.rw_qu0021_01.Holds := by
  w_on
  refine holds_law Mine.said fun said => ?_
  refine holds_openX (q := Mine.qv) (loose := [Str.ofString "insort_right", Str.ofString "bisect_right"]) (d := Mine.dLaw) (kwd := []) (Xt := fun s => xlAt Mine.qv [] s && recOk (RowW.records PySem.Challenge.rw_qu0021_01.row.toRowW) s) (XP := XL Mine.qv []) (Yf := obsZ Mine.heapA) (Ya := valZ Mine.heapL 143 403) (N := 1688) Mine.opens (fun s e => xl_of s (Bool.and_eq_true_iff.mp e).1) XL.keeps (by kernel_rfl) (by kernel_rfl) (by kernel_rfl) (fun s e => recFacts_of (Bool.and_eq_true_iff.mp e).2) (by kernel_rfl) (by assumption) (by decide +kernel) ⟨by kernel_rfl, by kernel_rfl, by kernel_rfl, by kernel_rfl, by kernel_rfl, by decide +kernel⟩ ?hw ?hc
  case hw => w_witness2
  intro w s₀ s₁ mg mb G y fa o pm cd doc dV kV ho hd hcd hD hmg hg args vals as L hpre hlay hrd hwl hlo
  obtain ⟨ZA, ZI, ZN, ZT⟩ := z_facts Mine.heapA_is y
  have KX : Frag.In (Mine.heapL w.params) s₁.heap := InK.keeps w _ _ ZI L.keeps
  have ZH := Mine.zH_of (Mine.ktop_is w.params) L.keeps ZA
  refine Ground.open G ?_
  intro T B D TE TW
  wrow_args hpre hlay hrd hwl hlo
  obtain ⟨hat, hsz⟩ := script_at L
  rw [ZN] at hat hsz
  subst hat
  x_fa T KX hmg
  have hsc := script_obj L ‹s₁.heap.IsList 143 _›
  all_lens
  exact Mine.fin_law ZH hsz hg hsc ‹IntsAre _ _› (by (first | lia | omega)) (fun _ => by kernel_rfl) (by kernel_rfl)
