import PyProof.Rows.All
import Wide.All
import OpenK.AllK
import Wide.FinOn
import PySem.Challenge.RW_pa0022_01
open PySem PySem.W PyProof.Rows
set_option Elab.async false
set_option linter.all false
set_option compiler.extract_closed false
/- TopX -/
namespace Mine
set_option maxRecDepth 100000 in
set_option maxHeartbeats 8000000 in
open_top hd for PySem.Challenge.rw_pa0022_01
end Mine
/- Base0 -/
set_option maxRecDepth 100000
namespace Mine
abbrev RetS (h₀ : Heap) (L : Addr) (m : Str → Option Value) (news : List (Addr × Obj)) (s : Shared) (Q : Value → Shared → Prop) (R : Tok → Value) : Prop :=
  ∀ (t : Tok) (h' : Heap) (tk' : Nat), Fr h₀ L h' m → News h₀ L h' news → Q (R t) { s with heap := h', toks := tk' }
/-- a call of the def at f hands back a plain value; lv: the frames that it may want -/
def Con (lv : Nat) (w : World) (f : Addr) (vs : List Value) (kw : List (Str × Value)) (R : Tok → Value) : Prop :=
  ∀ (prog p : Program) (loose : List Str) (mean : ExcName → Option Value) (mg mb : Str → Option Value) (dp un : Nat) (gd : Option (List Code)) (cn : Str) (cs : Scope) (a : Addr) (ccd : Value) (cl : List (Str × Addr)) (outer : List Env) (A₀ : Around) (base h₀ : Heap) (L : Addr) (m : Str → Option Value) (news : List (Addr × Obj)) (s : Shared) (Q E : Value → Shared → Prop),
    Below A₀ base outer h₀ → Fr h₀ L s.heap m → (hd.heap_39 w.params).In h₀ → News h₀ L s.heap news → Top p loose mean mg mb h₀ → cs.kind = .function → dp + lv ≤ 350 → un + 8 * lv ≤ 400 →
    RetS h₀ L m news s Q R →
      wpAny (model prog w) (ktrTop dp un gd cn cs L a ccd cl outer) (call (.ref f) vs kw) Q E s
theorem Con.use {lv : Nat} {w : World} {f : Addr} {vs : List Value} {kw : List (Str × Value)} {R : Tok → Value}
    {prog p : Program} {loose : List Str} {mean : ExcName → Option Value} {mg mb : Str → Option Value} {dp un : Nat} {gd : Option (List Code)} {cn : Str} {cs : Scope} {a : Addr} {ccd : Value} {cl : List (Str × Addr)} {outer : List Env} {A₀ : Around} {base h₀ : Heap} {L : Addr} {m : Str → Option Value} {news : List (Addr × Obj)} {s : Shared} {Q E : Value → Shared → Prop}
    (B : Below A₀ base outer h₀ := by k_asm) (F : Fr h₀ L s.heap m := by k_asm) (X : (hd.heap_39 w.params).In h₀ := by k_asm) (N : News h₀ L s.heap news := by k_asm) (T : Top p loose mean mg mb h₀ := by k_asm) (hk : cs.kind = .function := by first | exact rfl | assumption) (hd : dp + lv ≤ 350 := by first | ktr_room | omega) (hu : un + 8 * lv ≤ 400 := by first | ktr_units | omega)
    (C : Con lv w f vs kw R)
    (ret : ∀ (t : Tok) (h' : Heap) (tk' : Nat), Fr h₀ L h' m → News h₀ L h' news → Q (R t) { s with heap := h', toks := tk' }) :
    wpAny (model prog w) (ktrTop dp un gd cn cs L a ccd cl outer) (call (.ref f) vs kw) Q E s :=
  C prog p loose mean mg mb dp un gd cn cs a ccd cl outer A₀ base h₀ L m news s Q E B F X N T hk hd hu ret
theorem kst_end1 {h₀ : Heap} {x : Str} {σ : Type} {Led : σ → List (Addr × Obj)} {ps : σ → List (Str × Value)} {Facts : σ → Prop} {stored : List Str} {m₀ : Str → Option Value} {P : List Int → σ → Prop} {pre : List Int} (c : σ) {L al : Addr} {o : Obj} {m' : Str → Option Value} {own news : List (Addr × Obj)} {adr : List Addr} {s₁ : Shared} {h' : Heap} {tk : Nat}
    (F : Fr h₀ L h' m') (N : News h₀ L h' ((al, o) :: (news ++ own))) (hL : Led c = (al, o) :: news) (ha : adr = al :: news.map (·.1)) (hk : ∀ p ∈ ps c, m' p.1 = some p.2) (hr : ∀ z, z ≠ x → (∀ p ∈ ps c, z ≠ p.1) → stored.contains z = false → m' z = m₀ z) (hf : Facts c) (hp : P pre c) :
    InvEndN h₀ L (KstS Led ps Facts x stored m₀ P pre) own adr s₁ { s₁ with heap := h', toks := tk } :=
  kst_end c F N (by rw [hL]; intro q hq; rcases List.mem_cons.mp hq with rfl | hq; exact List.mem_cons_self; exact List.mem_cons_of_mem _ (List.mem_append_left _ hq)) (fun q hq => List.mem_cons_of_mem _ (List.mem_append_right _ hq)) (by rw [hL, ha]; rfl) hf hk hr hp
end Mine
/- Leaf -/
set_option maxRecDepth 100000
set_option maxHeartbeats 8000000
namespace Mine
theorem filled : PySem.Challenge.rw_pa0022_01 = PySem.Challenge.rw_pa0022_01 ∧ hd.heap_39 = hd.heap_39 := by k_fill; exact ⟨rfl, rfl⟩
local macro_rules | `(tactic| k_room) => `(tactic| ktr_room)
local macro_rules | `(tactic| walk_at "call type:type") => `(tactic| ((with_reducible show wpAny _ _ (call _ [Value.bytes _ _]) _ _ _); refine call_type_of (Tx := "bytes") rfl (by decide +kernel) ?_))
def b64v (c : Int) : Int := if 65 ≤ c ∧ c ≤ 90 then c - 65 else if 97 ≤ c ∧ c ≤ 122 then c - 71 else if 48 ≤ c ∧ c ≤ 57 then c + 4 else if c = 43 then 62 else if c = 47 then 63 else 64
theorem b64_value_con (w : World) (c : Int) (tc : Tok) : Con 1 w 104 [.int c tc] [] (fun t => .int (b64v c) t) := by
  w_on
  unfold Con
  intro prog p loose mean mg mb dp un gd cn cs a ccd cl outer A₀ base h₀ L m news s Q E B F X N T hk hdp hun hret
  refine wpAny_call ?_
  k_dflt cell_enter
  k_steps
  all_goals (refine cb_retI hret ?_ (by k_asm) (by k_asm); unfold b64v; (repeat' split) <;> omega)
theorem truth_con (w : World) (b : Bool) : Con 1 w 97 [.bool b] [] (fun _ => .bool b) := by
  w_on
  unfold Con
  intro prog p loose mean mg mb dp un gd cn cs a ccd cl outer A₀ base h₀ L m news s Q E B F X N T hk hdp hun hret
  refine wpAny_call ?_
  k_dflt cell_enter
  cases b
  all_goals k_steps
  all_goals (exact hret 0 _ _ (by k_asm) (by k_asm))
theorem buffer_con (w : World) (b : Array UInt8) (tb : Tok) : Con 1 w 90 [.bytes b tb] [] (fun _ => .bytes b tb) := by
  w_on
  unfold Con
  intro prog p loose mean mg mb dp un gd cn cs a ccd cl outer A₀ base h₀ L m news s Q E B F X N T hk hdp hun hret
  refine wpAny_call ?_
  k_dflt cell_enter
  k_steps
  all_goals (exact hret 0 _ _ (by k_asm) (by k_asm))
theorem ascii_buffer_con (w : World) (b : Array UInt8) (tb : Tok) : Con 1 w 83 [.bytes b tb] [] (fun _ => .bytes b tb) := by
  w_on
  unfold Con
  intro prog p loose mean mg mb dp un gd cn cs a ccd cl outer A₀ base h₀ L m news s Q E B F X N T hk hdp hun hret
  refine wpAny_call ?_
  k_dflt cell_enter
  k_steps
  all_goals (exact hret 0 _ _ (by k_asm) (by k_asm))
end Mine
/- MathB -/
namespace Mine
abbrev b64L : List UInt8 := [65, 66, 67, 68, 69, 70, 71, 72, 73, 74, 75, 76, 77, 78, 79, 80, 81, 82, 83, 84, 85, 86, 87, 88, 89, 90, 97, 98, 99, 100, 101, 102, 103, 104, 105, 106, 107, 108, 109, 110, 111, 112, 113, 114, 115, 116, 117, 118, 119, 120, 121, 122, 48, 49, 50, 51, 52, 53, 54, 55, 56, 57, 43, 47]
/-- the sign of a figure, as a number -/
def code64 (n : Int) : Int := (((b64L.getD n.toNat 0).toNat : Nat) : Int)
theorem code64_in (n : Int) : 0 ≤ code64 n ∧ code64 n < 128 := by
  unfold code64
  generalize n.toNat = k
  by_cases h : k < 64
  · have : ∀ k : Fin 64, (b64L.getD k.val 0).toNat < 128 := by decide
    have := this ⟨k, h⟩
    simp only at this
    omega
  · rw [List.getD_eq_getElem?_getD, List.getElem?_eq_none (by simpa using h)]
    decide
theorem bitNot_def (x : Int) : Builtin.bitNot x = -x - 1 := rfl
theorem bitOr_pp {x y : Int} (hx : 0 ≤ x) (hy : 0 ≤ y) : Builtin.bitOr x y = ((x.toNat ||| y.toNat : Nat) : Int) := by
  have h1 : ¬ 0 ≤ -x - 1 := by omega
  have h2 : ¬ 0 ≤ -y - 1 := by omega
  unfold Builtin.bitOr
  rw [bitNot_def x, bitNot_def y, bitAnd_nn h1 h2]
  simp only [bitNot_def]
  rw [show - (-x - 1) - 1 = x by omega, show - (-y - 1) - 1 = y by omega]
  omega
theorem bitOr_shift {a n : Int} (k : Nat) (ha : 0 ≤ a) (hn : 0 ≤ n) (hk : n < 2 ^ k) : Builtin.bitOr (a * 2 ^ k) n = a * 2 ^ k + n := by
  have h2 : (0 : Int) ≤ 2 ^ k := by have := Int.pow_pos (n := 2) (m := k) (by omega); omega
  rw [bitOr_pp (Int.mul_nonneg ha h2) hn]
  obtain ⟨a', rfl⟩ := Int.eq_ofNat_of_zero_le ha
  obtain ⟨n', rfl⟩ := Int.eq_ofNat_of_zero_le hn
  have e : ((a' : Int) * 2 ^ k) = ((a' * 2 ^ k : Nat) : Int) := by push_cast; rfl
  rw [e]
  have hk' : n' < 2 ^ k := by
    have : ((n' : Nat) : Int) < ((2 ^ k : Nat) : Int) := by push_cast; exact hk
    omega
  simp only [Int.toNat_natCast]
  have := Nat.two_pow_add_eq_or_of_lt hk' a'
  rw [Nat.mul_comm] at this
  rw [← this]
  push_cast; rfl
/-- three octets, four figures -/
def enc : List Int → List Int
  | x :: y :: z :: r => x / 4 :: (x % 4 * 16 + y / 16) :: (y % 16 * 4 + z / 64) :: z % 64 :: enc r
  | _ => []
theorem enc_append : ∀ (p q : List Int), p.length % 3 = 0 → enc (p ++ q) = enc p ++ enc q
  | [], q, _ => by simp [enc]
  | [_], _, h => by simp at h
  | [_, _], _, h => by simp at h
  | x :: y :: z :: r, q, h => by
    have := enc_append r q (by simp only [List.length_cons] at h; omega)
    simp [enc, this]
theorem enc_length : ∀ (p : List Int), 3 * (enc p).length ≤ 4 * p.length
  | [] => by simp [enc]
  | [_] => by simp [enc]
  | [_, _] => by simp [enc]
  | x :: y :: z :: r => by
    have := enc_length r
    simp only [enc, List.length_cons]; omega
def EncInv (pre out : List Int) (lb lc : Int) : Prop := 0 ≤ lc ∧ lc < 65536 ∧
  ((pre.length % 3 = 0 ∧ lb = 0 ∧ out = (enc pre).map code64) ∨
   (∃ p x, pre = p ++ [x] ∧ p.length % 3 = 0 ∧ 0 ≤ x ∧ x < 256 ∧ lb = 2 ∧ out = (enc p).map code64 ++ [code64 (x / 4)] ∧ lc % 4 = x % 4) ∨
   (∃ p x y, pre = p ++ [x, y] ∧ p.length % 3 = 0 ∧ 0 ≤ x ∧ x < 256 ∧ 0 ≤ y ∧ y < 256 ∧ lb = 4 ∧ out = (enc p).map code64 ++ [code64 (x / 4), code64 (x % 4 * 16 + y / 16)] ∧ lc % 16 = y % 16))
theorem enc_start : EncInv [] [] 0 0 := ⟨by omega, by omega, .inl ⟨rfl, rfl, rfl⟩⟩
theorem EncInv.len {pre out : List Int} {lb lc : Int} (h : EncInv pre out lb lc) : out.length ≤ 2 * pre.length := by
  obtain ⟨_, _, h⟩ := h
  rcases h with ⟨_, _, rfl⟩ | ⟨p, x, rfl, _, _, _, _, rfl, _⟩ | ⟨p, x, y, rfl, _, _, _, _, _, _, rfl, _⟩
  · have := enc_length pre; simp only [List.length_map]; omega
  · have := enc_length p; simp only [List.length_append, List.length_map, List.length_cons, List.length_nil]; omega
  · have := enc_length p; simp only [List.length_append, List.length_map, List.length_cons, List.length_nil]; omega
theorem shl8 {lc n : Int} (h0 : 0 ≤ lc) (hn : 0 ≤ n) (hn' : n < 256) : Builtin.bitAnd (Builtin.bitOr (lc * 2 ^ Int.toNat 8) n) 65535 = (lc * 256 + n) % 65536 := by
  have := bitOr_shift 8 h0 hn (by simpa using hn')
  rw [bitAnd_m16, show Int.toNat 8 = 8 from rfl, this]
  rfl
theorem enc_turn0 {pre out out' : List Int} {lc n lb' lc' : Int} (h0 : 0 ≤ lc) (hn : 0 ≤ n) (hn' : n < 256) (hp : pre.length % 3 = 0) (ho : out = (enc pre).map code64)
    (e1 : lb' = 2) (e2 : lc' = (lc * 256 + n) % 65536) (e3 : out' = out ++ [code64 (lc' / 4 % 64)]) : EncInv (pre ++ [n]) out' lb' lc' := by
  refine ⟨by omega, by omega, .inr (.inl ⟨pre, n, rfl, hp, hn, hn', e1, ?_, by omega⟩)⟩
  rw [e3, ho, show lc' / 4 % 64 = n / 4 by omega]
theorem enc_turn1 {p out out' : List Int} {x lc n lb' lc' : Int} (h0 : 0 ≤ lc) (hn : 0 ≤ n) (hn' : n < 256) (hp : p.length % 3 = 0) (hx0 : 0 ≤ x) (hx1 : x < 256) (hlc : lc % 4 = x % 4)
    (ho : out = (enc p).map code64 ++ [code64 (x / 4)]) (e1 : lb' = 4) (e2 : lc' = (lc * 256 + n) % 65536) (e3 : out' = out ++ [code64 (lc' / 16 % 64)]) : EncInv (p ++ [x] ++ [n]) out' lb' lc' := by
  refine ⟨by omega, by omega, .inr (.inr ⟨p, x, n, by simp, hp, hx0, hx1, hn, hn', e1, ?_, by omega⟩)⟩
  rw [e3, ho, show lc' / 16 % 64 = x % 4 * 16 + n / 16 by omega]
  simp
theorem enc_turn2 {p out out' : List Int} {x y lc n lb' lc' : Int} (h0 : 0 ≤ lc) (hn : 0 ≤ n) (hn' : n < 256) (hp : p.length % 3 = 0) (hx0 : 0 ≤ x) (hx1 : x < 256) (hy0 : 0 ≤ y) (hy1 : y < 256) (hlc : lc % 16 = y % 16)
    (ho : out = (enc p).map code64 ++ [code64 (x / 4), code64 (x % 4 * 16 + y / 16)]) (e1 : lb' = 0) (e2 : lc' = (lc * 256 + n) % 65536) (e3 : out' = out ++ [code64 (lc' / 64 % 64)] ++ [code64 (lc' % 64)]) : EncInv (p ++ [x, y] ++ [n]) out' lb' lc' := by
  refine ⟨by omega, by omega, .inl ⟨by simp only [List.length_append, List.length_cons, List.length_nil]; omega, e1, ?_⟩⟩
  rw [e3, ho, List.append_assoc p, enc_append p _ hp, show lc' / 64 % 64 = y % 16 * 4 + n / 64 by omega, show lc' % 64 = n % 64 by omega]
  simp [enc]
end Mine
namespace Mine
/-- four figures, three octets -/
def dec : List Int → List Int
  | a :: b :: c :: d :: r => (4 * a + b / 16) :: (b % 16 * 16 + c / 4) :: (c % 4 * 64 + d) :: dec r
  | _ => []
theorem dec_append : ∀ (p q : List Int), p.length % 4 = 0 → dec (p ++ q) = dec p ++ dec q
  | [], q, _ => by simp [dec]
  | [_], _, h => by simp at h
  | [_, _], _, h => by simp at h
  | [_, _, _], _, h => by simp at h
  | a :: b :: c :: d :: r, q, h => by
    have := dec_append r q (by simp only [List.length_cons] at h; omega)
    simp [dec, this]
theorem dec_length : ∀ (p : List Int), (dec p).length ≤ p.length
  | [] => by simp [dec]
  | [_] => by simp [dec]
  | [_, _] => by simp [dec]
  | [_, _, _] => by simp [dec]
  | a :: b :: c :: d :: r => by
    have := dec_length r
    simp only [dec, List.length_cons]; omega
theorem dec_in : ∀ (p : List Int), (∀ f ∈ p, 0 ≤ f ∧ f < 64) → ∀ n ∈ dec p, 0 ≤ n ∧ n < 256
  | [], _, n, h => by simp [dec] at h
  | [_], _, n, h => by simp [dec] at h
  | [_, _], _, n, h => by simp [dec] at h
  | [_, _, _], _, n, h => by simp [dec] at h
  | a :: b :: c :: d :: r, hp, n, h => by
    have ha := hp a (by simp)
    have hb := hp b (by simp)
    have hc := hp c (by simp)
    have hd := hp d (by simp)
    simp only [dec, List.mem_cons] at h
    rcases h with rfl | rfl | rfl | h
    · omega
    · omega
    · omega
    · exact dec_in r (fun f hf => hp f (by simp [hf])) n h
theorem enc_dec : ∀ (p : List Int), p.length % 4 = 0 → (∀ f ∈ p, 0 ≤ f ∧ f < 64) → enc (dec p) = p
  | [], _, _ => by simp [dec, enc]
  | [_], h, _ => by simp at h
  | [_, _], h, _ => by simp at h
  | [_, _, _], h, _ => by simp at h
  | a :: b :: c :: d :: r, h, hp => by
    have ha := hp a (by simp)
    have hb := hp b (by simp)
    have hc := hp c (by simp)
    have hd := hp d (by simp)
    have := enc_dec r (by simp only [List.length_cons] at h; omega) (fun f hf => hp f (by simp [hf]))
    simp only [dec, enc, this]
    congr 1
    · omega
    · congr 1
      · omega
      · congr 1
        · omega
        · congr 1
          omega
/-- what the reader's loop holds: the figures read so far are fs.take pre.length -/
def DecInv (fs pre out : List Int) (q lc : Int) : Prop :=
  (∃ p, fs.take pre.length = p ∧ p.length % 4 = 0 ∧ q = 0 ∧ lc = 0 ∧ out = dec p) ∨
  (∃ p a, fs.take pre.length = p ++ [a] ∧ p.length % 4 = 0 ∧ q = 1 ∧ lc = a ∧ out = dec p) ∨
  (∃ p a b, fs.take pre.length = p ++ [a, b] ∧ p.length % 4 = 0 ∧ q = 2 ∧ lc = b % 16 ∧ out = dec p ++ [4 * a + b / 16]) ∨
  (∃ p a b c, fs.take pre.length = p ++ [a, b, c] ∧ p.length % 4 = 0 ∧ q = 3 ∧ lc = c % 4 ∧ out = dec p ++ [4 * a + b / 16, b % 16 * 16 + c / 4])
theorem dec_start (fs : List Int) : DecInv fs [] [] 0 0 := .inl ⟨[], rfl, rfl, rfl, rfl, rfl⟩
theorem DecInv.len {fs pre out : List Int} {q lc : Int} (h : DecInv fs pre out q lc) : out.length ≤ fs.length := by
  have hl : (fs.take pre.length).length ≤ fs.length := by rw [List.length_take]; omega
  rcases h with ⟨p, e, _, _, _, rfl⟩ | ⟨p, a, e, _, _, _, rfl⟩ | ⟨p, a, b, e, _, _, _, rfl⟩ | ⟨p, a, b, c, e, _, _, _, rfl⟩
  all_goals
    rw [e] at hl
    have := dec_length p
    (try simp only [List.length_append, List.length_cons, List.length_nil] at hl)
    (try simp only [List.length_append, List.length_cons, List.length_nil])
    omega
theorem fig_at {fs pre post : List Int} {n : Int} (h : fs.map code64 = pre ++ n :: post) : ∃ f, f ∈ fs ∧ n = code64 f ∧ fs.take (pre ++ [n]).length = fs.take pre.length ++ [f] := by
  have hl : pre.length < fs.length := by have := congrArg List.length h; simp only [List.length_map, List.length_append, List.length_cons] at this; omega
  refine ⟨fs[pre.length], List.getElem_mem _, ?_, ?_⟩
  · have h1 : (fs.map code64)[pre.length]? = some n := by rw [h]; simp
    rw [List.getElem?_map, List.getElem?_eq_getElem hl] at h1
    exact (Option.some.inj h1).symm
  · rw [List.length_append, List.length_singleton, List.take_add_one, List.getElem?_eq_getElem hl]
    rfl
theorem code64_ne {f : Int} (h0 : 0 ≤ f) (h1 : f < 64) : code64 f ≠ 61 := by
  have : ∀ k : Fin 64, code64 (k.val : Int) ≠ 61 := by decide
  have h := this ⟨f.toNat, by omega⟩
  simp only at h
  rwa [Int.toNat_of_nonneg h0] at h
end Mine
namespace Mine
theorem or_sh2 {a f : Int} (ha : 0 ≤ a) (h0 : 0 ≤ f) (h1 : f < 64) : Builtin.bitOr (a * 2 ^ Int.toNat 2) (f.fdiv (2 ^ Int.toNat 4)) = 4 * a + f / 16 := by
  rw [Int.fdiv_eq_ediv_of_nonneg _ (by decide), show (2 : Int) ^ Int.toNat 4 = 16 from rfl, show Int.toNat 2 = 2 from rfl, bitOr_shift 2 ha (by omega) (by simp only [show (2 : Int) ^ 2 = 4 from rfl]; omega)]
  simp only [show (2 : Int) ^ 2 = 4 from rfl]; omega
theorem or_sh4 {a f : Int} (ha : 0 ≤ a) (h0 : 0 ≤ f) (h1 : f < 64) : Builtin.bitOr (a * 2 ^ Int.toNat 4) (f.fdiv (2 ^ Int.toNat 2)) = a * 16 + f / 4 := by
  rw [Int.fdiv_eq_ediv_of_nonneg _ (by decide), show (2 : Int) ^ Int.toNat 2 = 4 from rfl, show Int.toNat 4 = 4 from rfl, bitOr_shift 4 ha (by omega) (by simp only [show (2 : Int) ^ 4 = 16 from rfl]; omega)]
  simp only [show (2 : Int) ^ 4 = 16 from rfl]
theorem or_sh6 {a f : Int} (ha : 0 ≤ a) (h0 : 0 ≤ f) (h1 : f < 64) : Builtin.bitOr (a * 2 ^ Int.toNat 6) f = a * 64 + f := by
  rw [show Int.toNat 6 = 6 from rfl, bitOr_shift 6 ha (by omega) (by simp only [show (2 : Int) ^ 6 = 64 from rfl]; omega)]
  simp only [show (2 : Int) ^ 6 = 64 from rfl]
end Mine
/- B2A -/
set_option maxRecDepth 100000
set_option maxHeartbeats 8000000
namespace Mine
local macro_rules | `(tactic| walk_at "idle") => `(tactic| fail)
theorem filledB : PySem.Challenge.rw_pa0022_01 = PySem.Challenge.rw_pa0022_01 ∧ hd.heap_39 = hd.heap_39 := by k_fill; exact ⟨rfl, rfl⟩
local macro_rules | `(tactic| k_room) => `(tactic| ktr_room)
local macro_rules | `(tactic| walk_at "call type:type") => `(tactic| ((with_reducible show wpAny _ _ (call _ [Value.bytes _ _]) _ _ _); refine call_type_of (Tx := "bytes") rfl (by decide +kernel) ?_))
theorem b64_item {prog : Program} {w : World} {A : Around} {E : Value → Shared → Prop} {s : Shared} {x : Array UInt8} {i : Int} {t ui : Tok} {value slice : Expr} {Q : Value → Shared → Prop}
    (hx : x = b64L.toArray) (h : ∀ t' k, Q (.int (code64 (i % 64)) t') { s with toks := k })
    (hs : subscripted slice false (.bytes x t) (.int (Builtin.bitAnd i 63) ui) = operate [.bytes x t, .int (Builtin.bitAnd i 63) ui] (getItem (.bytes x t) (.int (Builtin.bitAnd i 63) ui)) := by with_unfolding_all rfl)
    (ht : ∀ r, letTemporaryGo value (.bytes x t) r = pure () := by intro _; with_unfolding_all rfl) : wpAny (model prog w) A (subscriptTail value slice (.bytes x t) (.int (Builtin.bitAnd i 63) ui)) Q E s := by
  subst hx
  have e := bitAnd_m6 i
  refine KBy.item_N (by decide) (by omega) (by rw [e]; have : b64L.length = 64 := rfl; omega) ?_ hs ht
  rw [e]
  exact h _ _
local macro_rules | `(tactic| walk_at "subscriptTail") => `(tactic| ((with_reducible show wpAny _ _ (subscriptTail _ _ (Value.bytes _ _) (Value.int (Builtin.bitAnd _ 63) _)) _ _ _); (refine b64_item rfl ?_); intro t' k'; (try dsimp only)))
local macro_rules | `(tactic| k_all) => `(tactic| assumption)
local macro_rules | `(tactic| walk_at "call builtin:list.append") => `(tactic| ((with_reducible show wpAny _ _ (call (Value.builtin _) ([Value.ref _] ++ [_])) _ _ _); k_dflt (refine' append_K ?k1 ?k2 ?k3 ?_ ?z; (case k1 => k_asm); (case k2 => k_asm); (case k3 => k_upd); (case z => size_fits)); intro h' F' N'; (try k_sweep); (try dsimp only)))
theorem b2a_con (w : World) (b : List UInt8) (tb : Tok) (hb : b.length ≤ 1000) (hb3 : b.length % 3 = 0) : Con 2 w 120 [.bytes b.toArray tb] [(PySem.Str.ofString "newline", .bool false)] (fun t => .bytes (((enc (b.map fun c => (c.toNat : Int))).map code64).map fun n => n.toNat.toUInt8).toArray t) := by
  w_on
  unfold Con
  intro prog p loose mean mg mb dp un gd cn cs a ccd cl outer A₀ base h₀ L m news s Q E B F X N T hk hdp hun hret
  refine wpAny_call ?_
  k_dflt (refine' code_def ?k1 ?k2 ?k3 ?k4 ?k5 ?kA ?kF ?kK ?k6 ?k7 ?k8 ?k9 ?kB ?_ ?c2 ?c3 ?c4 ?c5; (case kA => exact rfl); (case kF => exact rfl); (case kK => assumption); (case k1 => k_asm); (case k2 => k_asm); (case k3 => k_asm); (case k4 => k_asm); (case k5 => k_asm); (case k6 => k_is); (case k7 => k_is); (case k8 => ktr_room); (case k9 => first | exact BindsTo.of_eq rfl | exact binds_K (by k_in) rfl (by k_is) rfl rfl rfl); (case c5 => decide); (case kB => exact locs rfl); (case c2 => exact rfl); (case c3 => exact rfl); (case c4 => exact rfl); k_whole; intro g' L' h' FG' F' N' B' X' T'; (try dsimp only); (try k_lift B'); (try k_fold))
  k_steps
  rename News _ _ _ ((_, _) :: _) => lN
  rename Fr _ _ _ _ => lF
  rename Addr => al
  rename ∀ (q : Addr × Obj), q ∈ _ → q.1 < _ => hlt
  with_unfolding_all refine' KStb.kst_bytes (σ := (List Value × List Int × Nat) × (Int × Nat) × (Int × Nat)) (fun c => (al, W.listOf c.1.1.toArray c.1.2.2) :: news) (fun c => [(PySem.Str.ofString "leftbits", .int c.2.1.1 c.2.1.2), (PySem.Str.ofString "leftchar", .int c.2.2.1 c.2.2.2)]) (fun c => IntsAre c.1.1 c.1.2.1) [] (fun pre c => EncInv pre c.1.2.1 c.2.1.1 c.2.2.1) (([], [], 0), (0, _), (0, _)) (by exact KBw.ints_list _) (by exact List.length_map _) (by rfl) lF ?kn ?kf ?kk ?kp ?_ ?_
  case kn => exact lN
  case kf => exact .nil
  case kk => kst_all
  case kp => exact enc_start
  · rintro ⟨⟨vs, out, nn⟩, ⟨lb, tlb⟩, ⟨lc, tlc⟩⟩ pre post n t u h tk own kEq kLen kLo kHi kOff kFacts kInv kFr kNews
    clear lN lF
    dsimp only [kstB] at kFr
    dsimp only at kNews kFacts kInv kOff
    simp only [List.cons_append, List.map_cons] at kNews kOff
    have kL := kFacts.length
    have kI := kInv.len
    have kZ : vs.length ≤ 2000 := by omega
    have hNe : ∀ q ∈ news ++ own, q.1 ≠ al := fun q hq => (List.mem_append.mp hq).elim (fun h => Nat.ne_of_lt (hlt q h)) fun h => kOff q h al List.mem_cons_self
    obtain ⟨hl0, hl1, hI⟩ := kInv
    rcases hI with ⟨hp, hlb, ho⟩ | ⟨p, x, hp, hpl, hx0, hx1, hlb, ho, hlc⟩ | ⟨p, x, y, hp, hpl, hx0, hx1, hy0, hy1, hlb, ho, hlc⟩
    · subst hlb
      (try k_unmd); (try k_fold)
      k_steps
      rename News _ _ _ _ => eN
      rename Fr _ _ _ _ => eF
      simp only [List.push_toArray] at eN
      with_unfolding_all refine' kst_end1 ((vs ++ [Value.int _ _], out ++ [_], _), (_, _), (_, _)) eF eN rfl rfl ?hk ?hr ?hf ?hp
      case hk => kst_all
      case hr => kst_same
      case hf => exact ksk_snoc kFacts
      case hp =>
        dsimp only
        have e2 := shl8 (lc := lc) hl0 kLo kHi
        refine enc_turn0 hl0 kLo kHi hp ho (by omega) e2 ?_
        rw [Int.fdiv_eq_ediv_of_nonneg _ (by decide)]
        rfl
    · subst hlb hp
      (try k_unmd); (try k_fold)
      k_steps
      rename News _ _ _ _ => eN
      rename Fr _ _ _ _ => eF
      simp only [List.push_toArray] at eN
      with_unfolding_all refine' kst_end1 ((vs ++ [Value.int _ _], out ++ [_], _), (_, _), (_, _)) eF eN rfl rfl ?hk ?hr ?hf ?hp
      case hk => kst_all
      case hr => kst_same
      case hf => exact ksk_snoc kFacts
      case hp =>
        dsimp only
        have e2 := shl8 (lc := lc) hl0 kLo kHi
        refine enc_turn1 hl0 kLo kHi hpl hx0 hx1 hlc ho (by omega) e2 ?_
        rw [Int.fdiv_eq_ediv_of_nonneg _ (by decide)]
        rfl
    · subst hlb hp
      (try k_unmd); (try k_fold)
      k_steps
      rename News _ _ _ _ => eN
      rename Fr _ _ _ _ => eF
      simp only [List.push_toArray] at eN
      with_unfolding_all refine' kst_end1 ((vs ++ [Value.int _ _] ++ [Value.int _ _], out ++ [_] ++ [_], _), (_, _), (_, _)) eF eN rfl rfl ?hk ?hr ?hf ?hp
      case hk => kst_all
      case hr => kst_same
      case hf => exact ksk_snoc (ksk_snoc kFacts)
      case hp =>
        dsimp only
        have e2 := shl8 (lc := lc) hl0 kLo kHi
        refine enc_turn2 hl0 kLo kHi hpl hx0 hx1 hy0 hy1 hlc ho (by omega) e2 ?_
        rw [Int.fdiv_eq_ediv_of_nonneg _ (by decide), Int.fdiv_eq_ediv_of_nonneg _ (by decide)]
        rw [show (2 : Int) ^ (4 + 8 - 6 - 6 : Int).toNat = 1 from rfl, Int.ediv_one]
        rfl
  · rintro ⟨⟨vs, out, nn⟩, ⟨lb, tlb⟩, ⟨lc, tlc⟩⟩ u h tk kLen kFacts kInv kFr kNews
    clear lN lF
    dsimp only [kstB] at kFr
    dsimp only at kNews kFacts kInv
    have kL := kFacts.length
    have kI := kInv.len
    rw [List.length_map] at kI
    have kZ : vs.length ≤ 2000 := by omega
    obtain ⟨hl0, hl1, hI⟩ := kInv
    rcases hI with ⟨hp, hlb, ho⟩ | ⟨p, x, hp, hpl, hx0, hx1, hlb, ho, hlc⟩ | ⟨p, x, y, hp, hpl, hx0, hx1, hy0, hy1, hlb, ho, hlc⟩
    · subst hlb
      (try k_unmd); (try k_fold)
      k_steps
      refine bytes_K (by k_asm) (by k_asm) (by is_list) kFacts (by rw [ho]; intro q hq; obtain ⟨q', _, rfl⟩ := List.mem_map.mp hq; have := code64_in q'; omega) (by rw [sizeLine_eq]; omega) rfl ?_
      intro h' t' k' F' N' hB'
      k_steps
      subst ho
      exact hret _ _ _ (by k_asm) (fun q hq => (by assumption : News _ _ _ ((al, _) :: news)) q (List.mem_cons_of_mem _ hq))
    · exfalso
      have := congrArg List.length hp
      simp only [List.length_map, List.length_append, List.length_cons, List.length_nil] at this
      omega
    · exfalso
      have := congrArg List.length hp
      simp only [List.length_map, List.length_append, List.length_cons, List.length_nil] at this
      omega
end Mine
/- A2B -/
set_option maxRecDepth 100000
set_option maxHeartbeats 8000000
namespace Mine
theorem filledA : PySem.Challenge.rw_pa0022_01 = PySem.Challenge.rw_pa0022_01 ∧ hd.heap_39 = hd.heap_39 := by k_fill; exact ⟨rfl, rfl⟩
local macro_rules | `(tactic| k_room) => `(tactic| ktr_room)
local macro_rules | `(tactic| k_all) => `(tactic| assumption)
local macro_rules | `(tactic| walk_at "call builtin:list.append") => `(tactic| ((with_reducible show wpAny _ _ (call (Value.builtin _) ([Value.ref _] ++ [_])) _ _ _); k_dflt (refine' append_K ?k1 ?k2 ?k3 ?_ ?z; (case k1 => k_asm); (case k2 => k_asm); (case k3 => k_upd); (case z => size_fits)); intro h' F' N'; (try k_sweep); (try dsimp only)))
local macro_rules | `(tactic| walk_at "call ref") => `(tactic| (k_dflt ((first | (refine' Con.use (C := b64_value_con _ _ _) (ret := ?_)) | (refine' Con.use (C := truth_con _ _) (ret := ?_)) | (refine' Con.use (C := ascii_buffer_con _ _ _) (ret := ?_))); intro t9 h9 tk9 F9 N9; (try k_sweep); (try dsimp only))))
theorem ite_isTrue {b : Bool} {p q : Prop} (h : b = true) (hp : p) : if b = true then p else q := by rw [h]; exact hp
local macro_rules | `(tactic| walk_at "ite") => `(tactic| (k_openite; first | (refine ite_isFalse (decide_eq_false (by omega)) ?_; walk_say "CUT") | (refine ite_isTrue (decide_eq_true (by omega)) ?_; walk_say "CUT")))
theorem b64v_code {f : Int} (h0 : 0 ≤ f) (h1 : f < 64) : b64v (code64 f) = f := by
  have : ∀ k : Fin 64, b64v (code64 (k.val : Int)) = (k.val : Int) := by decide
  have h := this ⟨f.toNat, by omega⟩
  simp only at h
  rwa [Int.toNat_of_nonneg h0] at h
theorem a2b_con (w : World) (fs : List Int) (bs : List UInt8) (tb : Tok) (v : Bool) (hf : ∀ f ∈ fs, 0 ≤ f ∧ f < 64) (hb : bs.map (fun c => (c.toNat : Int)) = fs.map code64) (hl : fs.length ≤ 1000) (h4 : fs.length % 4 = 0) :
    Con 2 w 112 [.bytes bs.toArray tb] [(PySem.Str.ofString "strict_mode", .bool v)] (fun t => .bytes ((dec fs).map fun n => n.toNat.toUInt8).toArray t) := by
  w_on
  unfold Con
  intro prog p loose mean mg mb dp un gd cn cs a ccd cl outer A₀ base h₀ L m news s Q E B F X N T hk hdp hun hret
  refine wpAny_call ?_
  k_dflt (refine' code_def ?k1 ?k2 ?k3 ?k4 ?k5 ?kA ?kF ?kK ?k6 ?k7 ?k8 ?k9 ?kB ?_ ?c2 ?c3 ?c4 ?c5; (case kA => exact rfl); (case kF => exact rfl); (case kK => assumption); (case k1 => k_asm); (case k2 => k_asm); (case k3 => k_asm); (case k4 => k_asm); (case k5 => k_asm); (case k6 => k_is); (case k7 => k_is); (case k8 => ktr_room); (case k9 => first | exact BindsTo.of_eq rfl | exact binds_K (by k_in) rfl (by k_is) rfl rfl rfl); (case c5 => decide); (case kB => exact locs rfl); (case c2 => exact rfl); (case c3 => exact rfl); (case c4 => exact rfl); k_whole; intro g' L' h' FG' F' N' B' X' T'; (try dsimp only); (try k_lift B'); (try k_fold))
  k_steps
  rename News _ _ _ ((_, _) :: _) => lN
  rename Fr _ _ _ _ => lF
  rename Addr => al
  rename ∀ (q : Addr × Obj), q ∈ _ → q.1 < _ => hlt
  with_unfolding_all refine' KStb.kst_bytes (σ := (List Value × List Int × Nat) × (Int × Nat) × (Int × Nat) × Nat × (Int × Nat)) (fun c => (al, W.listOf c.1.1.toArray c.1.2.2) :: news) (fun c => [(PySem.Str.ofString "quad_pos", .int c.2.1.1 c.2.1.2), (PySem.Str.ofString "leftchar", .int c.2.2.1.1 c.2.2.1.2), (PySem.Str.ofString "pads", .int 0 c.2.2.2.1), (PySem.Str.ofString "i", .int c.2.2.2.2.1 c.2.2.2.2.2)]) (fun c => IntsAre c.1.1 c.1.2.1) [] (fun pre c => DecInv fs pre c.1.2.1 c.2.1.1 c.2.2.1.1) (([], [], 0), (0, _), (0, _), _, (0, _)) (by exact (KBw.ints_list _).trans hb) (by exact List.length_map _) (by rfl) lF ?kn ?kf ?kk ?kp ?_ ?_
  case kn => exact lN
  case kf => exact .nil
  case kk => kst_all
  case kp => exact dec_start _
  · rintro ⟨⟨vs, out, nn⟩, ⟨qp, tq⟩, ⟨lc, tlc⟩, tp, ⟨i, ti⟩⟩ pre post n t u h tk own kEq kLen kLo kHi kOff kFacts kInv kFr kNews
    clear lN lF
    dsimp only [kstB] at kFr
    dsimp only at kNews kFacts kInv kOff
    simp only [List.cons_append, List.map_cons] at kNews kOff
    have kL := kFacts.length
    have kI := kInv.len
    have kZ : vs.length ≤ 2000 := by omega
    have hNe : ∀ q ∈ news ++ own, q.1 ≠ al := fun q hq => (List.mem_append.mp hq).elim (fun h => Nat.ne_of_lt (hlt q h)) fun h => kOff q h al List.mem_cons_self
    obtain ⟨f, hfm, hn, htake⟩ := fig_at kEq
    have hf0 := (hf f hfm).1
    have hf1 := (hf f hfm).2
    have hn61 : n ≠ 61 := by rw [hn]; exact code64_ne hf0 hf1
    have hnv : b64v n = f := by rw [hn]; exact b64v_code hf0 hf1
    rcases kInv with ⟨p, e, hp, hq, hlc, ho⟩ | ⟨p, x, e, hp, hq, hlc, ho⟩ | ⟨p, x, y, e, hp, hq, hlc, ho⟩ | ⟨p, x, y, z, e, hp, hq, hlc, ho⟩
    · subst hq
      (try k_unmd); (try k_fold)
      k_steps
      rename News _ _ _ _ => eN
      rename Fr _ _ _ _ => eF
      with_unfolding_all refine' kst_end1 ((vs, out, _), (_, _), (_, _), _, (_, _)) eF eN rfl rfl ?hk ?hr ?hf ?hp
      case hk => kst_all
      case hr => kst_same
      case hf => exact kFacts
      case hp =>
        dsimp only
        exact .inr (.inl ⟨p, f, by rw [htake, e], hp, rfl, hnv, ho⟩)
    · subst hq
      have hx := hf x (List.mem_of_mem_take (by rw [e]; simp))
      (try k_unmd); (try k_fold)
      k_steps
      rename News _ _ _ _ => eN
      rename Fr _ _ _ _ => eF
      simp only [List.push_toArray] at eN
      with_unfolding_all refine' kst_end1 ((vs ++ [Value.int _ _], out ++ [_], _), (_, _), (_, _), _, (_, _)) eF eN rfl rfl ?hk ?hr ?hf ?hp
      case hk => kst_all
      case hr => kst_same
      case hf => exact ksk_snoc kFacts
      case hp =>
        dsimp only
        refine .inr (.inr (.inl ⟨p, x, f, by rw [htake, e]; simp, hp, rfl, ?_, ?_⟩))
        · rw [hnv, bitAnd_m4]
        · rw [ho, hnv, hlc, or_sh2 hx.1 hf0 hf1]
    · subst hq
      have hy := hf y (List.mem_of_mem_take (by rw [e]; simp))
      (try k_unmd); (try k_fold)
      k_steps
      rename News _ _ _ _ => eN
      rename Fr _ _ _ _ => eF
      simp only [List.push_toArray] at eN
      with_unfolding_all refine' kst_end1 ((vs ++ [Value.int _ _], out ++ [_], _), (_, _), (_, _), _, (_, _)) eF eN rfl rfl ?hk ?hr ?hf ?hp
      case hk => kst_all
      case hr => kst_same
      case hf => exact ksk_snoc kFacts
      case hp =>
        dsimp only
        refine .inr (.inr (.inr ⟨p, x, y, f, by rw [htake, e]; simp, hp, rfl, ?_, ?_⟩))
        · rw [hnv, bitAnd_m2]
        · rw [ho, hnv, hlc, or_sh4 (by omega) hf0 hf1]; simp
    · subst hq
      have hz := hf z (List.mem_of_mem_take (by rw [e]; simp))
      (try k_unmd); (try k_fold)
      k_steps
      rename News _ _ _ _ => eN
      rename Fr _ _ _ _ => eF
      simp only [List.push_toArray] at eN
      with_unfolding_all refine' kst_end1 ((vs ++ [Value.int _ _], out ++ [_], _), (_, _), (_, _), _, (_, _)) eF eN rfl rfl ?hk ?hr ?hf ?hp
      case hk => kst_all
      case hr => kst_same
      case hf => exact ksk_snoc kFacts
      case hp =>
        dsimp only
        refine .inl ⟨p ++ [x, y, z, f], by rw [htake, e]; simp, by simp only [List.length_append, List.length_cons, List.length_nil]; omega, rfl, rfl, ?_⟩
        rw [ho, hnv, hlc, or_sh6 (by omega) hf0 hf1, dec_append p _ hp]; simp [dec]
  · rintro ⟨⟨vs, out, nn⟩, ⟨qp, tq⟩, ⟨lc, tlc⟩, tp, ⟨i, ti⟩⟩ u h tk kLen kFacts kInv kFr kNews
    clear lN lF
    dsimp only [kstB] at kFr
    dsimp only at kNews kFacts kInv
    have kL := kFacts.length
    have kI := kInv.len
    have kZ : vs.length ≤ 2000 := by omega
    have et : fs.take (fs.map code64).length = fs := by rw [List.length_map, List.take_length]
    have hin := dec_in fs hf
    rcases kInv with ⟨p, e, hp, hq, hlc, ho⟩ | ⟨p, x, e, hp, hq, hlc, ho⟩ | ⟨p, x, y, e, hp, hq, hlc, ho⟩ | ⟨p, x, y, z, e, hp, hq, hlc, ho⟩
    · rw [et] at e
      subst hq e ho
      (try k_unmd); (try k_fold)
      k_steps
      exact hret _ _ _ (by k_asm) (fun q hq => (by assumption : News _ _ _ ((al, _) :: news)) q (List.mem_cons_of_mem _ hq))
    all_goals
      exfalso
      rw [et] at e
      have := congrArg List.length e
      simp only [List.length_append, List.length_cons, List.length_nil] at this
      omega
end Mine
/- Codec -/
set_option maxRecDepth 100000
set_option maxHeartbeats 8000000
namespace Mine
open Builtin Builtin._codecs
theorem range_two {β : Type} (n : Nat) (a b : β) (f : Nat → β → Sem (ForInStep β)) (h0 : n = 0 → a = b) (h1 : ∀ k, 0 < n → f k a = pure (.yield b)) (h2 : ∀ k, f k b = pure (.done b)) :
    (forIn [0:n] a f : Sem β) = pure b := by
  rw [Std.Legacy.Range.forIn_eq_forIn_range']
  simp only [Std.Legacy.Range.size, Nat.sub_zero, Nat.add_sub_cancel, Nat.div_one]
  match n, h0, h1 with
  | 0, h0, _ => simp [h0 rfl]
  | 1, _, h1 => simp [List.range', h1 0 (by omega)]
  | k + 2, _, h1 => simp [List.range', h1 0 (by omega), h2]
theorem foldl_bytes (l : List Nat) : ∀ acc : Array UInt8, l.foldl (fun acc y => acc ++ [y.toUInt8].toArray) acc = acc ++ (l.map (·.toUInt8)).toArray := by
  induction l with
  | nil => intro acc; simp
  | cons x r ih => intro acc; rw [List.foldl_cons, ih]; simp
theorem encodeNarrow_ascii (id : String) (self : Value) (s : Str) (h : ∀ c ∈ s.cps, c < 128) (hs : s.length ≤ sizeLine) : encodeNarrow id asciiCodec none self s = pure (s.cps.map (·.toUInt8)) := by
  have hf : (s.cps.extract 0 s.cps.size).findIdx? asciiCodec.bad = none := by
    rw [Array.findIdx?_eq_none_iff]
    intro x hx
    rw [Array.extract_size] at hx
    have := h x hx
    show decide (x ≥ 128) = false
    simp; omega
  have hfold : Array.foldl (fun acc y => acc ++ (asciiCodec.bytesOf y).toArray) #[] ((s.cps.extract 0 s.cps.size).extract 0 s.cps.size) = s.cps.map (·.toUInt8) := by
    rw [Array.extract_size, Array.extract_size, ← Array.foldl_toList]
    refine (foldl_bytes s.cps.toList #[]).trans ?_
    apply Array.ext'
    simp
  have key := range_two (β := Nat × Array UInt8 × Faults) s.length (0, #[], {}) (s.length, s.cps.map (·.toUInt8), {})
  unfold encodeNarrow
  show (do let r ← forIn [0:s.length] ((0, #[], {}) : Nat × Array UInt8 × Faults) _; pure r.2.1) = _
  rw [key]
  · rfl
  · intro hn
    have : s.cps = #[] := Array.eq_empty_of_size_eq_zero hn
    rw [hn, this]; simp
  · intro k hn
    have hx : s.cps[0]? = some s.cps[0] := Array.getElem?_eq_getElem hn
    have hb : asciiCodec.bad s.cps[0] = false := by
      have := h s.cps[0] (Array.getElem_mem _)
      show decide (_ ≥ 128) = false
      simp; omega
    dsimp only
    rw [if_neg (by simp), hx]
    dsimp only
    rw [hb, hf]
    simp only [Bool.not_false, if_true, Option.getD_none]
    rw [Array.size_extract, Nat.min_self, Nat.sub_zero, hfold, Nat.zero_add]
    rfl
  · intro k
    dsimp only
    rw [if_neg (by rw [Array.size_map]; exact Nat.not_lt.mpr hs), show s.cps[s.length]? = none from Array.getElem?_eq_none (Nat.le_refl _)]
/- encode -/
theorem encodeRoad_ascii (id : String) (self : Value) (x : Str) (errors : Option Str) : encodeRoad id self x (Str.ofString "ascii") errors = (do mkBytes (← encodeNarrow id asciiCodec errors self x)) := by
  first | rfl | (unfold encodeRoad; rfl) | (unfold encodeRoad; simp only []; rfl) | kernel_rfl
theorem encode_tree2 (x : Str) (t u : Tok) : «str.encode» ⟨[.str x t, .str (Str.ofString "ascii") u], []⟩ = (do ret (← encodeRoad "str.encode" (.str x t) x (Str.ofString "ascii") none)) := by
  first | rfl | kernel_rfl
theorem meets_encode (x : Str) (t u : Tok) (h : ∀ c ∈ x.cps, c < 128) (hs : x.length ≤ sizeLine) :
    Meets («str.encode» ⟨[.str x t, .str (Str.ofString "ascii") u], []⟩) (fun _ R s => ∀ t' k, R (.ok (.ret (.bytes (x.cps.map (·.toUInt8)) t'))) { s with toks := k }) := by
  refine .of_wp fun prog w A R s hS => ?_
  rw [encode_tree2, encodeRoad_ascii, encodeNarrow_ascii _ _ _ h hs]
  refine wpAny_bind (wpAny_bind (wpAny_pure ?_))
  exact wpAny_mkBytes (wpAny_pure ⟨_, rfl, hS _ _⟩) (by rw [Array.size_map]; exact hs)
section
variable {prog : Program} {w : World} {A : Around} {E : Value → Shared → Prop} {s : Shared}
theorem str_encode {x : Str} {t u : Tok} {Q : Value → Shared → Prop} (h : ∀ c ∈ x.cps, c < 128) (hs : x.length ≤ sizeLine) (k : ∀ t' k, Q (.bytes (x.cps.map (·.toUInt8)) t') { s with toks := k }) :
    wpAny (model prog w) A (call (.builtin "str.encode") [.str x t, .str (Str.ofString "ascii") u]) Q E s :=
  call_meets F.slot_str_encode (typeIs_str _ _ _) F.entry_str_encode (F.args_str_encode_2 _ _) (meets_encode x t u h hs) k
theorem method_encode {M : Model} {x : Str} {t : Tok} {pl : Sem Bool} {Q : Value × List Value → Shared → Prop} (h : Q (.builtin "str.encode", [.str x t]) s) : wpAny M A (getMethod (.str x t) "encode" pl) Q E s := by
  with_reducible exact GM.of (.str x t) (typeIs_str _ _ _) F.slot_str_encode F.type_str_encode GM.noRef h
end
/- decode -/
theorem range_all {β : Type} (n : Nat) (g : Nat → β) (f : Nat → β → Sem (ForInStep β)) (h : ∀ k, k < n → f k (g k) = pure (.yield (g (k + 1)))) :
    (forIn [0:n] (g 0) f : Sem β) = pure (g n) := by
  rw [Std.Legacy.Range.forIn_eq_forIn_range']
  simp only [Std.Legacy.Range.size, Nat.sub_zero, Nat.add_sub_cancel, Nat.div_one]
  have key : ∀ j i, i + j = n → (forIn (List.range' i j) (g i) f : Sem β) = pure (g n) := by
    intro j
    induction j with
    | zero => intro i hi; simp at hi; simp [hi]
    | succ j ih =>
      intro i hi
      rw [List.range'_succ, List.forIn_cons, h i (by omega)]
      exact ih (i + 1) (by omega)
  exact key n 0 (by omega)
theorem runDecoder_ascii (id : String) (b : List UInt8) (h : ∀ c ∈ b, c.toNat < 128) (hs : b.length ≤ sizeLine) : runDecoder id asciiDecoder none true b.toArray 0 [] = pure ((b.map (·.toNat)).toArray, b.length) := by
  have key := range_all (β := Nat × Array Nat × Faults) b.length (fun k => (k, ((b.take k).map (fun x : UInt8 => x.toNat)).toArray, { held := [] }))
  unfold runDecoder
  show (do let r ← forIn [0:b.length] ((0, ((b.take 0).map (fun x : UInt8 => x.toNat)).toArray, { held := [] }) : Nat × Array Nat × Faults) _; pure (r.2.1, r.1)) = _
  rw [key]
  · show (pure _ : Sem (Array Nat × Nat)) = pure _
    rw [List.take_length]
  · intro k hk
    dsimp only
    have hlen : (List.map (fun x : UInt8 => x.toNat) (List.take k b)).toArray.size = k := by simp; omega
    rw [if_neg (by rw [hlen]; omega), if_neg (by simpa using hk)]
    have hget : b.toArray.getD k 0 = b[k] := by simp [Array.getD, hk]
    have hfind : asciiDecoder.find true b.toArray k = .text [b[k].toNat] (k + 1) := by
      show (let c := (b.toArray.getD k 0).toNat; if c < 128 then Found.char c (k + 1) else _) = _
      rw [hget]
      have := h b[k] (List.getElem_mem _)
      simp only [this, if_true]
      rfl
    rw [hfind]
    dsimp only
    have e : (b.take (k + 1)).map (fun x : UInt8 => x.toNat) = (b.take k).map (fun x : UInt8 => x.toNat) ++ [b[k].toNat] := by
      rw [List.take_add_one, List.getElem?_eq_getElem hk]
      simp only [Option.toList_some, List.map_append, List.map_cons, List.map_nil]
    rw [e, List.append_toArray]
theorem road_ascii {id : String} {b : Array UInt8} : decodeRoad id b (Str.ofString "ascii") none [] = (runDecoder id asciiDecoder none true b 0 [] >>= fun r => mkStr ⟨r.1⟩) := by kernel_rfl
theorem meets_text_ascii {b : List UInt8} {t t1 t2 : Tok} {d : Str} (h : ∀ c ∈ b, c.toNat < 128) (hs : b.length ≤ sizeLine) :
    Meets («_codecs.decode.text» ⟨[.bytes b.toArray t, .str (Str.ofString "ascii") t1, .none, .str d t2], []⟩) (fun _ R s => R (.ok (.ret (.str ⟨(b.map (·.toNat)).toArray⟩ s.toks))) { s with toks := s.toks + 1 }) := by
  refine .of_wp fun prog w A R s hS => ?_
  show wpAny _ _ (Bytes.bytesLike _ (.bytes b.toArray t) >>= fun r => _) _ _ s
  refine wpAny_bind (wpAny_of_eq KBd.like_eq ?_)
  refine wpAny_bind (wpAny_of_eq KBd.held_eq ?_)
  show wpAny _ _ (_codecs.decodeRoad _ b.toArray (Str.ofString "ascii") none [] >>= fun v => _) _ _ s
  rw [road_ascii, runDecoder_ascii _ _ h hs]
  refine wpAny_bind (wpAny_bind (wpAny_pure ?_))
  exact wpAny_mkStr (wpAny_pure ⟨_, rfl, hS⟩) (by show (List.map _ b).toArray.size ≤ _; simp; exact hs)
theorem args_bytes_decode_2 (a b : Value) : argsOk "bytes.decode" ⟨[a, b], []⟩ := by
  unfold argsOk; rw [signature?_of (id := "bytes.decode") (n := ['e', 'd', 'o', 'c', 'e', 'd']) (o := ['s', 'e', 't', 'y', 'b']) (by kernel_rfl) FB.owner_bytes]; kernel_rfl
theorem decode_tree2 {c : UInt8} {cs : List UInt8} {t u : Tok} : «bytes.decode» ⟨[.bytes (c :: cs).toArray t, .str (Str.ofString "ascii") u], []⟩ = (mkStr (Str.ofString "utf-8") >>= fun _ => mkStr (Str.ofString "ascii") >>= fun e => mkStr (Str.ofString "bytes.decode") >>= fun d =>
    call (.builtin "_codecs.decode.text") [.bytes (c :: cs).toArray t, e, .none, d] >>= fun v => ret v) := by kernel_rfl
theorem meets_decode_ascii {c : UInt8} {cs : List UInt8} {t u : Tok} (h : ∀ x ∈ c :: cs, x.toNat < 128) (hs : (c :: cs).length ≤ sizeLine) :
    Meets («bytes.decode» ⟨[.bytes (c :: cs).toArray t, .str (Str.ofString "ascii") u], []⟩) (fun _ R s => ∀ t' k, R (.ok (.ret (.str ⟨((c :: cs).map (·.toNat)).toArray⟩ t'))) { s with toks := k }) := by
  refine .of_wp fun prog w A R s hS => ?_
  rw [decode_tree2]
  refine wpAny_bind (wpAny_mkStr ?_ (by decide))
  refine wpAny_bind (wpAny_mkStr ?_ (by decide))
  refine wpAny_bind (wpAny_mkStr ?_ (by decide))
  exact wpAny_bind (call_function_meets KBd.kind_text KBd.plain_text KBd.entry_text (KBd.args_text _ _ _ _) (meets_text_ascii h hs) (wpAny_pure ⟨_, rfl, hS _ _⟩))
section
variable {prog : Program} {w : World} {A : Around} {E : Value → Shared → Prop} {s : Shared}
theorem bytes_decode {b : List UInt8} {t u : Tok} {Q : Value → Shared → Prop} (hne : b ≠ []) (h : ∀ c ∈ b, c.toNat < 128) (hs : b.length ≤ sizeLine) (k : ∀ t' k, Q (.str ⟨(b.map (·.toNat)).toArray⟩ t') { s with toks := k }) :
    wpAny (model prog w) A (call (.builtin "bytes.decode") [.bytes b.toArray t, .str (Str.ofString "ascii") u]) Q E s := by
  cases b with
  | nil => exact absurd rfl hne
  | cons c cs => exact call_meets FB.slot_bytes_decode (typeIs_bytes _ _ _) FB.entry_bytes_decode (args_bytes_decode_2 _ _) (meets_decode_ascii h hs) k
end
/- maketrans -/
theorem check_maketrans (a b : Value) : checkBuiltinCall "bytes.maketrans" ⟨[a, b], []⟩ = pure () := by kernel_rfl
theorem plain_maketrans : plainId "bytes.maketrans" = true := by decide +kernel
theorem entry_maketrans : entryFor table "bytes.maketrans" = some Builtin.«bytes.maketrans» := entryFor_of_tree (by kernel_rfl)
abbrev transTab (f g : List UInt8) : Array UInt8 := (f.zip g).foldl (fun t (p : UInt8 × UInt8) => t.setIfInBounds p.1.toNat p.2) ((Array.range 256).map (·.toUInt8))
theorem maketrans_tree (f g : List UInt8) (t u : Tok) : «bytes.maketrans» ⟨[.bytes f.toArray t, .bytes g.toArray u], []⟩ = (do
    let frm ← Bytes.bytesLike "bytes.maketrans" (.bytes f.toArray t)
    let to ← Bytes.bytesLike "bytes.maketrans" (.bytes g.toArray u)
    if frm.size != to.size then rule "bytes.maketrans.sizes"; raiseError "ValueError" "maketrans arguments must have same length"
    let identity : Array UInt8 := (Array.range 256).map (·.toUInt8)
    ret (← mkBytes ((frm.toList.zip to.toList).foldl (fun t (f, x) => t.setIfInBounds f.toNat x) identity))) := by rfl
theorem transTab_size (f g : List UInt8) : (transTab f g).size = 256 := by
  have key : ∀ (l : List (UInt8 × UInt8)) (a : Array UInt8), (l.foldl (fun t (p : UInt8 × UInt8) => t.setIfInBounds p.1.toNat p.2) a).size = a.size := by
    intro l
    induction l with
    | nil => intro a; rfl
    | cons p r ih => intro a; rw [List.foldl_cons, ih]; simp
  rw [transTab, key]; simp
section
variable {prog : Program} {w : World} {A : Around} {E : Value → Shared → Prop} {s : Shared}
theorem bytes_maketrans {f g : List UInt8} {t u : Tok} {Q : Value → Shared → Prop} (hl : f.length = g.length) (k : ∀ t' k, Q (.bytes (transTab f g) t') { s with toks := k }) :
    wpAny (model prog w) A (call (.builtin "bytes.maketrans") [.bytes f.toArray t, .bytes g.toArray u]) Q E s := by
  refine wpAny_call (codeAny_call_builtin plain_maketrans entry_maketrans (wpAny_of_eq (check_maketrans _ _) ?_))
  rw [maketrans_tree]
  refine wpAny_bind (wpAny_of_eq KBd.like_eq ?_)
  refine wpAny_bind (wpAny_of_eq KBd.like_eq ?_)
  have e : (f.toArray.size != g.toArray.size) = false := by simp [hl]
  rw [e]
  refine wpAny_bind (wpAny_mkBytes (wpAny_pure (k _ _)) ?_)
  have := transTab_size f g
  show (transTab f g).size ≤ _
  rw [this]; decide
theorem method_maketrans {K : Frag} {h₀ : Heap} {L : Addr} {m : Str → Option Value} {pl : Sem Bool} {Q : Value × List Value → Shared → Prop} (F : Fr h₀ L s.heap m) (X₀ : K.In h₀)
    (e : findCls K (.type "bytes") (.type "type") (Str.ofString "maketrans") = some (.val (.builtin "bytes.maketrans"))) (h : Q (.builtin "bytes.maketrans", []) { s with toks := s.toks + 1 }) :
    wpAny (model prog w) A (getMethod (.type "bytes") (Str.ofString "maketrans") pl) Q E s :=
  method_type F X₀ (by kernel_rfl) (by decide +kernel) e (by decide +kernel) h
end
end Mine
/- Codec2 -/
set_option maxRecDepth 100000
set_option maxHeartbeats 8000000
namespace Mine
open Builtin Builtin._codecs
/- translate -/
theorem slot_bytes_translate : Slot "bytes" "translate" "bytes.translate" :=
  .of (owner := "bytes") (n := "translate") (by rw [typeLookup_type, builtinLookup_eq_fast]; kernel_rfl) (by decide +kernel) (by decide +kernel) (by decide +kernel)
    (by first | exact .inl (by decide +kernel) | exact .inr (by decide +kernel)) (by rw [isSubtype_type]; kernel_rfl)
theorem type_bytes_translate : typeOf (.builtin "bytes.translate") = pure (.type "method_descriptor") := by show builtinType _ = _; rw [builtinType_eq_fast]; kernel_rfl
theorem entry_bytes_translate : entryFor table "bytes.translate" = some Builtin.«bytes.translate» := entryFor_of_tree (by kernel_rfl)
theorem args_bytes_translate_2 (a b : Value) : argsOk "bytes.translate" ⟨[a, b], []⟩ := by
  unfold argsOk; kernel_rfl
theorem meets_translate (b tbl : Array UInt8) (t u : Tok) (h256 : tbl.size = 256) (hs : b.size ≤ sizeLine) :
    Meets («bytes.translate» ⟨[.bytes b t, .bytes tbl u], []⟩) (fun _ R s => ∀ t' k, R (.ok (.ret (.bytes (b.map fun c => tbl.getD c.toNat c) t'))) { s with toks := k }) := by
  refine .of_wp fun prog w A R s hS => ?_
  unfold «bytes.translate» Bytes.translateM
  dsimp only
  have hb : (Value.bytes tbl u == Value.none) = false := by rfl
  have e : (tbl.size != 256) = false := by simp [h256]
  have ef : b.filter (fun x => !(#[] : Array UInt8).contains x) = b := by simp
  rw [if_neg (by simp), if_neg (by simp), hb, if_neg (by simp)]
  refine wpAny_bind (wpAny_of_eq KBd.like_eq ?_)
  rw [e, if_neg (by simp)]
  refine wpAny_bind (wpAny_pure ?_)
  show wpAny _ _ (do
    let delete ← (pure #[] : Sem (Array UInt8))
    let b_1 ← Bytes.payload (Value.bytes b t)
    if (Array.map (fun c => tbl.getD c.toNat c) (Array.filter (fun x => !delete.contains x) b_1) == b_1) = true then
      do
      rule (toString (toString Bytes.Kind.bytes.name ++ toString ".translate") ++ toString ".unchanged")
      let x ← Bytes.Kind.bytes.same (Value.bytes b t)
      ret x
    else do
      let x ← Bytes.Kind.bytes.new (Array.map (fun c => tbl.getD c.toNat c) (Array.filter (fun x => !delete.contains x) b_1))
      ret x) _ _ _
  refine wpAny_bind (wpAny_pure (wpAny_bind (wpAny_of_eq (a := b) (by rfl) ?_)))
  rw [ef]
  cases hq : ((b.map fun c => tbl.getD c.toNat c) == b) with
  | true =>
    have hq' : (b.map fun c => tbl.getD c.toNat c) = b := by simpa using hq
    rw [if_pos rfl]
    refine wpAny_bind (wpAny_rule (wpAny_bind ?_))
    show wpAny _ _ (pure (Value.bytes b t)) _ _ _
    refine wpAny_pure (wpAny_pure ⟨_, rfl, ?_⟩)
    rw [hq'] at hS
    exact hS t s.toks
  | false =>
    rw [if_neg (by simp)]
    refine wpAny_bind ?_
    show wpAny _ _ (mkBytes _) _ _ _
    exact wpAny_mkBytes (wpAny_pure ⟨_, rfl, hS _ _⟩) (by rw [Array.size_map]; exact hs)
section
variable {prog : Program} {w : World} {A : Around} {E : Value → Shared → Prop} {s : Shared}
theorem bytes_translate {b tbl : Array UInt8} {t u : Tok} {Q : Value → Shared → Prop} (h256 : tbl.size = 256) (hs : b.size ≤ sizeLine) (k : ∀ t' k, Q (.bytes (b.map fun c => tbl.getD c.toNat c) t') { s with toks := k }) :
    wpAny (model prog w) A (call (.builtin "bytes.translate") [.bytes b t, .bytes tbl u]) Q E s :=
  call_meets slot_bytes_translate (typeIs_bytes _ _ _) entry_bytes_translate (args_bytes_translate_2 _ _) (meets_translate b tbl t u h256 hs) k
theorem method_translate {M : Model} {b : Array UInt8} {t : Tok} {pl : Sem Bool} {Q : Value × List Value → Shared → Prop} (h : Q (.builtin "bytes.translate", [.bytes b t]) s) : wpAny M A (getMethod (.bytes b t) "translate" pl) Q E s := by
  with_reducible exact KBd.method_of (.bytes b t) (typeIs_bytes _ _ _) slot_bytes_translate type_bytes_translate KBd.noRef h
end
end Mine
/- Enc -/
set_option maxRecDepth 100000
set_option maxHeartbeats 8000000
namespace Mine
theorem filledE : PySem.Challenge.rw_pa0022_01 = PySem.Challenge.rw_pa0022_01 ∧ hd.heap_39 = hd.heap_39 := by k_fill; exact ⟨rfl, rfl⟩
/-- the sign of a figure as the two signs have it; d: the dot comes first -/
def sgn (d : Bool) (f : Int) : Nat := if f = 62 then (if d then 46 else 45) else if f = 63 then (if d then 45 else 46) else (code64 f).toNat
abbrev twoL (d : Bool) : List UInt8 := if d then [46, 45] else [45, 46]
def octB (fs : List Int) : List UInt8 := (dec fs).map fun n => n.toNat.toUInt8
theorem octB_ints {fs : List Int} (h : ∀ f ∈ fs, 0 ≤ f ∧ f < 64) : (octB fs).map (fun c => (c.toNat : Int)) = dec fs := by
  unfold octB
  rw [List.map_map]
  have := dec_in fs h
  conv => rhs; rw [← List.map_id (dec fs)]
  apply List.map_congr_left
  intro n hn
  exact byte_back (this n hn).1 (this n hn).2
theorem dec_len3 : ∀ (p : List Int), (dec p).length % 3 = 0
  | [] => by simp [dec]
  | [_] => by simp [dec]
  | [_, _] => by simp [dec]
  | [_, _, _] => by simp [dec]
  | a :: b :: c :: d :: r => by
    have := dec_len3 r
    simp only [dec, List.length_cons]; omega
theorem trans_enc {d : Bool} {f : Int} (h0 : 0 ≤ f) (h1 : f < 64) : (transTab [43, 47] (twoL d)).getD ((code64 f).toNat.toUInt8).toNat ((code64 f).toNat.toUInt8) = (sgn d f).toUInt8 := by
  have : ∀ (d : Bool) (k : Fin 64), (transTab [43, 47] (twoL d)).getD ((code64 (k.val : Int)).toNat.toUInt8).toNat ((code64 (k.val : Int)).toNat.toUInt8) = (sgn d (k.val : Int)).toUInt8 := by decide +kernel
  have h := this d ⟨f.toNat, by omega⟩
  simp only at h
  rwa [Int.toNat_of_nonneg h0] at h
theorem trans_dec {d : Bool} {f : Int} (h0 : 0 ≤ f) (h1 : f < 64) : (transTab (twoL d) [43, 47]).getD ((sgn d f).toUInt8).toNat ((sgn d f).toUInt8) = (code64 f).toNat.toUInt8 := by
  have : ∀ (d : Bool) (k : Fin 64), (transTab (twoL d) [43, 47]).getD ((sgn d (k.val : Int)).toUInt8).toNat ((sgn d (k.val : Int)).toUInt8) = (code64 (k.val : Int)).toNat.toUInt8 := by decide +kernel
  have h := this d ⟨f.toNat, by omega⟩
  simp only at h
  rwa [Int.toNat_of_nonneg h0] at h
theorem sgn_in {d : Bool} {f : Int} : sgn d f < 128 ∧ sgn d f ≠ 10 ∧ sgn d f ≠ 13 := by
  by_cases h : 0 ≤ f ∧ f < 64
  · have : ∀ (d : Bool) (k : Fin 64), sgn d (k.val : Int) < 128 ∧ sgn d (k.val : Int) ≠ 10 ∧ sgn d (k.val : Int) ≠ 13 := by decide +kernel
    have h' := this d ⟨f.toNat, by omega⟩
    simp only at h'
    rwa [Int.toNat_of_nonneg h.1] at h'
  · have e : sgn d f = (code64 f).toNat := by
      unfold sgn
      rw [if_neg (by omega), if_neg (by omega)]
    have e2 : code64 f = 0 ∨ code64 f = 65 := by
      unfold code64
      by_cases hf : f < 0
      · right
        rw [Int.toNat_of_nonpos (by omega)]; rfl
      · left
        rw [List.getD_eq_getElem?_getD, List.getElem?_eq_none (by simp; omega)]; rfl
    rw [e]
    rcases e2 with e2 | e2 <;> rw [e2] <;> decide
abbrev txt (l : List Nat) : Str := ⟨l.toArray⟩
local macro_rules | `(tactic| k_room) => `(tactic| ktr_room)
local macro_rules | `(tactic| walk_at "getMethod str") => `(tactic| (with_reducible refine method_encode ?_))
local macro_rules | `(tactic| walk_at "getMethod bytes") => `(tactic| (with_reducible refine method_translate ?_))
local macro_rules | `(tactic| walk_at "getMethod type:bytes") => `(tactic| (k_dflt (refine' method_maketrans ?F ?X ?e ?_; (case F => k_asm); (case X => k_asm); (case e => k_is))))
local macro_rules | `(tactic| walk_at "call builtin:str.encode") => `(tactic| (k_dflt (refine str_encode (by assumption) (by assumption) ?_); intro t' k'; (try dsimp only)))
theorem bfdd_con (w : World) (x : Str) (tb : Tok) (h : ∀ c ∈ x.cps, c < 128) (hs : x.length ≤ sizeLine) : Con 1 w 63 [.str x tb] [] (fun t => .bytes (x.cps.map (·.toUInt8)) t) := by
  w_on
  unfold Con
  intro prog p loose mean mg mb dp un gd cn cs a ccd cl outer A₀ base h₀ L m news s Q E B F X N T hk hdp hun hret
  refine wpAny_call ?_
  k_dflt (refine' code_def ?k1 ?k2 ?k3 ?k4 ?k5 ?kA ?kF ?kK ?k6 ?k7 ?k8 ?k9 ?kB ?_ ?c2 ?c3 ?c4 ?c5; (case kA => exact rfl); (case kF => exact rfl); (case kK => assumption); (case k1 => k_asm); (case k2 => k_asm); (case k3 => k_asm); (case k4 => k_asm); (case k5 => k_asm); (case k6 => k_is); (case k7 => k_is); (case k8 => ktr_room); (case k9 => first | exact BindsTo.of_eq rfl | exact binds_K (by k_in) rfl (by k_is) rfl rfl rfl); (case c5 => decide); (case kB => exact locs rfl); (case c2 => exact rfl); (case c3 => exact rfl); (case c4 => exact rfl); k_whole; intro g' L' h' FG' F' N' B' X' T'; (try dsimp only); (try k_lift B'); (try k_fold))
  k_steps
  exact hret _ _ _ (by k_asm) (by k_asm)
theorem map_toArray {α β : Type} (l : List α) (f : α → β) : l.toArray.map f = (l.map f).toArray := by simp
theorem bfdd_txt (w : World) (l : List Nat) (b : List UInt8) (tb : Tok) (e : l.map (·.toUInt8) = b) (h : ∀ c ∈ l, c < 128) (hs : l.length ≤ 1000) : Con 1 w 63 [.str (txt l) tb] [] (fun t => .bytes b.toArray t) := by
  have := bfdd_con w (txt l) tb (by intro c hc; exact h c (by simpa using hc)) (by rw [sizeLine_eq]; show l.toArray.size ≤ _; simp; omega)
  rw [map_toArray, e] at this
  exact this
theorem bytes_translateL {prog : Program} {w : World} {A : Around} {E : Value → Shared → Prop} {s : Shared} {b : List UInt8} {f g : List UInt8} {t u : Tok} {Q : Value → Shared → Prop} (hs : b.length ≤ 1000)
    (k : ∀ t' k, Q (.bytes (b.map fun c => (transTab f g).getD c.toNat c).toArray t') { s with toks := k }) :
    wpAny (model prog w) A (call (.builtin "bytes.translate") [.bytes b.toArray t, .bytes (transTab f g) u]) Q E s :=
  bytes_translate (transTab_size f g) (by rw [sizeLine_eq]; simp only [List.size_toArray]; omega) (by rw [map_toArray]; exact k)
theorem b2a_fs (w : World) (fs : List Int) (tb : Tok) (hf : ∀ f ∈ fs, 0 ≤ f ∧ f < 64) (hl : fs.length ≤ 1000) (h4 : fs.length % 4 = 0) :
    Con 2 w 120 [.bytes (octB fs).toArray tb] [(PySem.Str.ofString "newline", .bool false)] (fun t => .bytes (fs.map fun f => (code64 f).toNat.toUInt8).toArray t) := by
  have h := b2a_con w (octB fs) tb (by have := dec_length fs; unfold octB; rw [List.length_map]; omega) (by have := dec_len3 fs; unfold octB; rw [List.length_map]; omega)
  rw [octB_ints hf, enc_dec fs h4 hf, List.map_map] at h
  exact h
local macro_rules | `(tactic| walk_at "call ref") => `(tactic| (k_dflt ((first | (refine' Con.use (C := b2a_fs _ _ _ ?c1 ?c2 ?c3) (ret := ?_); (case c1 => assumption); (case c2 => assumption); (case c3 => assumption)) | (refine' Con.use (C := bfdd_txt _ _ _ _ ?c1 ?c2 ?c3) (ret := ?_); (case c1 => assumption); (case c2 => assumption); (case c3 => assumption)) | (refine' Con.use (C := a2b_con _ _ _ _ _ ?c1 ?c2 ?c3 ?c4) (ret := ?_); (case c2 => assumption); (case c1 => assumption); (case c3 => assumption); (case c4 => assumption))); intro t9 h9 tk9 F9 N9; (try k_sweep); (try dsimp only))))
local macro_rules | `(tactic| walk_at "call builtin:bytes.maketrans") => `(tactic| (k_dflt (refine bytes_maketrans (by first | rfl | assumption) ?_); intro t' k'; (try dsimp only)))
local macro_rules | `(tactic| walk_at "call builtin:bytes.translate") => `(tactic| (k_dflt (refine bytes_translateL (by simp only [List.length_map]; omega) ?_); intro t' k'; (try dsimp only)))
local macro_rules | `(tactic| walk_at "ite") => `(tactic| (k_openite; first | (refine ite_isFalse (decide_eq_false (by omega)) ?_; walk_say "CUT") | (refine ite_isTrue (decide_eq_true (by omega)) ?_; walk_say "CUT")))
theorem b64encode_con (w : World) (d : Bool) (fs : List Int) (tb t2 : Tok) (hf : ∀ f ∈ fs, 0 ≤ f ∧ f < 64) (hl : fs.length ≤ 1000) (h4 : fs.length % 4 = 0) :
    Con 3 w 128 [.bytes (octB fs).toArray tb, .bytes (twoL d).toArray t2] [] (fun t => .bytes (fs.map fun f => (sgn d f).toUInt8).toArray t) := by
  w_on
  unfold Con
  intro prog p loose mean mg mb dp un gd cn cs a ccd cl outer A₀ base h₀ L m news s Q E B F X N T hk hdp hun hret
  have hlen2 : [43, 47].length = (twoL d).length := by cases d <;> rfl
  have hlen3 : (twoL d).toArray.size = 2 := by cases d <;> rfl
  refine wpAny_call ?_
  k_dflt (refine' code_def ?k1 ?k2 ?k3 ?k4 ?k5 ?kA ?kF ?kK ?k6 ?k7 ?k8 ?k9 ?kB ?_ ?c2 ?c3 ?c4 ?c5; (case kA => exact rfl); (case kF => exact rfl); (case kK => assumption); (case k1 => k_asm); (case k2 => k_asm); (case k3 => k_asm); (case k4 => k_asm); (case k5 => k_asm); (case k6 => k_is); (case k7 => k_is); (case k8 => ktr_room); (case k9 => first | exact BindsTo.of_eq rfl | exact binds_K (by k_in) rfl (by k_is) rfl rfl rfl); (case c5 => decide); (case kB => exact locs rfl); (case c2 => exact rfl); (case c3 => exact rfl); (case c4 => exact rfl); k_whole; intro g' L' h' FG' F' N' B' X' T'; (try dsimp only); (try k_lift B'); (try k_fold))
  k_steps
  have e : ((fs.map fun f => (code64 f).toNat.toUInt8).map fun c => (transTab [43, 47] (twoL d)).getD c.toNat c) = fs.map fun f => (sgn d f).toUInt8 := by
    rw [List.map_map]
    apply List.map_congr_left
    intro f hfm
    exact trans_enc (hf f hfm).1 (hf f hfm).2
  rw [e]
  exact hret _ _ _ (by k_asm) (by k_asm)
theorem dec_bs {d : Bool} {fs : List Int} (hf : ∀ f ∈ fs, 0 ≤ f ∧ f < 64) : ((fs.map fun f => (sgn d f).toUInt8).map fun c => (transTab (twoL d) [43, 47]).getD c.toNat c).map (fun c => (c.toNat : Int)) = fs.map code64 := by
  rw [List.map_map, List.map_map]
  apply List.map_congr_left
  intro f hfm
  show (((transTab (twoL d) [43, 47]).getD ((sgn d f).toUInt8).toNat ((sgn d f).toUInt8)).toNat : Int) = _
  rw [trans_dec (hf f hfm).1 (hf f hfm).2]
  have := code64_in f
  exact byte_back (by omega) (by omega)
theorem b64decode_con (w : World) (d v : Bool) (fs : List Int) (tb t2 : Tok) (hf : ∀ f ∈ fs, 0 ≤ f ∧ f < 64) (hl : fs.length ≤ 1000) (h4 : fs.length % 4 = 0) :
    Con 3 w 136 [.str (txt (fs.map (sgn d))) tb, .str (txt ((twoL d).map (·.toNat))) t2, .bool v] [] (fun t => .bytes (octB fs).toArray t) := by
  w_on
  unfold Con
  intro prog p loose mean mg mb dp un gd cn cs a ccd cl outer A₀ base h₀ L m news s Q E B F X N T hk hdp hun hret
  have hlen2 : (twoL d).length = [43, 47].length := by cases d <;> rfl
  have hlen3 : (twoL d).toArray.size = 2 := by cases d <;> rfl
  have ha1 : (fs.map (sgn d)).map (·.toUInt8) = fs.map fun f => (sgn d f).toUInt8 := by rw [List.map_map]; rfl
  have ha2 : ∀ c ∈ fs.map (sgn d), c < 128 := by intro c hc; obtain ⟨f, _, rfl⟩ := List.mem_map.mp hc; exact sgn_in.1
  have ha3 : (fs.map (sgn d)).length ≤ 1000 := by rw [List.length_map]; exact hl
  have hb1 : ((twoL d).map (·.toNat)).map (·.toUInt8) = twoL d := by cases d <;> rfl
  have hb2 : ∀ c ∈ (twoL d).map (·.toNat), c < 128 := by cases d <;> decide
  have hb3 : ((twoL d).map (·.toNat)).length ≤ 1000 := by cases d <;> decide
  have hbs := dec_bs (d := d) hf
  refine wpAny_call ?_
  k_dflt (refine' code_def ?k1 ?k2 ?k3 ?k4 ?k5 ?kA ?kF ?kK ?k6 ?k7 ?k8 ?k9 ?kB ?_ ?c2 ?c3 ?c4 ?c5; (case kA => exact rfl); (case kF => exact rfl); (case kK => assumption); (case k1 => k_asm); (case k2 => k_asm); (case k3 => k_asm); (case k4 => k_asm); (case k5 => k_asm); (case k6 => k_is); (case k7 => k_is); (case k8 => ktr_room); (case k9 => first | exact BindsTo.of_eq rfl | exact binds_K (by k_in) rfl (by k_is) rfl rfl rfl); (case c5 => decide); (case kB => exact locs rfl); (case c2 => exact rfl); (case c3 => exact rfl); (case c4 => exact rfl); k_whole; intro g' L' h' FG' F' N' B' X' T'; (try dsimp only); (try k_lift B'); (try k_fold))
  k_steps
  exact hret _ _ _ (by k_asm) (by k_asm)
theorem b64decode_con2 (w : World) (d : Bool) (fs : List Int) (tb t2 : Tok) (hf : ∀ f ∈ fs, 0 ≤ f ∧ f < 64) (hl : fs.length ≤ 1000) (h4 : fs.length % 4 = 0) :
    Con 3 w 136 [.str (txt (fs.map (sgn d))) tb, .str (txt ((twoL d).map (·.toNat))) t2] [] (fun t => .bytes (octB fs).toArray t) := by
  w_on
  unfold Con
  intro prog p loose mean mg mb dp un gd cn cs a ccd cl outer A₀ base h₀ L m news s Q E B F X N T hk hdp hun hret
  have hlen2 : (twoL d).length = [43, 47].length := by cases d <;> rfl
  have hlen3 : (twoL d).toArray.size = 2 := by cases d <;> rfl
  have ha1 : (fs.map (sgn d)).map (·.toUInt8) = fs.map fun f => (sgn d f).toUInt8 := by rw [List.map_map]; rfl
  have ha2 : ∀ c ∈ fs.map (sgn d), c < 128 := by intro c hc; obtain ⟨f, _, rfl⟩ := List.mem_map.mp hc; exact sgn_in.1
  have ha3 : (fs.map (sgn d)).length ≤ 1000 := by rw [List.length_map]; exact hl
  have hb1 : ((twoL d).map (·.toNat)).map (·.toUInt8) = twoL d := by cases d <;> rfl
  have hb2 : ∀ c ∈ (twoL d).map (·.toNat), c < 128 := by cases d <;> decide
  have hb3 : ((twoL d).map (·.toNat)).length ≤ 1000 := by cases d <;> decide
  have hbs := dec_bs (d := d) hf
  refine wpAny_call ?_
  k_dflt (refine' code_def ?k1 ?k2 ?k3 ?k4 ?k5 ?kA ?kF ?kK ?k6 ?k7 ?k8 ?k9 ?kB ?_ ?c2 ?c3 ?c4 ?c5; (case kA => exact rfl); (case kF => exact rfl); (case kK => assumption); (case k1 => k_asm); (case k2 => k_asm); (case k3 => k_asm); (case k4 => k_asm); (case k5 => k_asm); (case k6 => k_is); (case k7 => k_is); (case k8 => ktr_room); (case k9 => first | exact BindsTo.of_eq rfl | exact binds_K (by k_in) rfl (by k_is) rfl rfl rfl); (case c5 => decide); (case kB => exact locs rfl); (case c2 => exact rfl); (case c3 => exact rfl); (case c4 => exact rfl); k_whole; intro g' L' h' FG' F' N' B' X' T'; (try dsimp only); (try k_lift B'); (try k_fold))
  k_steps
  exact hret _ _ _ (by k_asm) (by k_asm)
end Mine
/- SreM -/
set_option maxRecDepth 100000
set_option maxHeartbeats 4000000
namespace Mine
open PySem.Sre
theorem runFor_some : ∀ (n : Nat) {m : M}, m.outcome.isSome = true → M.runFor n m = m
  | 0, _, _ => rfl
  | n + 1, m, h => by simp [M.runFor, h]
theorem step_some {m : M} (h : m.outcome.isSome = true) : m.step = m := by simp [M.step, h]
theorem runFor_succ (n : Nat) (m : M) : M.runFor (n + 1) m = M.runFor n m.step := by
  cases h : m.outcome.isSome with
  | true => rw [runFor_some _ h, step_some h, runFor_some _ h]
  | false => simp [M.runFor, h]
theorem runFor_add (a b : Nat) : ∀ m : M, M.runFor (a + b) m = M.runFor b (M.runFor a m) := by
  induction a with
  | zero => intro m; simp [M.runFor]
  | succ a ih => intro m; rw [show a + 1 + b = (a + b) + 1 by omega, runFor_succ, ih, ← runFor_succ]
/-- m comes to m' within k steps -/
def Goes (k : Nat) (m m' : M) : Prop := ∃ n, n ≤ k ∧ M.runFor n m = m'
theorem Goes.refl (m : M) : Goes 0 m m := ⟨0, Nat.le_refl _, rfl⟩
theorem Goes.step {k : Nat} {m m' : M} (h : Goes k m.step m') : Goes (k + 1) m m' := by
  obtain ⟨n, hn, e⟩ := h
  exact ⟨n + 1, by omega, by rw [runFor_succ]; exact e⟩
theorem Goes.trans {a b : Nat} {m m' m'' : M} (h : Goes a m m') (h' : Goes b m' m'') : Goes (a + b) m m'' := by
  obtain ⟨n, hn, e⟩ := h
  obtain ⟨n', hn', e'⟩ := h'
  exact ⟨n + n', by omega, by rw [runFor_add, e, e']⟩
theorem Goes.mono {a b : Nat} {m m' : M} (h : Goes a m m') (hab : a ≤ b) : Goes b m m' := let ⟨n, hn, e⟩ := h; ⟨n, by omega, e⟩
abbrev code1 : Array Nat := #[14, 4, 0, 1, 1, 6, 1, 16, 46, 1]
abbrev code2 : Array Nat := #[14, 9, 4, 1, 2, 16, 10, 16, 13, 0, 7, 7, 16, 13, 16, 10, 15, 18, 5, 16, 10, 15, 13, 11, 16, 13, 5, 5, 0, 16, 10, 1, 15, 2, 0, 1]
theorem exec_at {m : M} {yes : Bool} (h0 : m.word 0 = 6) (h : m.isAt (m.word 1) = .ok yes) : m.exec = if yes = true then { m with seen := (m.seen.add 6).add (43 + m.word 1), pc := m.pc + 2 } else { m with seen := (m.seen.add 6).add (43 + m.word 1), answer := some false } := by
  have h' : M.isAt { m with seen := m.seen.add 6 } (M.word { m with seen := m.seen.add 6 } 1) = .ok yes := h
  unfold M.exec
  rw [h0]
  show (match M.isAt { m with seen := m.seen.add 6 } (M.word { m with seen := m.seen.add 6 } 1) with | .error why => M.stick { m with seen := m.seen.add 6 } why | .ok yes => if yes = true then { m with seen := (m.seen.add 6).add (43 + m.word 1), pc := m.pc + 2 } else { m with seen := (m.seen.add 6).add (43 + m.word 1), answer := some false }) = _
  rw [h']
theorem exec_lit {m : M} (h0 : m.word 0 = 16) (hw : m.code.getD m.pc 0 = 16) : m.exec = if m.pos ≥ m.lim then { m with seen := m.seen.add 16, answer := some false } else if m.text.getD m.pos 0 = m.word 1 then { m with seen := m.seen.add 16, pc := m.pc + 2, pos := m.pos + 1 } else { m with seen := m.seen.add 16, answer := some false } := by
  have ha : ∀ sn, accepts m.code m.pc (m.text.getD m.pos 0) sn = .ok (m.text.getD m.pos 0 == m.word 1, sn) := by
    intro sn
    unfold accepts
    rw [hw]
    rfl
  have hi : itemWidth m.code m.pc = 2 := by unfold itemWidth; rw [hw]; rfl
  unfold M.exec
  rw [h0]
  show (if m.pos ≥ m.lim then _ else match accepts m.code m.pc (m.text.getD m.pos 0) (m.seen.add 16) with | .error why => M.stick { m with seen := m.seen.add 16 } why | .ok (false, seen) => { m with seen := seen, answer := some false } | .ok (true, seen) => { m with seen := seen, pc := m.pc + itemWidth m.code m.pc, pos := m.pos + 1 }) = _
  rw [ha, hi]
  by_cases hp : m.pos ≥ m.lim
  · rw [if_pos hp, if_pos hp]; rfl
  · rw [if_neg hp, if_neg hp]
    by_cases hc : m.text.getD m.pos 0 = m.word 1
    · rw [if_pos hc]
      have : (m.text.getD m.pos 0 == m.word 1) = true := by simpa using hc
      rw [this]
    · rw [if_neg hc]
      have : (m.text.getD m.pos 0 == m.word 1) = false := by simpa using hc
      rw [this]
def at1 (text : Array Nat) (lim s : Nat) (first must : Bool) (seen : Sre.Seen) : M :=
  { code := code1, text := text, lim := lim, start := s, lastStart := lim, wholeText := false, mustAdvance := must, pc := 5, pos := s, handed := s, outermost := first, marks := #[],
    frames := [{ wait := .nextStart, pc := 5, pos := s, outermost := first }], weight := 1, seen := seen }
def Fails (k : Nat) (m : M) : Prop := ∃ m', Goes k m m' ∧ m'.outcome = some .failed
def Finds (k : Nat) (m : M) (i j : Nat) : Prop := ∃ m', Goes k m m' ∧ m'.outcome = some .matched ∧ m'.start = i ∧ m'.handed = j
theorem Fails.after {a b : Nat} {m m' : M} (h : Goes a m m') (h' : Fails b m') : Fails (a + b) m := let ⟨x, g, e⟩ := h'; ⟨x, h.trans g, e⟩
theorem Finds.after {a b : Nat} {m m' : M} {i j : Nat} (h : Goes a m m') (h' : Finds b m' i j) : Finds (a + b) m i j := let ⟨x, g, e⟩ := h'; ⟨x, h.trans g, e⟩
theorem Fails.mono {a b : Nat} {m : M} (h : Fails a m) (hab : a ≤ b) : Fails b m := let ⟨x, g, e⟩ := h; ⟨x, g.mono hab, e⟩
theorem Finds.mono {a b : Nat} {m : M} {i j : Nat} (h : Finds a m i j) (hab : a ≤ b) : Finds b m i j := let ⟨x, g, e⟩ := h; ⟨x, g.mono hab, e⟩
theorem Goes.one {m m' : M} (h : m.step = m') : Goes 1 m m' := Goes.step (by rw [h]; exact Goes.refl _)
section one
variable {text : Array Nat} {lim s : Nat} {first must : Bool} {seen : Sre.Seen}
theorem at1_no (h : (s == 0 || text.getD (s - 1) 0 == 10) = false) : Goes 1 (at1 text lim s first must seen) { at1 text lim s first must ((seen.add 6).add 44) with pc := 5, answer := some false } := by
  refine Goes.one ?_
  show (at1 text lim s first must seen).exec = _
  rw [exec_at (m := at1 text lim s first must seen) (yes := false) rfl (congrArg Except.ok h)]
  rfl
theorem at1_line (h : (s == 0 || text.getD (s - 1) 0 == 10) = true) : Goes 1 (at1 text lim s first must seen) { at1 text lim s first must ((seen.add 6).add 44) with pc := 7 } := by
  refine Goes.one ?_
  show (at1 text lim s first must seen).exec = _
  rw [exec_at (m := at1 text lim s first must seen) (yes := true) rfl (congrArg Except.ok h)]
  rfl
theorem at1_other (h : ¬ (s < lim ∧ text.getD s 0 = 46)) : Goes 1 ({ at1 text lim s first must seen with pc := 7 } : M) { at1 text lim s first must (seen.add 16) with pc := 7, answer := some false } := by
  refine Goes.one ?_
  show M.exec ({ at1 text lim s first must seen with pc := 7 } : M) = _
  rw [exec_lit rfl rfl]
  show (if s ≥ lim then _ else if text.getD s 0 = 46 then _ else _) = _
  by_cases hs : s ≥ lim
  · rw [if_pos hs]; rfl
  · rw [if_neg hs, if_neg fun e => h ⟨by omega, e⟩]; rfl
theorem at1_next {pc : Nat} (hs : s < lim) : Goes 1 ({ at1 text lim s first must seen with pc := pc, answer := some false } : M) (at1 text lim (s + 1) false false seen) := by
  refine Goes.one ?_
  show (if s < lim then _ else _) = _
  rw [if_pos hs]; rfl
theorem at1_last {pc : Nat} (hs : ¬ s < lim) : Fails 2 ({ at1 text lim s first must seen with pc := pc, answer := some false } : M) := by
  refine ⟨_, Goes.step (Goes.step (Goes.refl _)), ?_⟩
  have e : ({ at1 text lim s first must seen with pc := pc, answer := some false } : M).step = { at1 text lim s first must seen with pc := 5, frames := [], weight := 0, answer := some false } := by
    show (if s < lim then _ else _) = _
    rw [if_neg hs]; rfl
  rw [e]; rfl
theorem at1_found (h : s < lim ∧ text.getD s 0 = 46) : Finds 4 ({ at1 text lim s first must seen with pc := 7 } : M) s (s + 1) := by
  have e1 : ({ at1 text lim s first must seen with pc := 7 } : M).step = { at1 text lim s first must (seen.add 16) with pc := 9, pos := s + 1 } := by
    show M.exec ({ at1 text lim s first must seen with pc := 7 } : M) = _
    rw [exec_lit rfl rfl]
    show (if s ≥ lim then _ else if text.getD s 0 = 46 then _ else _) = _
    rw [if_neg (by omega), if_pos h.2]; rfl
  have e2 : ({ at1 text lim s first must (seen.add 16) with pc := 9, pos := s + 1 } : M).step = { at1 text lim s first must ((seen.add 16).add 1) with pc := 9, pos := s + 1, handed := s + 1, answer := some true } := by
    show (if (first && ((false && (s + 1 != lim)) || (must && (s + 1 == s)))) = true then _ else _) = _
    have : (s + 1 == s) = false := by simp
    rw [this]
    have h2 : (first && ((false && (s + 1 != lim)) || (must && false))) = false := by cases first <;> cases must <;> rfl
    rw [h2]; rfl
  refine ⟨_, Goes.step (Goes.step (Goes.step (Goes.step (Goes.refl _)))), ?_⟩
  rw [e1, e2]
  exact ⟨rfl, rfl, rfl⟩
def hit1 (text : Array Nat) (lim i : Nat) : Prop := (i == 0 || text.getD (i - 1) 0 == 10) = true ∧ i < lim ∧ text.getD i 0 = 46
theorem at1_hit (h : hit1 text lim s) : Finds 5 (at1 text lim s first must seen) s (s + 1) := Finds.after (a := 1) (at1_line h.1) (at1_found h.2)
theorem at1_miss (h : ¬ hit1 text lim s) (hs : s < lim) : ∃ seen', Goes 3 (at1 text lim s first must seen) (at1 text lim (s + 1) false false seen') := by
  cases hb : (s == 0 || text.getD (s - 1) 0 == 10) with
  | false => exact ⟨_, ((at1_no hb).trans (at1_next hs)).mono (by omega)⟩
  | true => exact ⟨_, (at1_line hb).trans ((at1_other fun e => h ⟨hb, e⟩).trans (at1_next hs))⟩
theorem at1_end (hs : ¬ s < lim) : Fails 4 (at1 text lim s first must seen) := by
  cases hb : (s == 0 || text.getD (s - 1) 0 == 10) with
  | false =>
    exact (Fails.after (at1_no hb) (at1_last hs)).mono (by omega)
  | true => exact Fails.after (at1_line hb) (Fails.after (at1_other fun e => hs e.1) (at1_last hs))
theorem at1_none : ∀ (k : Nat) {s : Nat} {first must : Bool} {seen : Sre.Seen}, s + k = lim → (∀ i, s ≤ i → ¬ hit1 text lim i) → Fails (3 * k + 4) (at1 text lim s first must seen)
  | 0, s, _, _, _, hk, _ => (at1_end (by omega)).mono (by omega)
  | k + 1, s, _, _, _, hk, h => by
    obtain ⟨sn, g⟩ := at1_miss (h s (Nat.le_refl _)) (by omega)
    exact (Fails.after g (at1_none k (by omega) fun i hi => h i (by omega))).mono (by omega)
theorem at1_some {j : Nat} (hj : hit1 text lim j) : ∀ (k : Nat) {s : Nat} {first must : Bool} {seen : Sre.Seen}, s + k = j → (∀ i, s ≤ i → i < j → ¬ hit1 text lim i) → Finds (3 * k + 5) (at1 text lim s first must seen) j (j + 1)
  | 0, s, _, _, _, hk, _ => by
    obtain rfl : s = j := by omega
    exact (at1_hit hj).mono (by omega)
  | k + 1, s, _, _, _, hk, h => by
    obtain ⟨sn, g⟩ := at1_miss (h s (Nat.le_refl _) (by omega)) (by have := hj.2.1; omega)
    exact (Finds.after g (at1_some hj k (by omega) fun i hi hi' => h i (by omega) hi')).mono (by omega)
end one
theorem search1_at {text : Array Nat} {lim p : Nat} {must : Bool} (h : p < lim) : forSearch code1 text 0 p lim must = at1 text lim p true must (({} : Sre.Seen).add 14) := by
  show (if (decide (p > lim) || decide (lim - p < 1)) = true then _ else _) = _
  have e1 : decide (p > lim) = false := decide_eq_false (by omega)
  have e2 : decide (lim - p < 1) = false := decide_eq_false (by omega)
  rw [e1, e2]
  rfl
theorem search1_over {text : Array Nat} {lim p : Nat} {must : Bool} (h : ¬ p < lim) : Fails 1 (forSearch code1 text 0 p lim must) := by
  have e : forSearch code1 text 0 p lim must = { code := code1, text := text, lim := lim, start := p, mustAdvance := must, pc := 5, pos := p, handed := p, marks := #[], answer := some false, seen := ({} : Sre.Seen).add 14 } := by
    show (if (decide (p > lim) || decide (lim - p < 1)) = true then _ else _) = _
    have e2 : decide (lim - p < 1) = true := decide_eq_true (by omega)
    rw [e2, Bool.or_true]
    rfl
  rw [e]
  exact ⟨_, Goes.step (Goes.refl _), rfl⟩
end Mine
/- SreM2 -/
set_option maxRecDepth 100000
set_option maxHeartbeats 4000000
namespace Mine
open PySem.Sre
def m2 (text : Array Nat) (lim s : Nat) (must : Bool) (seen : Sre.Seen) (pc pos handed : Nat) (outer : Bool) (frames : List Sre.Frame) (weight : Nat) (answer : Option Bool) : M :=
  { code := code2, text := text, lim := lim, start := s, lastStart := lim, mustAdvance := must, pc := pc, pos := pos, handed := handed, outermost := outer, marks := #[], frames := frames, weight := weight, answer := answer, seen := seen }
def fS (s : Nat) (first : Bool) : Sre.Frame := { wait := .nextStart, pc := 10, pos := s, outermost := first }
def fB (alt s : Nat) (first : Bool) : Sre.Frame := { wait := .nextBranch, pc := alt, pos := s, outermost := first, kept := { lastmark := -1, lastindex := -1, whole := false, marks := #[] } }
def fL (s : Nat) (first : Bool) : Sre.Frame := { wait := .lookNot, pc := 26, pos := s, outermost := first, kept := { lastmark := -1, lastindex := -1, whole := false, marks := #[] } }
section
variable {text : Array Nat} {lim s pc pos handed weight c : Nat} {must outer first : Bool} {seen : Sre.Seen} {frames : List Sre.Frame}
theorem m2_exec (hpc : pc < 36) : (m2 text lim s must seen pc pos handed outer frames weight none).step = (m2 text lim s must seen pc pos handed outer frames weight none).exec := by
  show (if pc < 36 then _ else _) = _
  rw [if_pos hpc]
theorem lit_yes (hpc : pc < 36) (h0 : code2.getD pc 0 = 16) (h1 : code2.getD (pc + 1) 0 = c) (hp : pos < lim) (hc : text.getD pos 0 = c) :
    Goes 1 (m2 text lim s must seen pc pos handed outer frames weight none) (m2 text lim s must (seen.add 16) (pc + 2) (pos + 1) handed outer frames weight none) := by
  refine Goes.one ?_
  rw [m2_exec hpc, exec_lit (m := m2 text lim s must seen pc pos handed outer frames weight none) h0 h0]
  show (if pos ≥ lim then _ else if text.getD pos 0 = code2.getD (pc + 1) 0 then _ else _) = _
  rw [if_neg (by omega), if_pos (by rw [h1]; exact hc)]
  rfl
theorem lit_no (hpc : pc < 36) (h0 : code2.getD pc 0 = 16) (h1 : code2.getD (pc + 1) 0 = c) (h : ¬ (pos < lim ∧ text.getD pos 0 = c)) :
    Goes 1 (m2 text lim s must seen pc pos handed outer frames weight none) (m2 text lim s must (seen.add 16) pc pos handed outer frames weight (some false)) := by
  refine Goes.one ?_
  rw [m2_exec hpc, exec_lit (m := m2 text lim s must seen pc pos handed outer frames weight none) h0 h0]
  show (if pos ≥ lim then _ else if text.getD pos 0 = code2.getD (pc + 1) 0 then _ else _) = _
  by_cases hp : pos ≥ lim
  · rw [if_pos hp]; rfl
  · rw [if_neg hp, if_neg (by rw [h1]; exact fun e => h ⟨by omega, e⟩)]; rfl
/-- the end: SUCCESS at 35, the two frames above handed on -/
theorem win {alt : Nat} (hne : pos ≠ s) : Finds 4 (m2 text lim s must seen 35 pos handed outer [fB alt s first, fS s first] weight none) s pos := by
  have e1 : (m2 text lim s must seen 35 pos handed outer [fB alt s first, fS s first] weight none).step = m2 text lim s must (seen.add 1) 35 pos pos outer [fB alt s first, fS s first] weight (some true) := by
    show (if (outer && ((false && (pos != lim)) || (must && (pos == s)))) = true then _ else _) = _
    have : (pos == s) = false := by simpa using hne
    rw [this]
    have h2 : (outer && ((false && (pos != lim)) || (must && false))) = false := by cases outer <;> cases must <;> rfl
    rw [h2]; rfl
  refine ⟨_, Goes.step (Goes.step (Goes.step (Goes.step (Goes.refl _)))), ?_⟩
  rw [e1]
  exact ⟨rfl, rfl, rfl⟩
theorem branch0 : Goes 1 (m2 text lim s must seen 10 s s first [fS s first] 1 none) (m2 text lim s must (seen.add 7) 12 s s first [fB 11 s first, fS s first] 2 none) := Goes.one rfl
theorem back11 : Goes 1 (m2 text lim s must seen pc pos handed outer [fB 11 s first, fS s first] 2 (some false)) (m2 text lim s must seen 19 s s first [fB 18 s first, fS s first] 2 none) := Goes.one rfl
theorem back18 : Goes 1 (m2 text lim s must seen pc pos handed outer [fB 18 s first, fS s first] 2 (some false)) (m2 text lim s must seen 24 s s first [fB 23 s first, fS s first] 2 none) := Goes.one rfl
theorem jump16 : Goes 1 (m2 text lim s must seen 16 pos handed outer frames weight none) (m2 text lim s must (seen.add 15) 35 pos handed outer frames weight none) := Goes.one rfl
theorem jump21 : Goes 1 (m2 text lim s must seen 21 pos handed outer frames weight none) (m2 text lim s must (seen.add 15) 35 pos handed outer frames weight none) := Goes.one rfl
theorem jump32 : Goes 1 (m2 text lim s must seen 32 pos handed outer frames weight none) (m2 text lim s must (seen.add 15) 35 pos handed outer frames weight none) := Goes.one rfl
theorem look26 : Goes 1 (m2 text lim s must seen 26 pos handed outer [fB 23 s first, fS s first] 2 none) (m2 text lim s must (seen.add 5) 29 pos pos false [fL pos outer, fB 23 s first, fS s first] 3 none) := Goes.one rfl
theorem back26 {pos' : Nat} : Goes 1 (m2 text lim s must seen pc pos handed false [fL pos' outer, fB 23 s first, fS s first] 3 (some false)) (m2 text lim s must seen 32 pos' handed outer [fB 23 s first, fS s first] 2 none) := Goes.one rfl
theorem lf_found (hs : s < lim) (hc : text.getD s 0 = 10) : Finds 12 (m2 text lim s must seen 10 s s first [fS s first] 1 none) s (s + 1) := by
  refine (Finds.after branch0 (Finds.after (lit_no (c := 13) (by omega) rfl rfl (fun e => by have := e.2; omega)) (Finds.after back11 (Finds.after (lit_yes (c := 10) (by omega) rfl rfl hs hc) (Finds.after jump21 (win (by omega))))))).mono (by omega)
theorem crlf_found (hs : s + 1 < lim) (hc : text.getD s 0 = 13) (hc' : text.getD (s + 1) 0 = 10) : Finds 12 (m2 text lim s must seen 10 s s first [fS s first] 1 none) s (s + 2) := by
  refine (Finds.after branch0 (Finds.after (lit_yes (c := 13) (by omega) rfl rfl (by omega) hc) (Finds.after (lit_yes (c := 10) (by omega) rfl rfl hs hc') (Finds.after jump16 (win (by omega)))))).mono (by omega)
theorem cr_found (hs : s < lim) (hc : text.getD s 0 = 13) (hc' : ¬ (s + 1 < lim ∧ text.getD (s + 1) 0 = 10)) : Finds 16 (m2 text lim s must seen 10 s s first [fS s first] 1 none) s (s + 1) := by
  refine (Finds.after branch0 (Finds.after (lit_yes (c := 13) (by omega) rfl rfl hs hc) (Finds.after (lit_no (c := 10) (by omega) rfl rfl hc') (Finds.after back11 (Finds.after (lit_no (c := 10) (by omega) rfl rfl (fun e => by have := e.2; omega)) (Finds.after back18 (Finds.after (lit_yes (c := 13) (by omega) rfl rfl hs hc) (Finds.after look26 (Finds.after (lit_no (c := 10) (by omega) rfl rfl hc') (Finds.after back26 (Finds.after jump32 (win (by omega))))))))))))).mono (by omega)
end
/-- the next sign that ends a line -/
theorem inSet2 {c : Nat} {seen : Sre.Seen} : ∃ seen', inSet code2 c 36 5 true seen = .ok (decide (c = 10 ∨ c = 13), seen') := by
  by_cases h1 : c = 10
  · subst h1; exact ⟨_, rfl⟩
  · by_cases h2 : c = 13
    · subst h2; exact ⟨_, rfl⟩
    · have e1 : (c == 10) = false := by simpa using h1
      have e2 : (c == 13) = false := by simpa using h2
      have e3 : decide (c = 10 ∨ c = 13) = false := by simp [h1, h2]
      rw [e3]
      refine ⟨((seen.add 16).add 16).add 0, ?_⟩
      show (if (c == 10) = true then _ else if (c == 13) = true then _ else _) = _
      rw [e1, e2]; rfl
abbrev nl (text : Array Nat) (i : Nat) : Prop := text.getD i 0 = 10 ∨ text.getD i 0 = 13
theorem admitted_some {text : Array Nat} {m : M} {j : Nat} (hc : m.code = code2) (ht : m.text = text) (hj : j < m.lim) (hn : nl text j) : ∀ (k fuel p : Nat) (seen : Sre.Seen), p + k = j → k < fuel → (∀ i, p ≤ i → i < j → ¬ nl text i) → ∃ seen', m.admitted fuel p seen = .ok (some j, seen') := by
  intro k
  induction k with
  | zero =>
    intro fuel p seen hk hf _
    obtain rfl : p = j := by omega
    obtain ⟨f, rfl⟩ : ∃ f, fuel = f + 1 := ⟨fuel - 1, by omega⟩
    obtain ⟨sn, e⟩ := inSet2 (c := text.getD p 0) (seen := seen)
    refine ⟨sn, ?_⟩
    unfold M.admitted
    rw [if_neg (by omega), hc, ht, show code2.size = 36 from rfl, e, decide_eq_true hn]
  | succ k ih =>
    intro fuel p seen hk hf h
    obtain ⟨f, rfl⟩ : ∃ f, fuel = f + 1 := ⟨fuel - 1, by omega⟩
    obtain ⟨sn, e⟩ := inSet2 (c := text.getD p 0) (seen := seen)
    obtain ⟨sn', e'⟩ := ih f (p + 1) sn (by omega) (by omega) fun i hi hi' => h i (by omega) hi'
    refine ⟨sn', ?_⟩
    unfold M.admitted
    rw [if_neg (by omega), hc, ht, show code2.size = 36 from rfl, e, decide_eq_false (h p (Nat.le_refl _) (by omega))]
    exact e'
theorem admitted_none {text : Array Nat} {m : M} (hc : m.code = code2) (ht : m.text = text) : ∀ (fuel p : Nat) (seen : Sre.Seen), (∀ i, p ≤ i → i < m.lim → ¬ nl text i) → ∃ seen', m.admitted fuel p seen = .ok (none, seen') := by
  intro fuel
  induction fuel with
  | zero => intro p seen _; exact ⟨_, rfl⟩
  | succ f ih =>
    intro p seen h
    by_cases hp : p ≥ m.lim
    · exact ⟨seen, by unfold M.admitted; rw [if_pos hp]⟩
    · obtain ⟨sn, e⟩ := inSet2 (c := text.getD p 0) (seen := seen)
      obtain ⟨sn', e'⟩ := ih (p + 1) sn fun i hi hi' => h i (by omega) hi'
      refine ⟨sn', ?_⟩
      unfold M.admitted
      rw [if_neg hp, hc, ht, show code2.size = 36 from rfl, e, decide_eq_false (h p (Nat.le_refl _) (by omega))]
      exact e'
/-- where a line end at s stops -/
def nlEnd (text : Array Nat) (lim s : Nat) : Nat := if text.getD s 0 = 13 ∧ s + 1 < lim ∧ text.getD (s + 1) 0 = 10 then s + 2 else s + 1
theorem found2 {text : Array Nat} {lim s : Nat} {must first : Bool} {seen : Sre.Seen} (hs : s < lim) (hn : nl text s) : Finds 16 (m2 text lim s must seen 10 s s first [fS s first] 1 none) s (nlEnd text lim s) := by
  unfold nlEnd
  rcases hn with h | h
  · rw [if_neg (by omega)]; exact (lf_found hs h).mono (by omega)
  · by_cases h' : s + 1 < lim ∧ text.getD (s + 1) 0 = 10
    · rw [if_pos ⟨h, h'⟩]; exact (crlf_found h'.1 h h'.2).mono (by omega)
    · rw [if_neg (fun e => h' e.2)]; exact cr_found hs h h'
theorem search2_some {text : Array Nat} {lim p j : Nat} {must : Bool} (hp : p ≤ j) (hj : j < lim) (hn : nl text j) (h : ∀ i, p ≤ i → i < j → ¬ nl text i) : Finds 16 (forSearch code2 text 0 p lim must) j (nlEnd text lim j) := by
  let m : M := { code := code2, text := text, lim := lim, start := p, lastStart := lim, mustAdvance := must, pc := 10, pos := p, handed := p, marks := #[], seen := ({} : Sre.Seen).add 14 }
  obtain ⟨sn, e⟩ := admitted_some (m := m) (text := text) rfl rfl hj hn (j - p) (lim + 1 - p) p (({} : Sre.Seen).add 14) (by omega) (by omega) h
  have e' : forSearch code2 text 0 p lim must = m2 text lim j false sn 10 j j true [fS j true] 1 none := by
    show (if (decide (p > lim) || decide (lim - p < 1)) = true then _ else M.attemptFrom m p true) = _
    have e1 : decide (p > lim) = false := decide_eq_false (by omega)
    have e2 : decide (lim - p < 1) = false := decide_eq_false (by omega)
    rw [e1, e2]
    show M.attemptFrom m p true = _
    show (match m.admitted (lim + 1 - p) p (({} : Sre.Seen).add 14) with | .ok (some s, seen) => M.attemptAt { m with mustAdvance := false, seen := seen } s true | .ok (none, seen) => M.say { m with seen := seen } false | .error why => m.stick why) = _
    rw [e]
    rfl
  rw [e']
  exact found2 hj hn
theorem search2_none {text : Array Nat} {lim p : Nat} {must : Bool} (h : ∀ i, p ≤ i → i < lim → ¬ nl text i) : Fails 1 (forSearch code2 text 0 p lim must) := by
  by_cases hp : p < lim
  · let m : M := { code := code2, text := text, lim := lim, start := p, lastStart := lim, mustAdvance := must, pc := 10, pos := p, handed := p, marks := #[], seen := ({} : Sre.Seen).add 14 }
    obtain ⟨sn, e⟩ := admitted_none (m := m) (text := text) rfl rfl (lim + 1 - p) p (({} : Sre.Seen).add 14) h
    have e' : forSearch code2 text 0 p lim must = { m with seen := sn, answer := some false } := by
      show (if (decide (p > lim) || decide (lim - p < 1)) = true then _ else M.attemptFrom m p true) = _
      have e1 : decide (p > lim) = false := decide_eq_false (by omega)
      have e2 : decide (lim - p < 1) = false := decide_eq_false (by omega)
      rw [e1, e2]
      show M.attemptFrom m p true = _
      show (match m.admitted (lim + 1 - p) p (({} : Sre.Seen).add 14) with | .ok (some s, seen) => M.attemptAt { m with mustAdvance := false, seen := seen } s true | .ok (none, seen) => M.say { m with seen := seen } false | .error why => m.stick why) = _
      rw [e]
      rfl
    rw [e']
    exact ⟨_, Goes.step (Goes.refl _), rfl⟩
  · have e : forSearch code2 text 0 p lim must = { code := code2, text := text, lim := lim, start := p, mustAdvance := must, pc := 10, pos := p, handed := p, marks := #[], answer := some false, seen := ({} : Sre.Seen).add 14 } := by
      show (if (decide (p > lim) || decide (lim - p < 1)) = true then _ else _) = _
      have e2 : decide (lim - p < 1) = true := decide_eq_true (by omega)
      rw [e2, Bool.or_true]
      rfl
    rw [e]
    exact ⟨_, Goes.step (Goes.refl _), rfl⟩
end Mine
/- SreW -/
set_option maxRecDepth 100000
set_option maxHeartbeats 4000000
namespace Mine
open PySem.Sre PySem.Builtin PySem.Builtin.Re
section
variable {M' : Model} {A : Around} {E : Value → Shared → Prop} {s : Shared}
theorem reDrive_wp {m' : M} (ho : m'.outcome.isSome = true) {Q : M → Shared → Prop} (hq : Q m' s) : ∀ (turns n : Nat) (m : M), M.runFor n m = m' → n ≤ 4 * turns → 0 < turns → wpAny M' A (reDrive turns m) Q E s
  | 0, _, _, _, _, h => absurd h (by omega)
  | turns + 1, n, m, hn, hle, _ => by
    show wpAny M' A (if (M.runFor 4 m).outcome.isSome = true then pure (M.runFor 4 m) else do rule "sre.turn"; reDrive turns (M.runFor 4 m)) Q E s
    cases h4 : (M.runFor 4 m).outcome.isSome with
    | true =>
      have e : M.runFor 4 m = m' := by
        by_cases hc : n ≤ 4
        · rw [show 4 = n + (4 - n) by omega, runFor_add, hn, runFor_some _ ho]
        · have : M.runFor n m = M.runFor (n - 4) (M.runFor 4 m) := by rw [← runFor_add]; congr 1; omega
          rw [← hn, this, runFor_some _ h4]
      rw [if_pos rfl, e]
      exact wpAny_pure hq
    | false =>
      rw [if_neg (by simp)]
      have hc : ¬ n ≤ 4 := by
        intro hc
        rw [show 4 = n + (4 - n) by omega, runFor_add, hn, runFor_some _ ho, ho] at h4
        cases h4
      have e : M.runFor (n - 4) (M.runFor 4 m) = m' := by rw [← runFor_add, ← hn]; congr 1; omega
      refine wpAny_bind (wpAny_rule ?_)
      exact reDrive_wp ho hq turns (n - 4) _ e (by omega) (by omega)
theorem rules_wp {Q : PUnit → Shared → Prop} (c : Nat → Bool) (g : Nat → String) (hq : Q PUnit.unit s) : ∀ l : List Nat, wpAny M' A (forIn l PUnit.unit fun i _ => if c i = true then (rule (g i) >>= fun _ => pure (ForInStep.yield PUnit.unit)) else pure (ForInStep.yield PUnit.unit)) Q E s
  | [] => wpAny_pure hq
  | i :: l => by
    rw [List.forIn_cons]
    refine wpAny_bind ?_
    cases c i with
    | true => exact wpAny_bind (wpAny_rule (wpAny_pure (rules_wp c g hq l)))
    | false => exact wpAny_pure (rules_wp c g hq l)
theorem reRun_some {m m' : M} {N : Nat} {Q : Option M → Shared → Prop} (h : Goes N m m') (hN : N ≤ 1000000) (ho : m'.outcome = some .matched) (hq : Q (some m') s) : wpAny M' A (reRunToEnd m) Q E s := by
  obtain ⟨n, hn, e⟩ := h
  unfold reRunToEnd
  refine wpAny_bind (reDrive_wp (m' := m') (by rw [ho]; rfl) ?_ (2 ^ 64) n m e (by omega) (by omega))
  refine wpAny_bind (rules_wp _ _ ?_ _)
  rw [ho]
  exact wpAny_pure hq
theorem reRun_none {m m' : M} {N : Nat} {Q : Option M → Shared → Prop} (h : Goes N m m') (hN : N ≤ 1000000) (ho : m'.outcome = some .failed) (hq : Q none s) : wpAny M' A (reRunToEnd m) Q E s := by
  obtain ⟨n, hn, e⟩ := h
  unfold reRunToEnd
  refine wpAny_bind (reDrive_wp (m' := m') (by rw [ho]; rfl) ?_ (2 ^ 64) n m e (by omega) (by omega))
  refine wpAny_bind (rules_wp _ _ ?_ _)
  rw [ho]
  exact wpAny_pure hq
end
/-- a pattern's object and its code's tuple -/
structure PatAt (h : Heap) (pat cd : Addr) (code : Array Nat) : Prop where
  ex : ∃ (fs cs : Array Value) (o oc : Obj) (n : Nat), h.get? pat = some o ∧ o.data = .fields fs ∧ o.cls = .type "re.Pattern" ∧ o.dict = none ∧ fs.getD 2 .none = .int 0 0 ∧ fs.getD 5 .none = .ref cd ∧ fs.getD 6 .none = .int 0 0 ∧
    h.get? cd = some oc ∧ oc.data = .seq cs n ∧ (cs.map reRawOf).map (·.toNat) = code
theorem PatAt.but {h h' : Heap} {pat cd l : Addr} {code : Array Nat} (P : PatAt h pat cd code) (hs : Heap.SameBut l h h') (h1 : pat ≠ l) (h2 : cd ≠ l) : PatAt h' pat cd code := by
  obtain ⟨fs, cs, o, oc, n, e1, r1, r2, r3, r4, r5, r6, e2, r⟩ := P.ex
  exact ⟨⟨fs, cs, o, oc, n, hs.extBut _ _ h1 e1, r1, r2, r3, r4, r5, r6, hs.extBut _ _ h2 e2, r⟩⟩
section
variable {M' : Model} {A : Around} {E : Value → Shared → Prop} {s : Shared}
theorem wholeTarget_wp {pat cd : Addr} {code : Array Nat} {x : Str} {t : Tok} {Q : ReTarget → Shared → Prop} (h : PatAt s.heap pat cd code)
    (hq : Q { pattern := .ref pat, string := .str x t, code := code, text := x.cps, kind := 0, groups := 0, pos := 0, lim := x.cps.size } s) : wpAny M' A (reWholeTarget (.ref pat) (.str x t)) Q E s := by
  obtain ⟨fs, cs, o, oc, n, ho, hd, _, _, h2, h5, h6, hoc, hcd, hcode⟩ := h.ex
  unfold reWholeTarget
  refine wpAny_bind (wpAny_fieldsOf ho hd ?_)
  refine wpAny_bind (wpAny_of_eq (a := (x.cps, 0)) (by rfl) ?_)
  dsimp only
  rw [h6]
  rw [if_neg (by decide), if_neg (by decide)]
  refine wpAny_bind (wpAny_of_eq (a := ()) (by rfl) ?_)
  unfold reRawItems
  rw [h5]
  refine wpAny_bind (wpAny_bind (wpAny_seqItems hoc hcd ?_))
  refine wpAny_pure (wpAny_pure ?_)
  rw [Option.getD_some, hcode, h2]
  exact hq
/-- the pieces' list -/
abbrev pieceVals (l : List (Str × Tok)) : List Value := strValues l
def flat (l : List (Str × Tok)) : List Nat := (l.map fun p => p.1.cps.toList).flatten
theorem flat_snoc (l : List (Str × Tok)) (x : Str) (t : Tok) : flat (l ++ [(x, t)]) = flat l ++ x.cps.toList := by simp [flat]
theorem strValues_snoc (l : List (Str × Tok)) (x : Str) (t : Tok) : strValues (l ++ [(x, t)]) = strValues l ++ [.str x t] := by simp [strValues]
theorem push_wp {l : Addr} {vs : List Value} {n : Nat} {v : Value} {Q : Unit → Shared → Prop} (ho : s.heap.get? l = some { cls := .type "list", data := .seq vs.toArray n }) (hz : vs.length ≤ 100000)
    (hq : ∀ h', Heap.SameBut l s.heap h' → h'.get? l = some { cls := .type "list", data := .seq (vs ++ [v]).toArray (n + 1) } → Q () { s with heap := h' }) : wpAny M' A (updateSeq l (·.push v)) Q E s := by
  refine wpAny_updateSeq ho rfl (hq _ (Heap.SameBut.update ..) ?_) (by rw [sizeLine_eq, List.size_toArray]; omega) (by rw [sizeLine_eq, Array.size_push, List.size_toArray]; omega)
  rw [Heap.get?_update_self _ ho (by rw [Obj.mapSeq_push_plain]; rfl), Obj.mapSeq_push_plain, List.push_toArray]
def outF (text : List Nat) (find : Nat → Option (Nat × Nat)) (repl : List Nat) : Nat → Nat → List Nat
  | 0, p => text.drop p
  | fuel + 1, p => match find p with
    | some (i, j) => (text.drop p).take (i - p) ++ repl ++ outF text find repl fuel j
    | none => text.drop p
/-- what the pattern finds from each place -/
def Finder (code text : Array Nat) (find : Nat → Option (Nat × Nat)) : Prop :=
  ∀ p must, p ≤ text.size → (∀ i j, find p = some (i, j) → p ≤ i ∧ i < j ∧ j ≤ text.size ∧ Finds 100000 (forSearch code text 0 p text.size must) i j) ∧ (find p = none → Fails 100000 (forSearch code text 0 p text.size must))
theorem entry_subloop : entryFor table "re.Pattern.sub.loop" = some Builtin.«re.Pattern.sub.loop» := entryFor_of_tree (by kernel_rfl)
theorem slice_wp {x : Str} {b e : Nat} {Q : Value → Shared → Prop} (hx : x.cps.size ≤ 100000) (hq : ∀ t k, Q (.str ⟨x.cps.extract b e⟩ t) { s with toks := k }) : wpAny M' A (reSlice x.cps 0 b e) Q E s := by
  show wpAny M' A (mkStr ⟨x.cps.extract b e⟩) Q E s
  exact wpAny_mkStr (hq _ _) (by show (x.cps.extract b e).size ≤ _; rw [sizeLine_eq, Array.size_extract]; omega)
end
theorem ext_to (x : Array Nat) (p i : Nat) : (x.extract p i).toList = (x.toList.drop p).take (i - p) := by rw [Array.toList_extract]
theorem ext_all (x : Array Nat) (p : Nat) : (x.extract p x.size).toList = x.toList.drop p := by rw [ext_to]; exact List.take_of_length_le (by simp)
theorem tooLong_flat (l : List (Str × Tok)) (h : (flat l).length ≤ 100000) : Builtin.Str.tooLong ((l.map (·.1)).toArray.foldl (· + ·.length + (⟨#[]⟩ : Str).length) 0) = false := by
  have key : ∀ (l : List (Str × Tok)) (a : Nat), (l.map (·.1)).foldl (· + ·.length + (⟨#[]⟩ : Str).length) a = a + (flat l).length := by
    intro l
    induction l with
    | nil => intro a; simp [flat]
    | cons p r ih =>
      intro a
      rw [List.map_cons, List.foldl_cons, ih]
      show a + p.1.cps.size + 0 + _ = _
      simp [flat]; omega
  unfold Builtin.Str.tooLong
  rw [List.foldl_toArray, key, sizeLine_eq]
  simp; omega
theorem glued_flat (l : List (Str × Tok)) : Builtin.Str.glued ⟨#[]⟩ (l.map (·.1)) = ⟨(flat l).toArray⟩ := by
  have key : ∀ (r : List (Str × Tok)) (a : Array Nat), (r.map (·.1)).foldl (fun acc p => acc ++ (⟨#[]⟩ : Str).cps ++ p.cps) a = a ++ (flat r).toArray := by
    intro r
    induction r with
    | nil => intro a; simp [flat]
    | cons p r ih =>
      intro a
      rw [List.map_cons, List.foldl_cons, ih]
      apply Array.ext'
      simp [flat]
  unfold Builtin.Str.glued
  cases l with
  | nil => simp [flat, Str.empty]
  | cons p r =>
    have := key r p.1.cps
    simp only [List.map_cons, List.drop_one, List.tail_cons, List.headD_cons]
    rw [this]
    congr 1
    apply Array.ext'
    simp [flat]
section
variable {prog : Program} {w : World} {A : Around} {R : Result → Shared → Prop}
/-- the last piece, and the pieces joined -/
theorem join_wp {E : Value → Shared → Prop} {s : Shared} {l : Addr} {ps : List (Str × Tok)} {nn : Nat} {t : Tok} {Q : Value → Shared → Prop} (hl : s.heap.get? l = some { cls := .type "list", data := .seq (strValues ps).toArray nn }) (hf : (flat ps).length ≤ 100000)
    (hq : ∀ t' k, Q (.str ⟨(flat ps).toArray⟩ t') { s with toks := k }) : wpAny (model prog w) A (call (.builtin "str.join") [.str ⟨#[]⟩ t, .ref l]) Q E s := by
  refine call_meets F.slot_str_join (typeIs_str _ _ _) F.entry_str_join (F.args_str_join_2 _ _) (meets_str_join_list ⟨#[]⟩ t l ps (tooLong_flat ps hf)) ⟨⟨_, hl, rfl, _, rfl⟩, ?_⟩
  have hg : Made.post (.str (Builtin.Str.glued ⟨#[]⟩ (ps.map (·.1)))) (fun v s' => wants Q E (.ok (.ret v)) s') s := by
    rw [glued_flat]
    refine ⟨?_, hq _ _⟩
    show (flat ps).toArray.size ≤ _
    rw [sizeLine_eq, List.size_toArray]; omega
  match ps, hg with
  | [], hg => exact hg
  | [p], _ =>
    have e : (⟨(flat [p]).toArray⟩ : Str) = p.1 := by simp [flat]
    have := hq p.2 s.toks
    rw [e] at this
    exact this
  | p :: q :: r, hg => exact hg
theorem subloop {pat cd l : Addr} {code : Array Nat} {x repl : Str} {tx tr : Tok} {find : Nat → Option (Nat × Nat)} (hx : x.cps.size ≤ 1000) (hrep : repl.cps.size ≤ 10) (hF : Finder code x.cps find) (hpl : pat ≠ l) (hcl : cd ≠ l) :
    ∀ (fuel p : Nat) (must : Bool) (ps : List (Str × Tok)) (n : Int) (nn : Nat) (s : Shared), x.cps.size < p + fuel → p ≤ x.cps.size → ps.length ≤ 2 * p → (flat ps).length ≤ 20 * p → PatAt s.heap pat cd code →
      s.heap.get? l = some { cls := .type "list", data := .seq (strValues ps).toArray nn } →
      (∀ h' t tk, Heap.SameBut l s.heap h' → R (.ok (.ret (.str ⟨(flat ps ++ outF x.cps.toList find repl.cps.toList fuel p).toArray⟩ t))) { s with heap := h', toks := tk }) →
      codeAny (model prog w) A (.builtin "re.Pattern.sub.loop" ⟨[.ref pat, .str x tx, .str repl tr, rawInt 0, rawInt 0, rawInt n, rawInt p, rawInt p, .bool must, .ref l, .bool false], []⟩) R s := by
  intro fuel
  induction fuel with
  | zero => intro p must ps n nn s hfu hp; omega
  | succ fuel ih =>
    intro p must ps n nn s hfu hp hps hfl hpat hl hR
    refine codeAny_builtin entry_subloop ?_
    unfold «re.Pattern.sub.loop»
    show wpAny _ _ (reWholeTarget (.ref pat) (.str x tx) >>= fun t => _) _ _ s
    refine wpAny_bind (wholeTarget_wp hpat ?_)
    show wpAny _ _ (reLiteralCannotBeTurned (.str repl tr) >>= fun r => _) _ _ s
    refine wpAny_bind (wpAny_of_eq (a := ()) (by rfl) ?_)
    show wpAny _ _ (reRunToEnd (forSearch code x.cps 0 (p : Int).toNat x.cps.size must) >>= fun r => _) _ _ s
    rw [Int.toNat_natCast]
    obtain ⟨h1, h2⟩ := hF p must hp
    cases hfind : find p with
    | none =>
      obtain ⟨m', hg, ho⟩ := h2 hfind
      refine wpAny_bind (reRun_none hg (by omega) ho ?_)
      have eout : outF x.cps.toList find repl.cps.toList (fuel + 1) p = x.cps.toList.drop p := by unfold outF; rw [hfind]
      rw [eout] at hR
      have fin : ∀ (ps' : List (Str × Tok)) (nn' : Nat) (h' : Heap) (tk : Nat), Heap.SameBut l s.heap h' → h'.get? l = some { cls := .type "list", data := .seq (strValues ps').toArray nn' } → flat ps' = flat ps ++ x.cps.toList.drop p →
          wpAny (model prog w) (A.under (.builtin "re.Pattern.sub.loop" ⟨[.ref pat, .str x tx, .str repl tr, rawInt 0, rawInt 0, rawInt n, rawInt p, rawInt p, .bool must, .ref l, .bool false], []⟩)) (do
            let joiner ← reSlice x.cps 0 0 0
            let its ← seqItems? (.ref l)
            if (its.getD #[]).isEmpty = true then (ret joiner) else (call (.builtin "str.join") [joiner, .ref l] >>= fun t => ret t))
            (fun fin s' => match fin with | .done f => R (.ok f) s' | .again c' => c'.quiet = true ∧ codeAny (model prog w) A c' R s') (fun e s' => R (.error e) s') { s with heap := h', toks := tk } := by
        intro ps' nn' h' tk hsb hl' hfl'
        refine wpAny_bind (slice_wp (by omega) fun t k => ?_)
        have e0 : x.cps.extract 0 0 = #[] := by simp
        rw [e0]
        refine wpAny_bind (wpAny_seqItems (o := { cls := .type "list", data := .seq (strValues ps').toArray nn' }) hl' rfl ?_)
        rw [Option.getD_some]
        have hfl2 : (flat ps').length ≤ 100000 := by
          have e1 : (flat ps').length = (flat ps).length + (x.cps.size - p) := by rw [hfl']; simp
          omega
        cases ps' with
        | nil =>
          rw [if_pos (by rfl)]
          refine wpAny_pure ?_
          have := hR h' t k hsb
          rw [← hfl'] at this
          exact this
        | cons q r =>
          rw [if_neg (by simp [strValues])]
          refine wpAny_bind (join_wp (s := { s with heap := h', toks := k }) hl' hfl2 fun t' k' => ?_)
          refine wpAny_pure ?_
          have := hR h' t' k' hsb
          rw [← hfl'] at this
          exact this
      by_cases hpl' : p < x.cps.size
      · show wpAny _ _ (if p < x.cps.size then (reSlice x.cps 0 p x.cps.size >>= fun v => updateSeq l (·.push v) >>= fun _ => _) else _) _ _ _
        rw [if_pos hpl']
        refine wpAny_bind (slice_wp (by omega) fun t k => ?_)
        refine wpAny_bind (push_wp (s := { s with toks := k }) hl (by simp [strValues]; omega) fun h' hsb hl' => ?_)
        refine fin (ps ++ [(⟨x.cps.extract p x.cps.size⟩, t)]) (nn + 1) h' k hsb (by rw [strValues_snoc]; exact hl') ?_
        rw [flat_snoc, ext_all]
      · show wpAny _ _ (if p < x.cps.size then _ else _) _ _ _
        rw [if_neg hpl']
        refine fin ps nn s.heap s.toks ⟨rfl, fun _ _ => rfl⟩ hl ?_
        rw [List.drop_eq_nil_of_le (by rw [Array.length_toList]; omega), List.append_nil]
    | some ij =>
      obtain ⟨i, j⟩ := ij
      obtain ⟨hpi, hij, hjl, m', hg, ho, hst, hen⟩ := h1 i j hfind
      refine wpAny_bind (reRun_some hg (by omega) ho ?_)
      have eout : outF x.cps.toList find repl.cps.toList (fuel + 1) p = (x.cps.toList.drop p).take (i - p) ++ repl.cps.toList ++ outF x.cps.toList find repl.cps.toList fuel j := by conv => lhs; unfold outF; rw [hfind]
      rw [eout] at hR
      have fin : ∀ (ps' : List (Str × Tok)) (nn' : Nat) (h' : Heap) (tk : Nat), Heap.SameBut l s.heap h' → h'.get? l = some { cls := .type "list", data := .seq (strValues ps').toArray nn' } → ps'.length ≤ 2 * p + 1 → flat ps' = flat ps ++ (x.cps.toList.drop p).take (i - p) →
          wpAny (model prog w) (A.under (.builtin "re.Pattern.sub.loop" ⟨[.ref pat, .str x tx, .str repl tr, rawInt 0, rawInt 0, rawInt n, rawInt p, rawInt p, .bool must, .ref l, .bool false], []⟩))
            (updateSeq l (·.push (.str repl tr)) >>= fun _ => again (.builtin "re.Pattern.sub.loop" ⟨[.ref pat, .str x tx, .str repl tr, rawInt 0, rawInt 0, rawInt (n + 1), rawInt m'.handed, rawInt m'.handed, .bool (m'.handed == m'.start), .ref l, .bool false], []⟩))
            (fun fin s' => match fin with | .done f => R (.ok f) s' | .again c' => c'.quiet = true ∧ codeAny (model prog w) A c' R s') (fun e s' => R (.error e) s') { s with heap := h', toks := tk } := by
        intro ps' nn' h' tk hsb hl' hlen' hfl'
        refine wpAny_bind (push_wp (s := { s with heap := h', toks := tk }) hl' (by simp [strValues]; omega) fun h2 hsb2 hl2 => ?_)
        refine wpAny_pure ⟨Code.quiet_builtin _ (by decide +kernel), ?_⟩
        have hsb3 : Heap.SameBut l s.heap h2 := hsb.trans hsb2
        rw [hen]
        refine ih j _ (ps' ++ [(repl, tr)]) (n + 1) (nn' + 1) _ (by omega) hjl ?_ ?_ (hpat.but hsb3 hpl hcl) (by rw [strValues_snoc]; exact hl2) ?_
        · rw [List.length_append, List.length_singleton]; omega
        · have e1 : (flat (ps' ++ [(repl, tr)])).length = (flat ps).length + min (i - p) (x.cps.size - p) + repl.cps.size := by rw [flat_snoc, hfl']; simp; omega
          omega
        · intro h3 t tk3 hsb4
          have := hR h3 t tk3 (hsb3.trans hsb4)
          rw [flat_snoc, hfl']
          simpa using this
      by_cases hpi' : p < i
      · show wpAny _ _ (if p < m'.start then (reSlice x.cps 0 p m'.start >>= fun v => updateSeq l (·.push v) >>= fun _ => _) else _) _ _ _
        rw [hst, if_pos hpi']
        refine wpAny_bind (slice_wp (by omega) fun t k => ?_)
        refine wpAny_bind (push_wp (s := { s with toks := k }) hl (by simp [strValues]; omega) fun h' hsb hl' => ?_)
        have := fin (ps ++ [(⟨x.cps.extract p i⟩, t)]) (nn + 1) h' k hsb (by rw [strValues_snoc]; exact hl') (by rw [List.length_append, List.length_singleton]; omega) (by rw [flat_snoc, ext_to])
        rw [hst] at this
        exact this
      · show wpAny _ _ (if p < m'.start then _ else _) _ _ _
        rw [hst, if_neg hpi']
        have := fin ps nn s.heap s.toks ⟨rfl, fun _ _ => rfl⟩ hl (by omega) (by rw [show i - p = 0 by omega]; simp)
        rw [hst] at this
        exact this
end
theorem slot_pattern_sub : Slot "re.Pattern" "sub" "re.Pattern.sub" :=
  .of (owner := "re.Pattern") (n := "sub") (by rw [typeLookup_type, builtinLookup_eq_fast]; kernel_rfl) (by decide +kernel) (by decide +kernel) (by decide +kernel)
    (by first | exact .inl (by decide +kernel) | exact .inr (by decide +kernel)) (by rw [isSubtype_type]; kernel_rfl)
theorem type_pattern_sub : typeOf (.builtin "re.Pattern.sub") = pure (.type "method_descriptor") := by show builtinType _ = _; rw [builtinType_eq_fast]; kernel_rfl
theorem entry_pattern_sub : entryFor table "re.Pattern.sub" = some Builtin.«re.Pattern.sub» := entryFor_of_tree (by kernel_rfl)
theorem args_pattern_sub (a b c : Value) : argsOk "re.Pattern.sub" ⟨[a, b, c], []⟩ := by unfold argsOk; kernel_rfl
theorem plainAttrs_pattern : PlainAttrs "re.Pattern" :=
  ⟨⟨"object.__getattribute__", by rw [typeLookup_type, builtinLookup_eq_fast]; kernel_rfl, by decide +kernel⟩, by rw [typeLookup_type, builtinLookup_eq_fast]; kernel_rfl⟩
theorem str_no_call : typeLookup (.type "str") "__call__" = pure none := by rw [typeLookup_type, builtinLookup_eq_fast]; kernel_rfl
theorem fresh_ne {h : Heap} {a : Addr} {o : Obj} (e : h.get? a = some o) : a ≠ h.objs.size := Nat.ne_of_lt (Heap.lt_size e)
theorem meets_sub {pat cd : Addr} {code : Array Nat} {x repl : Str} {tx tr : Tok} {find : Nat → Option (Nat × Nat)} (hx : x.cps.size ≤ 1000) (hrep : repl.cps.size ≤ 10) (hr92 : repl.cps.contains 92 = false) (hF : Finder code x.cps find) :
    Meets («re.Pattern.sub» ⟨[.ref pat, .str repl tr, .str x tx], []⟩) (fun _ R s => PatAt s.heap pat cd code ∧ ∀ h' t tk, (∀ b o, s.heap.get? b = some o → h'.get? b = some o) → R (.ok (.ret (.str ⟨(outF x.cps.toList find repl.cps.toList (x.cps.size + 1) 0).toArray⟩ t))) { s with heap := h', toks := tk }) := by
  intro prog w A R s ⟨hpat, hR⟩
  unfold «re.Pattern.sub» reSubstitute
  show wpAny _ _ (reNamed "re.Pattern.sub" "sub" ["repl", "string", "count"] 2 [.str repl tr, .str x tx] [] >>= fun r => _) _ _ s
  refine wpAny_bind (wpAny_of_eq (a := [some (.str repl tr), some (.str x tx), none]) (by first | rfl | kernel_rfl) ?_)
  refine wpAny_bind (wpAny_pure ?_)
  refine wpAny_bind (wpAny_specialOf (typeIs_str _ _ _) str_no_call ?_)
  show wpAny _ _ (asStr? (.str repl tr) >>= fun r => _) _ _ _
  refine wpAny_bind (wpAny_pure ?_)
  show wpAny _ _ (if (!repl.cps.contains 92) = true then _ else _) _ _ _
  rw [hr92]
  show wpAny _ _ (holding [.str repl tr] (reWholeTarget (.ref pat) (.str x tx)) >>= fun r => _) _ _ _
  refine wpAny_bind (wpAny_holding (wholeTarget_wp hpat ?_))
  show wpAny _ _ (newList [] >>= fun l => again _) _ _ _
  refine wpAny_bind (wpAny_newObj_type ?_ (by show ([] : List Value).toArray.size ≤ sizeLine; exact Nat.zero_le _))
  refine wpAny_pure ⟨Code.quiet_builtin _ (by decide +kernel), ?_⟩
  obtain ⟨fs, cs, o, oc, n, e1, r1, r2, r3, r4, r5, r6, e2, r⟩ := id hpat.ex
  refine subloop (pat := pat) (cd := cd) (l := s.heap.objs.size) (code := code) (find := find) hx hrep hF (fresh_ne e1) (fresh_ne e2) (x.cps.size + 1) 0 false [] 0 _ _ (by omega) (by omega) (by simp) (by simp [flat]) ⟨⟨fs, cs, o, oc, n, Heap.get?_push_of_some _ e1, r1, r2, r3, r4, r5, r6, Heap.get?_push_of_some _ e2, r⟩⟩ (Heap.get?_push_size _ rfl) ?_
  intro h' t tk hsb
  have := hR h' t tk fun b o e => hsb.extBut b o (fresh_ne e) (Heap.get?_push_of_some _ e)
  simpa [flat] using this
section
variable {prog : Program} {w : World} {A : Around} {E : Value → Shared → Prop} {s : Shared}
theorem pattern_sub {pat cd : Addr} {code : Array Nat} {x repl : Str} {tx tr : Tok} {find : Nat → Option (Nat × Nat)} {Q : Value → Shared → Prop} (hx : x.cps.size ≤ 1000) (hrep : repl.cps.size ≤ 10) (hr92 : repl.cps.contains 92 = false) (hF : Finder code x.cps find)
    (hpat : PatAt s.heap pat cd code) (k : ∀ h' t tk, (∀ b o, s.heap.get? b = some o → h'.get? b = some o) → Q (.str ⟨(outF x.cps.toList find repl.cps.toList (x.cps.size + 1) 0).toArray⟩ t) { s with heap := h', toks := tk }) :
    wpAny (model prog w) A (call (.builtin "re.Pattern.sub") [.ref pat, .str repl tr, .str x tx]) Q E s := by
  obtain ⟨fs, cs, o, oc, n, e1, r1, r2, r3, r4, r5, r6, e2, r⟩ := id hpat.ex
  exact call_meets slot_pattern_sub ⟨o, e1, r2⟩ entry_pattern_sub (args_pattern_sub _ _ _) (meets_sub hx hrep hr92 hF) ⟨hpat, k⟩
theorem method_sub {M : Model} {pat cd : Addr} {code : Array Nat} {pl : Sem Bool} {Q : Value × List Value → Shared → Prop} (hpat : PatAt s.heap pat cd code) (h : Q (.builtin "re.Pattern.sub", [.ref pat]) s) : wpAny M A (getMethod (.ref pat) "sub" pl) Q E s := by
  obtain ⟨fs, cs, o, oc, n, e1, r1, r2, r3, r⟩ := id hpat.ex
  exact getMethod_builtin ⟨o, e1, r2⟩ plainAttrs_pattern slot_pattern_sub type_pattern_sub (fun a e => by cases e; exact ⟨o, e1, r3⟩) h
end
end Mine
/- SreP -/
set_option maxRecDepth 100000
set_option maxHeartbeats 4000000
namespace Mine
open PySem.Sre
def nextF (hit : Nat → Bool) : Nat → Nat → Option Nat
  | 0, _ => none
  | k + 1, p => if hit p then some p else nextF hit k (p + 1)
theorem nextF_some {hit : Nat → Bool} : ∀ {k p i : Nat}, nextF hit k p = some i → p ≤ i ∧ i < p + k ∧ hit i = true ∧ ∀ q, p ≤ q → q < i → hit q = false
  | 0, p, i, h => by simp [nextF] at h
  | k + 1, p, i, h => by
    unfold nextF at h
    cases hp : hit p with
    | true =>
      rw [hp, if_pos rfl] at h
      cases h
      exact ⟨Nat.le_refl _, by omega, hp, fun q h1 h2 => by omega⟩
    | false =>
      rw [hp, if_neg (by simp)] at h
      obtain ⟨h1, h2, h3, h4⟩ := nextF_some h
      refine ⟨by omega, by omega, h3, fun q h5 h6 => ?_⟩
      by_cases e : q = p
      · rw [e]; exact hp
      · exact h4 q (by omega) h6
theorem nextF_none {hit : Nat → Bool} : ∀ {k p : Nat}, nextF hit k p = none → ∀ q, p ≤ q → q < p + k → hit q = false
  | 0, p, _, q, h1, h2 => by omega
  | k + 1, p, h, q, h1, h2 => by
    unfold nextF at h
    cases hp : hit p with
    | true => rw [hp, if_pos rfl] at h; cases h
    | false =>
      rw [hp, if_neg (by simp)] at h
      by_cases e : q = p
      · rw [e]; exact hp
      · exact nextF_none h q (by omega) (by omega)
theorem outF_eq {text : List Nat} {find : Nat → Option (Nat × Nat)} {repl : List Nat} (D : Nat → List Nat)
    (hn : ∀ p, p ≤ text.length → find p = none → D p = text.drop p)
    (hs : ∀ p i j, p ≤ text.length → find p = some (i, j) → p < j ∧ j ≤ text.length ∧ D p = (text.drop p).take (i - p) ++ repl ++ D j) :
    ∀ fuel p, text.length < p + fuel → p ≤ text.length → outF text find repl fuel p = D p
  | 0, p, h, h' => by omega
  | fuel + 1, p, h, h' => by
    unfold outF
    cases hf : find p with
    | none => exact (hn p h' hf).symm
    | some ij =>
      obtain ⟨i, j⟩ := ij
      obtain ⟨h1, h2, h3⟩ := hs p i j h' hf
      rw [h3, ← outF_eq D hn hs fuel j (by omega) h2]
theorem walkD {text : List Nat} {D : Nat → List Nat} {i : Nat} (hi : i ≤ text.length) : ∀ (k p : Nat), p + k = i → (∀ q, p ≤ q → q < i → ∃ h : q < text.length, D q = text[q] :: D (q + 1)) → D p = (text.drop p).take (i - p) ++ D i
  | 0, p, hk, _ => by obtain rfl : p = i := by omega
                      simp
  | k + 1, p, hk, h => by
    obtain ⟨hp, e⟩ := h p (Nat.le_refl _) (by omega)
    rw [e, walkD hi k (p + 1) (by omega) fun q h1 h2 => h q (by omega) h2]
    rw [List.drop_eq_getElem_cons hp, show i - p = (i - (p + 1)) + 1 by omega, List.take_succ_cons]
    rfl
/- pattern 2: line ends -/
/-- line ends made whole; cr: a return stood just ahead -/
def unl (cr : Bool) : List Nat → List Nat
  | [] => []
  | c :: r => if c = 10 then (if cr then unl false r else 13 :: 10 :: unl false r) else if c = 13 then 13 :: 10 :: unl true r else c :: unl false r
theorem unl_cr {l : List Nat} (h : ∀ r, l ≠ 10 :: r) : unl true l = unl false l := by
  cases l with
  | nil => rfl
  | cons c r =>
    have hc : c ≠ 10 := fun e => h r (by rw [e])
    rw [unl, unl, if_neg hc, if_neg hc]
def find2 (text : Array Nat) (p : Nat) : Option (Nat × Nat) := (nextF (fun i => decide (nl text i)) (text.size - p) p).map fun i => (i, nlEnd text text.size i)
theorem nlEnd_in {text : Array Nat} {lim i : Nat} (h : i < lim) : i < nlEnd text lim i ∧ nlEnd text lim i ≤ lim := by
  unfold nlEnd; split <;> omega
theorem finder2 {text : Array Nat} : Finder code2 text (find2 text) := by
  intro p must hp
  constructor
  · intro i j h
    unfold find2 at h
    cases hn : nextF (fun i => decide (nl text i)) (text.size - p) p with
    | none => rw [hn] at h; cases h
    | some i' =>
      rw [hn] at h
      cases h
      obtain ⟨h1, h2, h3, h4⟩ := nextF_some hn
      have := nlEnd_in (text := text) (lim := text.size) (i := i) (by omega)
      refine ⟨h1, this.1, this.2, (search2_some h1 (by omega) (of_decide_eq_true h3) fun q a b => of_decide_eq_false (h4 q a b)).mono (by omega)⟩
  · intro h
    unfold find2 at h
    cases hn : nextF (fun i => decide (nl text i)) (text.size - p) p with
    | none => exact (search2_none fun q a b => of_decide_eq_false (nextF_none hn q a (by omega))).mono (by omega)
    | some i' => rw [hn] at h; cases h
theorem getD_list (l : List Nat) (i : Nat) (h : i < l.length) : l.toArray.getD i 0 = l[i] := by simp [Array.getD, h]
theorem unl_step {c : Nat} {r : List Nat} (h : ¬ (c = 10 ∨ c = 13)) : unl false (c :: r) = c :: unl false r := by
  rw [unl, if_neg (fun e => h (.inl e)), if_neg (fun e => h (.inr e))]
theorem out2 (l : List Nat) : outF l (find2 l.toArray) [13, 10] (l.length + 1) 0 = unl false l := by
  have := outF_eq (text := l) (find := find2 l.toArray) (repl := [13, 10]) (fun p => unl false (l.drop p)) ?_ ?_ (l.length + 1) 0 (by omega) (by omega)
  · simpa using this
  · intro p hp h
    have hn : nextF (fun i => decide (nl l.toArray i)) (l.toArray.size - p) p = none := by
      unfold find2 at h
      cases hn : nextF (fun i => decide (nl l.toArray i)) (l.toArray.size - p) p with
      | none => rfl
      | some i' => rw [hn] at h; cases h
    have hno := nextF_none hn
    have := walkD (text := l) (D := fun p => unl false (l.drop p)) (i := l.length) (Nat.le_refl _) (l.length - p) p (by omega) (fun q a b => ⟨b, by
      have h1 := of_decide_eq_false (hno q a (by simp; omega))
      rw [nl, getD_list l q b] at h1
      show unl false (l.drop q) = _
      rw [List.drop_eq_getElem_cons b, unl_step h1]⟩)
    rw [this]
    simp [unl]
    exact List.take_of_length_le (by simp)
  · intro p i j hp h
    unfold find2 at h
    cases hn : nextF (fun i => decide (nl l.toArray i)) (l.toArray.size - p) p with
    | none => rw [hn] at h; cases h
    | some i' =>
      rw [hn] at h
      cases h
      obtain ⟨h1, h2, h3, h4⟩ := nextF_some hn
      have hil : i < l.length := by simp at h2; omega
      have hj := nlEnd_in (text := l.toArray) (lim := l.toArray.size) (i := i) (by simpa using hil)
      refine ⟨by omega, by simpa using hj.2, ?_⟩
      have hw := walkD (text := l) (D := fun p => unl false (l.drop p)) (i := i) (by omega) (i - p) p (by omega) (fun q a b => ⟨by omega, by
        have h5 := of_decide_eq_false (h4 q a b)
        rw [nl, getD_list l q (by omega)] at h5
        show unl false (l.drop q) = _
        rw [List.drop_eq_getElem_cons (by omega), unl_step h5]⟩)
      rw [hw, List.append_assoc]
      congr 1
      show unl false (l.drop i) = [13, 10] ++ unl false (l.drop (nlEnd l.toArray l.toArray.size i))
      have h6 := of_decide_eq_true h3
      rw [nl, getD_list l i hil] at h6
      have hsz : l.toArray.size = l.length := by simp
      unfold nlEnd
      rw [getD_list l i hil, hsz, List.drop_eq_getElem_cons hil]
      rcases h6 with h6 | h6
      · rw [if_neg (by omega), unl, if_pos h6]; rfl
      · rw [unl, if_neg (by omega), if_pos h6]
        by_cases hi1 : i + 1 < l.length ∧ l.toArray.getD (i + 1) 0 = 10
        · have h10 := hi1.2
          rw [getD_list l _ hi1.1] at h10
          rw [if_pos ⟨h6, hi1⟩, List.drop_eq_getElem_cons hi1.1, unl, if_pos h10]
          rfl
        · rw [if_neg (fun e => hi1 e.2), unl_cr]
          · rfl
          · intro r e
            have hlt : i + 1 < l.length := by
              have := congrArg List.length e
              simp at this; omega
            rw [List.drop_eq_getElem_cons hlt] at e
            injection e with e1 e2
            exact hi1 ⟨hlt, by rw [getD_list l _ hlt]; exact e1⟩
/- pattern 1: a dot at a line's beginning -/
def dots (bol : Bool) : List Nat → List Nat
  | [] => []
  | c :: r => if bol = true ∧ c = 46 then 46 :: 46 :: dots false r else c :: dots (c == 10) r
def bolAt (text : Array Nat) (i : Nat) : Bool := i == 0 || text.getD (i - 1) 0 == 10
def hitB (text : Array Nat) (i : Nat) : Bool := bolAt text i && decide (i < text.size) && (text.getD i 0 == 46)
theorem hitB_iff {text : Array Nat} {i : Nat} : hitB text i = true ↔ hit1 text text.size i := by
  unfold hitB hit1 bolAt
  simp [and_assoc]
def find1 (text : Array Nat) (p : Nat) : Option (Nat × Nat) := (nextF (hitB text) (text.size - p) p).map fun i => (i, i + 1)
theorem finder1 {text : Array Nat} (hsz : text.size ≤ 1000) : Finder code1 text (find1 text) := by
  intro p must hp
  constructor
  · intro i j h
    unfold find1 at h
    cases hn : nextF (hitB text) (text.size - p) p with
    | none => rw [hn] at h; cases h
    | some i' =>
      rw [hn] at h
      cases h
      obtain ⟨h1, h2, h3, h4⟩ := nextF_some hn
      refine ⟨h1, by omega, by omega, ?_⟩
      rw [search1_at (by omega)]
      exact (at1_some (hitB_iff.mp h3) (i - p) (by omega) fun q a b e => by have := h4 q a b; rw [hitB_iff.mpr e] at this; cases this).mono (by omega)
  · intro h
    unfold find1 at h
    cases hn : nextF (hitB text) (text.size - p) p with
    | none =>
      by_cases hpl : p < text.size
      · rw [search1_at hpl]
        refine (at1_none (text.size - p) (by omega) fun q a e => ?_).mono (by omega)
        have := nextF_none hn q a (by have := e.2.1; omega)
        rw [hitB_iff.mpr e] at this; cases this
      · exact (search1_over hpl).mono (by omega)
    | some i' => rw [hn] at h; cases h
theorem dots_step {l : List Nat} {q : Nat} (hq : q < l.length) (h : hitB l.toArray q = false) : dots (bolAt l.toArray q) (l.drop q) = l[q] :: dots (bolAt l.toArray (q + 1)) (l.drop (q + 1)) := by
  rw [List.drop_eq_getElem_cons hq, dots]
  have hne : ¬ (bolAt l.toArray q = true ∧ l[q] = 46) := by
    intro e
    have : hitB l.toArray q = true := by
      unfold hitB
      rw [e.1, getD_list l q hq, e.2]
      simp [hq]
    rw [this] at h; cases h
  rw [if_neg hne]
  have : bolAt l.toArray (q + 1) = (l[q] == 10) := by
    unfold bolAt
    rw [Nat.add_sub_cancel, getD_list l q hq]
    simp
  rw [this]
theorem out1 (l : List Nat) : outF l (find1 l.toArray) [46, 46] (l.length + 1) 0 = dots true l := by
  have := outF_eq (text := l) (find := find1 l.toArray) (repl := [46, 46]) (fun p => dots (bolAt l.toArray p) (l.drop p)) ?_ ?_ (l.length + 1) 0 (by omega) (by omega)
  · simpa [bolAt] using this
  · intro p hp h
    have hn : nextF (hitB l.toArray) (l.toArray.size - p) p = none := by
      unfold find1 at h
      cases hn : nextF (hitB l.toArray) (l.toArray.size - p) p with
      | none => rfl
      | some i' => rw [hn] at h; cases h
    have hno := nextF_none hn
    have := walkD (text := l) (D := fun p => dots (bolAt l.toArray p) (l.drop p)) (i := l.length) (Nat.le_refl _) (l.length - p) p (by omega) (fun q a b => ⟨b, dots_step b (hno q a (by simp; omega))⟩)
    rw [this]
    simp [dots]
    exact List.take_of_length_le (by simp)
  · intro p i j hp h
    unfold find1 at h
    cases hn : nextF (hitB l.toArray) (l.toArray.size - p) p with
    | none => rw [hn] at h; cases h
    | some i' =>
      rw [hn] at h
      cases h
      obtain ⟨h1, h2, h3, h4⟩ := nextF_some hn
      have hil : i < l.length := by simp at h2; omega
      refine ⟨by omega, by omega, ?_⟩
      have hw := walkD (text := l) (D := fun p => dots (bolAt l.toArray p) (l.drop p)) (i := i) (by omega) (i - p) p (by omega) (fun q a b => ⟨by omega, dots_step (by omega) (h4 q a b)⟩)
      rw [hw, List.append_assoc]
      congr 1
      have h5 := hitB_iff.mp h3
      have hb : bolAt l.toArray i = true := h5.1
      have hc := h5.2.2
      rw [getD_list l i hil] at hc
      have hb2 : bolAt l.toArray (i + 1) = false := by
        unfold bolAt
        rw [Nat.add_sub_cancel, getD_list l i hil, hc]
        rfl
      show dots (bolAt l.toArray i) (l.drop i) = [46, 46] ++ dots (bolAt l.toArray (i + 1)) (l.drop (i + 1))
      rw [List.drop_eq_getElem_cons hil, dots, if_pos ⟨hb, hc⟩, hb2]
      rfl
/- the two in turn upon rows -/
def joinL (sep : List Nat) : List (List Nat) → List Nat
  | [] => []
  | [r] => r
  | r :: r' :: rs => r ++ sep ++ joinL sep (r' :: rs)
def Plain (r : List Nat) : Prop := ∀ c ∈ r, c ≠ 10 ∧ c ≠ 13
theorem unl_plain {r : List Nat} (h : Plain r) (b : Bool) : ∀ q, (r ≠ [] ∨ b = false) → unl b (r ++ q) = r ++ unl false q := by
  induction r generalizing b with
  | nil => intro q hb; rcases hb with hb | hb; exact absurd rfl hb; rw [hb]; rfl
  | cons c r ih =>
    intro q _
    have hc := h c (by simp)
    rw [List.cons_append, unl, if_neg hc.1, if_neg hc.2, ih (fun c' h' => h c' (by simp [h'])) false q (.inr rfl)]
    rfl
theorem unl_rows {sep : List Nat} (hsep : sep = [10] ∨ sep = [13] ∨ sep = [13, 10]) : ∀ (rows : List (List Nat)), (∀ r ∈ rows, Plain r ∧ r ≠ []) → ∀ b : Bool, unl b (joinL sep rows) = joinL [13, 10] rows
  | [], _, _ => rfl
  | [r], h, b => by
    have := unl_plain (h r (by simp)).1 b [] (.inl (h r (by simp)).2)
    simpa [unl, joinL] using this
  | r :: r' :: rs, h, b => by
    have hr := h r (by simp)
    have ih := unl_rows hsep (r' :: rs) (fun x hx => h x (by simp [hx]))
    rw [joinL, joinL, List.append_assoc, unl_plain hr.1 b _ (.inl hr.2), List.append_assoc]
    congr 1
    rcases hsep with rfl | rfl | rfl
    · show unl false (10 :: joinL [10] (r' :: rs)) = _
      rw [unl, if_pos rfl, ih]; rfl
    · show unl false (13 :: joinL [13] (r' :: rs)) = _
      rw [unl, if_neg (by omega), if_pos rfl, ih]; rfl
    · show unl false (13 :: 10 :: joinL [13, 10] (r' :: rs)) = _
      rw [unl, if_neg (by omega), if_pos rfl, unl, if_pos rfl, if_pos rfl, ih]; rfl
def quo (r : List Nat) : List Nat := match r with | 46 :: _ => 46 :: r | _ => r
theorem dots_plain {r : List Nat} (h : Plain r) : ∀ q, dots false (r ++ q) = r ++ dots false q := by
  induction r with
  | nil => intro q; rfl
  | cons c r ih =>
    intro q
    have hc := h c (by simp)
    rw [List.cons_append, dots, if_neg (by simp), show (c == 10) = false by simpa using hc.1, ih (fun c' h' => h c' (by simp [h'])) q]
    rfl
theorem dots_row {r : List Nat} (h : Plain r) (hne : r ≠ []) (q : List Nat) : dots true (r ++ q) = quo r ++ dots false q := by
  cases r with
  | nil => exact absurd rfl hne
  | cons c r =>
    have hr : Plain r := fun c' h' => h c' (by simp [h'])
    have hd' := dots_plain hr q
    by_cases hc : c = 46
    · subst hc
      rw [List.cons_append, dots, if_pos ⟨rfl, rfl⟩, hd']
      rfl
    · have h10 := (h c (by simp)).1
      rw [List.cons_append, dots, if_neg (fun e => hc e.2), show (c == 10) = false by simpa using h10, hd']
      have : quo (c :: r) = c :: r := by
        unfold quo
        split
        · rename_i e; injection e with e1 e2; exact absurd e1 hc
        · rfl
      rw [this]; rfl
theorem dots_rows : ∀ (rows : List (List Nat)), (∀ r ∈ rows, Plain r ∧ r ≠ []) → dots true (joinL [13, 10] rows) = joinL [13, 10] (rows.map quo)
  | [], _ => rfl
  | [r], h => by
    have := dots_row (h r (by simp)).1 (h r (by simp)).2 []
    simpa [dots, joinL] using this
  | r :: r' :: rs, h => by
    have hr := h r (by simp)
    have ih := dots_rows (r' :: rs) (fun x hx => h x (by simp [hx]))
    rw [joinL, List.append_assoc, dots_row hr.1 hr.2, List.map_cons, List.map_cons, joinL, List.append_assoc]
    congr 1
    show dots false (13 :: 10 :: joinL [13, 10] (r' :: rs)) = _
    rw [dots, if_neg (by simp), dots, if_neg (by simp)]
    show 13 :: 10 :: dots true (joinL [13, 10] (r' :: rs)) = _
    rw [ih]; rfl
end Mine
/- Quote -/
set_option maxRecDepth 100000
set_option maxHeartbeats 8000000
namespace Mine
theorem filledQ : PySem.Challenge.rw_pa0022_01 = PySem.Challenge.rw_pa0022_01 ∧ hd.heap_39 = hd.heap_39 := by k_fill; exact ⟨rfl, rfl⟩
theorem pat1_at {P : Params} {h : Heap} (X : (hd.heap_39 P).In h) : PatAt h 43 42 code1 := ⟨⟨_, _, _, _, _, X 43 _ (by k_is), rfl, rfl, rfl, rfl, rfl, rfl, X 42 _ (by k_is), rfl, by decide +kernel⟩⟩
theorem pat2_at {P : Params} {h : Heap} (X : (hd.heap_39 P).In h) : PatAt h 48 47 code2 := ⟨⟨_, _, _, _, _, X 48 _ (by k_is), rfl, rfl, rfl, rfl, rfl, rfl, X 47 _ (by k_is), rfl, by decide +kernel⟩⟩
section
variable {prog : Program} {w : World} {A : Around} {E : Value → Shared → Prop} {s : Shared} {h₀ : Heap} {L : Addr} {m : Str → Option Value} {news : List (Addr × Obj)}
theorem sub2_txt {P : Params} {l : List Nat} {tr tx : Tok} {Q : Value → Shared → Prop} (hl : l.length ≤ 1000) (F : Fr h₀ L s.heap m) (N : News h₀ L s.heap news) (X : (hd.heap_39 P).In h₀)
    (k : ∀ h' t tk, Fr h₀ L h' m → News h₀ L h' news → Q (.str (txt (unl false l)) t) { s with heap := h', toks := tk }) :
    wpAny (model prog w) A (call (.builtin "re.Pattern.sub") [.ref 48, .str (Str.ofString "\r\n") tr, .str (txt l) tx]) Q E s := by
  refine pattern_sub (find := find2 l.toArray) (by simpa using hl) (by decide) (by decide +kernel) finder2 (pat2_at (X.keeps F.keep)) fun h' t tk hk => ?_
  have e : outF (txt l).cps.toList (find2 l.toArray) (Str.ofString "\r\n").cps.toList ((txt l).cps.size + 1) 0 = unl false l := by
    rw [← out2 l]
    rfl
  rw [e]
  exact k h' t tk (F.keeps hk) (N.grown hk)
theorem sub1_txt {P : Params} {l : List Nat} {tr tx : Tok} {Q : Value → Shared → Prop} (hl : l.length ≤ 1000) (F : Fr h₀ L s.heap m) (N : News h₀ L s.heap news) (X : (hd.heap_39 P).In h₀)
    (k : ∀ h' t tk, Fr h₀ L h' m → News h₀ L h' news → Q (.str (txt (dots true l)) t) { s with heap := h', toks := tk }) :
    wpAny (model prog w) A (call (.builtin "re.Pattern.sub") [.ref 43, .str (Str.ofString "..") tr, .str (txt l) tx]) Q E s := by
  refine pattern_sub (find := find1 l.toArray) (by simpa using hl) (by decide) (by decide +kernel) (finder1 (by simpa using hl)) (pat1_at (X.keeps F.keep)) fun h' t tk hk => ?_
  have e : outF (txt l).cps.toList (find1 l.toArray) (Str.ofString "..").cps.toList ((txt l).cps.size + 1) 0 = dots true l := by
    rw [← out1 l]
    rfl
  rw [e]
  exact k h' t tk (F.keeps hk) (N.grown hk)
end
local macro_rules | `(tactic| k_room) => `(tactic| ktr_room)
local macro_rules | `(tactic| walk_at "getMethod ref") => `(tactic| ((with_reducible show wpAny _ _ (getMethod (Value.ref _) (PySem.Str.ofString "sub") _) _ _ _); k_dflt (first | refine method_sub (pat1_at (by k_in)) ?_ | refine method_sub (pat2_at (by k_in)) ?_)))
local macro_rules | `(tactic| walk_at "call builtin:re.Pattern.sub") => `(tactic| (k_dflt ((first | refine' sub1_txt ?hl ?F ?N ?X ?_ | refine' sub2_txt ?hl ?F ?N ?X ?_); (case F => k_asm); (case N => k_asm); (case X => k_asm); (case hl => first | assumption | omega); intro h' t' tk' F' N'; (try k_sweep); (try dsimp only))))
theorem unl_length (b : Bool) (l : List Nat) : (unl b l).length ≤ 2 * l.length := by
  induction l generalizing b with
  | nil => simp [unl]
  | cons c r ih =>
    rw [unl]
    split
    · split
      · have := ih false; simp; omega
      · have := ih false; simp; omega
    · split
      · have := ih true; simp; omega
      · have := ih false; simp; omega
theorem quotedata_con (w : World) (l : List Nat) (tb : Tok) (hl : l.length ≤ 500) : Con 1 w 55 [.str (txt l) tb] [] (fun t => .str (txt (dots true (unl false l))) t) := by
  w_on
  unfold Con
  intro prog p loose mean mg mb dp un gd cn cs a ccd cl outer A₀ base h₀ L m news s Q E B F X N T hk hdp hun hret
  have hl2 : (unl false l).length ≤ 1000 := by have := unl_length false l; omega
  have hl1 : l.length ≤ 1000 := by omega
  refine wpAny_call ?_
  k_dflt cell_enter
  k_steps
  exact hret _ _ _ (by k_asm) (by k_asm)
end Mine
/- Comp -/
set_option maxRecDepth 100000
set_option maxHeartbeats 4000000
namespace Mine
open PySem.Spec PySem.Calls LCg
section
variable {prog : Program} {w : World} {A : Around} {E : Value → Shared → Prop} {s : Shared} {h₀ : Heap} {L : Addr} {m : Str → Option Value} {env : Env}
/-- a comprehension's source that is a range by any step -/
def StepSrc (prog : Program) (w : World) (A : Around) (h₀ : Heap) (L : Addr) (m : Str → Option Value) (env : Env) (elt : Expr) (x : Str) (scope : Scope) (cl : List (Str × Addr)) (Fin : Shared → List Value → List (Addr × Obj) → Prop) (xv : Value) (s₁ : Shared) : Prop :=
  ∃ r a b c t u v n news, xv = .ref r ∧ A.handled = none ∧ Fr h₀ L s₁.heap m ∧ News h₀ L s₁.heap news ∧ IsRange s₁.heap r a b c t u v ∧ Builtin.Range.small a b c = true ∧ Builtin.Range.rangeSize a b c = ((n : Nat) : Int) ∧ n ≤ sizeLine ∧
    ∀ s₂ : Shared, (∃ h, s₂ = { s₁ with heap := h }) → CompRest prog w A h₀ L m env elt x scope cl s₂ (fun _ => True) (fun i v => ∃ t, v = .int (a + (i : Int) * c) t) (Fin s₂) n 0 [] news
theorem step_block {elt iter : Expr} {x : Str} {px : Pos} {scope : Scope} {cl : List (Str × Addr)} {pos : Pos} {s₁ : Shared} {r : Addr} {a b c : Int} {t u v : Tok} {n : Nat} {news : List (Addr × Obj)} {Fin : Shared → List Value → List (Addr × Obj) → Prop} {RR : Value → Addr → Result → Shared → Prop}
    (hh : A.handled = none) (F : Fr h₀ L s₁.heap m) (N : News h₀ L s₁.heap news) (hr : IsRange s₁.heap r a b c t u v) (hsm : Builtin.Range.small a b c = true) (hn : Builtin.Range.rangeSize a b c = ((n : Nat) : Int)) (hsz : n ≤ sizeLine)
    (hcell : ∀ y ∈ scope.names, y.2 ≠ .cell) (hkind : scope.kind = .function) (hx : scope.names.lookup x = some .local)
    (R : ∀ s₂ : Shared, (∃ h, s₂ = { s₁ with heap := h }) → CompRest prog w A h₀ L m env elt x scope cl s₂ (fun _ => True) (fun i v => ∃ t, v = .int (a + (i : Int) * c) t) (Fin s₂) n 0 [] news)
    (hRR : ∀ s₂ D C h tk m' ys news', (∃ h, s₂ = { s₁ with heap := h }) → Fr h₀ L h m → News h₀ L h ((D, lst ys) :: news') → Off1 D news' → h.Ns C m' → h₀.get? C = none → h₀.get? D = none → C ≠ L → D ≠ L → C ≠ D → (∀ p ∈ news', p.1 ≠ C) → Fin s₂ ys news' → RR (.ref D) C (.ok .next) { s₂ with heap := h, toks := tk }) :
    wpAny (model prog w) A (pyIter (.ref r)) (fun it s₂ => wpAny (model prog w) A (newList []) (fun acc s₃ => wpAny (model prog w) A (newFunctionEnv scope env.globals cl [] env.qual none .none (some env)) (fun cenv s₄ =>
      codeAny (model prog w) A (.compStart (.ListComp elt [⟨.Name x px, iter, [], 0⟩] scope pos) 0 it acc { cenv with scope := relabel scope env }) (RR acc cenv.locals) s₄) E s₃) E s₂) E s₁ := by
  refine wpAny_pyIter_range hr hsm ?_
  refine block_U (Walks.range hh s₁.heap.objs.size a c n) hsz (fun i h st => ⟨_, st⟩) (fun i h h' o nw st e e' _ _ _ => ?_) hcell hkind hx (by show IsRangeIter _ _ _ _ _; rw [hn]; simpa using Heap.get?_push_size _ rfl) (fun b hb => ?_)
    (F.keeps fun _ _ e => Heap.get?_push_of_some _ e) (N.grown fun _ _ e => Heap.get?_push_of_some _ e) (Nat.ne_of_lt F.ns.lt) (next_is_new F) (fun p hp => Nat.ne_of_lt (Heap.lt_size (N p hp).1)) trivial (R _ ⟨_, rfl⟩) ?_
  · have st' : h.get? s₁.heap.objs.size = some _ := st
    show h'.get? s₁.heap.objs.size = some _
    rw [e', ← e]; exact st'
  · rw [List.mem_singleton.mp hb]
    show s₁.heap.objs.size < (s₁.heap.push _).objs.size
    rw [Heap.size_push]; exact Nat.lt_succ_self _
  · intro D C h tk m' ys news' F' N' o1 hn hC₀ hD₀ hCL hDL hCD offC fin
    exact hRR _ D C h tk m' ys news' ⟨_, rfl⟩ F' N' o1 hn hC₀ hD₀ hCL hDL hCD offC fin
theorem ListComp_step {elt iter : Expr} {x : Str} {px : Pos} {scope : Scope} {cl : List (Str × Addr)} {pos : Pos} {Q : Value → Shared → Prop} (F₀ : Fr h₀ L s.heap m)
    (hclos : closureFor scope env = pure cl) (hcell : ∀ y ∈ scope.names, y.2 ≠ .cell) (hkind : scope.kind = .function)
    (hnames : ∀ y ∈ scope.names, y.2 = .local → scope.names.lookup y.1 = some .local) (hx : scope.names.lookup x = some .local)
    (h : wpAny (model prog w) A (eval iter env) (StepSrc prog w A h₀ L m env elt x scope cl (fun s₂ => FinE h₀ L m s₂ Q)) E s)
    (hs : ∀ x, foldedSetIterable iter env x = pure x := by intro _; rfl) :
    wpAny (model prog w) A (eval (.ListComp elt [⟨.Name x px, iter, [], 0⟩] scope pos) env) Q E s := by
  rw [eval_ListComp]
  refine wpAny_comprehension_free (use := none) rfl hs hclos hkind hnames (wpAny_mono h (fun xv s₁ h₁ => ?_) fun _ _ e => e)
  obtain ⟨r, a, b, c, t, u, v, n, news, rfl, hh, F, N, hr, hsm, hn, hsz, R⟩ := h₁
  refine step_block (RR := fun acc C => compPost (model prog w) A E none Q acc C) hh F N hr hsm hn hsz hcell hkind hx R ?_
  intro s₂ D C h tk m' ys news' hs₂ F' N' o1 hn hC₀ hD₀ hCL hDL hCD offC fin
  refine ⟨m', hn, fun h'' hs'' => fin D h'' tk (F'.change hs'' hCL hC₀) (fun p hp => ?_) o1⟩
  refine ⟨hs''.extBut _ _ ?_ (N' p hp).1, (N' p hp).2⟩
  rcases List.mem_cons.mp hp with rfl | hp
  · exact Ne.symm hCD
  · exact offC p hp
theorem Assign_step {elt iter : Expr} {x y : Str} {px py : Pos} {scope : Scope} {cl : List (Str × Addr)} {pos spos : Pos} {Q : Flow → Shared → Prop} (F₀ : Fr h₀ L s.heap m) (hLe : env.locals = L)
    (hsw : swapsWith (.ListComp elt [⟨.Name x px, iter, [], 0⟩] scope pos) (some (.Name y py)) spos.line env = pure true)
    (hclos : closureFor scope env = pure cl) (hcell : ∀ z ∈ scope.names, z.2 ≠ .cell) (hkind : scope.kind = .function)
    (hnames : ∀ z ∈ scope.names, z.2 = .local → scope.names.lookup z.1 = some .local) (hx : scope.names.lookup x = some .local)
    (hy : env.kindOf y = some .local) (hp : (env.scope.kind == .class || (env.scope.kind == .module && env.locals != env.globals)) = false)
    (h : wpAny (model prog w) A (eval iter env) (StepSrc prog w A h₀ L m env elt x scope cl (fun s₂ => FinA h₀ L m s₂ y Q)) E s)
    (hs : ∀ x, foldedSetIterable iter env x = pure x := by intro _; rfl) :
    wpAny (model prog w) A (exec (.Assign [.Name y py] (.ListComp elt [⟨.Name x px, iter, [], 0⟩] scope pos) spos) env) Q E s := by
  subst hLe
  rw [exec_Assign_Name_used _ _ _ _ hsw]
  refine wpAny_bind (wpAny_standAt (wpAny_bind ?_))
  show wpAny _ A (do let _ ← comprehension (.ListComp elt [⟨.Name x px, iter, [], 0⟩] scope pos) scope env _ (newList []) false (eval iter env) (some (assign (.Name y py) env))) _ _ s
  refine wpAny_bind (wpAny_mono (wpAny_comprehension_free (use := some (assign (.Name y py) env)) (Q := fun _ s' => Q .next s') rfl hs hclos hkind hnames
    (wpAny_mono h (fun xv s₁ h₁ => ?_) fun _ _ e => e)) (fun _ s' hq => wpAny_pure (wpAny_pure hq)) fun _ _ e => e)
  obtain ⟨r, a, b, c, t, u, v, n, news, rfl, hh, F, N, hr, hsm, hn, hsz, R⟩ := h₁
  refine step_block (RR := fun acc C => compPost (model prog w) A E (some (assign (.Name y py) env)) (fun _ s' => Q .next s') acc C) hh F N hr hsm hn hsz hcell hkind hx R ?_
  intro s₂ D C h' tk m' ys news' hs₂ F' N' o1 hn hC₀ hD₀ hCL hDL hCD offC fin
  show wpAny _ A (assign (.Name y py) env (.ref D)) _ _ _
  refine wpAny_assign_Name (wpAny_storeName_local hy F'.ns (fun h₂ hn₂ hs₂ => ?_) hp)
  have hL₀ : h₀.get? env.locals = none := Heap.get?_none_of_le F'.above
  have F₂ : Fr h₀ env.locals h₂ (fun z => if z = y then some (.ref D) else m z) := ⟨hn₂, fun b o e => hs₂.extBut b o (fun q => by rw [q, hL₀] at e; cases e) (F'.keep b o e), F'.above⟩
  refine ⟨m', hn.sameBut hs₂ hCL, fun h'' hs'' => fin D h'' _ (F₂.change hs'' hCL hC₀) (fun p hp => ?_) o1⟩
  have z : h₂.get? p.1 = some p.2 := hs₂.extBut _ _ (N' p hp).2.1 (N' p hp).1
  refine ⟨hs''.extBut _ _ ?_ z, (N' p hp).2⟩
  rcases List.mem_cons.mp hp with rfl | hp
  · exact Ne.symm hCD
  · exact offC p hp
end
end Mine
/- SplitL -/
set_option maxRecDepth 100000
set_option maxHeartbeats 4000000
namespace Mine
open PySem.Builtin PySem.Builtin.Str PySem.StrLaws
def pos13 (off : Nat) : List Nat → List Nat
  | [] => []
  | c :: r => if c = 13 then off :: pos13 (off + 1) r else pos13 (off + 1) r
/-- a return is always followed by a feed -/
def Paired13 (l : List Nat) : Prop := ∀ i, l[i]? = some 13 → l[i + 1]? = some 10
abbrev crlfS : PySem.Str := Str.ofString "\r\n"
theorem crlf_list : crlfS.cps.toList = [13, 10] := by decide
theorem crlf_len : crlfS.length = 2 := by decide
theorem sub_at13 {l : List Nat} (h : Paired13 l) (i : Nat) : (i + crlfS.length ≤ (⟨l.toArray⟩ : PySem.Str).length ∧ subAt ⟨l.toArray⟩ crlfS i = true) ↔ l[i]? = some 13 := by
  rw [subAt_eq, crlf_list, crlf_len]
  show i + 2 ≤ l.toArray.size ∧ ((l.drop i).take 2 == [13, 10]) = true ↔ _
  rw [List.size_toArray]
  constructor
  · rintro ⟨h1, h2⟩
    have h2' : (l.drop i).take 2 = [13, 10] := by simpa using h2
    rw [List.drop_eq_getElem_cons (by omega)] at h2'
    simp only [List.take_succ_cons] at h2'
    injection h2' with e _
    rw [List.getElem?_eq_getElem (by omega), e]
  · intro h1
    have h2 := h i h1
    have hl : i + 1 < l.length := by
      rcases Nat.lt_or_ge (i + 1) l.length with h3 | h3
      · exact h3
      · rw [List.getElem?_eq_none h3] at h2; cases h2
    refine ⟨by omega, ?_⟩
    rw [List.getElem?_eq_getElem (by omega)] at h1
    rw [List.getElem?_eq_getElem hl] at h2
    rw [List.drop_eq_getElem_cons (by omega), List.drop_eq_getElem_cons hl]
    simp only [List.take_succ_cons, List.take_zero]
    rw [Option.some.inj h1, Option.some.inj h2]
    rfl
theorem occ_go {l : List Nat} (h : Paired13 l) : ∀ (r : List Nat) (i : Nat) (found : Array Nat) (free : Nat), l.drop i = r → (free ≤ i ∨ (free = i + 1 ∧ r.head? ≠ some 13)) → found.size + r.length ≤ l.length →
    (forIn (List.range' i (r.length + 1)) (found, free) (occBody ⟨l.toArray⟩ crlfS (⟨l.toArray⟩ : PySem.Str).length ((⟨l.toArray⟩ : PySem.Str).length + 1))).run.fst.toList = found.toList ++ pos13 i r := by
  intro r
  induction r with
  | nil =>
    intro i found free hr hf hs
    have hno : ¬ (i + crlfS.length ≤ (⟨l.toArray⟩ : PySem.Str).length ∧ subAt ⟨l.toArray⟩ crlfS i = true) := by
      rw [sub_at13 h]
      have hl : l.length ≤ i := by have := congrArg List.length hr; simp at this; omega
      rw [List.getElem?_eq_none hl]; simp
    show (Id.run (forIn (m := Id) [i] (found, free) _)).fst.toList = _
    rw [List.forIn_cons]
    unfold occBody
    rw [if_neg (fun e => hno ⟨e.1.2, e.2⟩)]
    simp [pos13]
  | cons c r ih =>
    intro i found free hr hf hs
    have hi : i < l.length := by have := congrArg List.length hr; simp at this; omega
    have hc : l[i]? = some c := by
      rw [List.drop_eq_getElem_cons hi] at hr
      injection hr with e _
      rw [List.getElem?_eq_getElem hi, e]
    have hr' : l.drop (i + 1) = r := by
      rw [List.drop_eq_getElem_cons hi] at hr
      injection hr
    have hat := sub_at13 h i
    rw [hc] at hat
    rw [List.length_cons, List.range'_succ, List.forIn_cons]
    by_cases h13 : c = 13
    · subst h13
      have hyes := hat.mpr rfl
      have hfr : free ≤ i := by rcases hf with hf | hf; exact hf; exact absurd rfl hf.2
      have hsz : found.size < (⟨l.toArray⟩ : PySem.Str).length + 1 := by show found.size < l.toArray.size + 1; simp at hs ⊢; omega
      have e : occBody ⟨l.toArray⟩ crlfS (⟨l.toArray⟩ : PySem.Str).length ((⟨l.toArray⟩ : PySem.Str).length + 1) i (found, free) = pure (ForInStep.yield (found.push i, i + crlfS.length)) := by
        unfold occBody
        rw [if_pos ⟨⟨⟨hsz, hfr⟩, hyes.1⟩, hyes.2⟩]
      rw [e]
      have h10 := h i hc
      have := ih (i + 1) (found.push i) (i + crlfS.length) hr' (.inr ⟨by rw [crlf_len], by
        rw [← hr', List.head?_drop, h10]; simp⟩) (by simp at hs ⊢; omega)
      show (Id.run (forIn (m := Id) (List.range' (i + 1) (r.length + 1)) (found.push i, i + crlfS.length) _)).fst.toList = _
      rw [this, pos13, if_pos rfl]
      simp
    · have hno : ¬ (i + crlfS.length ≤ (⟨l.toArray⟩ : PySem.Str).length ∧ subAt ⟨l.toArray⟩ crlfS i = true) := by rw [hat]; simpa using h13
      have e : occBody ⟨l.toArray⟩ crlfS (⟨l.toArray⟩ : PySem.Str).length ((⟨l.toArray⟩ : PySem.Str).length + 1) i (found, free) = pure (ForInStep.yield (found, free)) := by
        unfold occBody
        rw [if_neg (fun e => hno ⟨e.1.2, e.2⟩)]
      rw [e]
      have := ih (i + 1) found free hr' (.inl (by rcases hf with hf | hf <;> omega)) (by simp at hs ⊢; omega)
      show (Id.run (forIn (m := Id) (List.range' (i + 1) (r.length + 1)) (found, free) _)).fst.toList = _
      rw [this, pos13, if_neg h13]
theorem occ13 {l : List Nat} (h : Paired13 l) : occurrences ⟨l.toArray⟩ crlfS 0 (⟨l.toArray⟩ : PySem.Str).length ((⟨l.toArray⟩ : PySem.Str).length + 1) = pos13 0 l := by
  rw [occ_eq]
  have := occ_go h l 0 #[] 0 (by simp) (.inl (Nat.le_refl _)) (by simp)
  have e : (⟨l.toArray⟩ : PySem.Str).length + 1 - 0 = l.length + 1 := by show l.toArray.size + 1 - 0 = _; simp
  rw [e]
  simpa using this
theorem pos13_plain {r : List Nat} (h : Plain r) : ∀ (off : Nat) (q : List Nat), pos13 off (r ++ q) = pos13 (off + r.length) q := by
  induction r with
  | nil => intro off q; rfl
  | cons c r ih =>
    intro off q
    rw [List.cons_append, pos13, if_neg (h c (by simp)).2, ih (fun c' h' => h c' (by simp [h'])), List.length_cons]
    congr 1; omega
theorem joinL_cons2 (sep r r' : List Nat) (rs : List (List Nat)) : joinL sep (r :: r' :: rs) = r ++ (sep ++ joinL sep (r' :: rs)) := by rw [joinL, List.append_assoc]
theorem paired_rows : ∀ (rows : List (List Nat)), (∀ r ∈ rows, Plain r) → Paired13 (joinL [13, 10] rows)
  | [], _ => by intro i h; simp [joinL] at h
  | [r], h => by
    intro i hi
    simp only [joinL] at hi
    exact absurd rfl (h r (by simp) 13 (List.mem_of_getElem? hi)).2
  | r :: r' :: rs, h => by
    intro i hi
    have ih := paired_rows (r' :: rs) (fun x hx => h x (by simp [hx]))
    rw [joinL_cons2] at hi ⊢
    by_cases h1 : i < r.length
    · rw [List.getElem?_append_left h1] at hi
      exact absurd rfl (h r (by simp) 13 (List.mem_of_getElem? hi)).2
    · rw [List.getElem?_append_right (by omega)] at hi
      rw [List.getElem?_append_right (by omega)]
      obtain ⟨k, hk⟩ : ∃ k, i - r.length = k := ⟨_, rfl⟩
      rw [hk] at hi
      rw [show i + 1 - r.length = k + 1 by omega]
      match k, hi with
      | 0, _ => rfl
      | 1, hi => simp at hi
      | k + 2, hi => exact ih k (by simpa using hi)
theorem parts_rows : ∀ (rows : List (List Nat)) (l : List Nat) (a : Nat), rows ≠ [] → (∀ r ∈ rows, Plain r) → l.drop a = joinL [13, 10] rows → a ≤ l.length →
    partsFrom ⟨l.toArray⟩ 2 a (pos13 a (l.drop a)) = rows.map fun r => (⟨r.toArray⟩ : PySem.Str)
  | [], _, _, h, _, _, _ => absurd rfl h
  | [r], l, a, _, hp, e, ha => by
    have hr := hp r (by simp)
    have h13 : pos13 a (l.drop a) = [] := by
      rw [e]
      have := pos13_plain hr a []
      simpa [joinL, pos13] using this
    rw [h13]
    show [strSub ⟨l.toArray⟩ a (⟨l.toArray⟩ : PySem.Str).length] = [_]
    congr 1
    apply Str.ext'
    apply Array.toList_inj.mp
    rw [strSub_toList]
    show (l.drop a).take (l.toArray.size - a) = _
    rw [e]
    simp only [joinL]
    refine (List.take_of_length_le ?_).trans (by simp)
    have := congrArg List.length e
    simp [joinL] at this ⊢; omega
  | r :: r' :: rs, l, a, _, hp, e, ha => by
    have hr := hp r (by simp)
    have hlen : a + r.length + 2 ≤ l.length := by
      have := congrArg List.length e
      rw [joinL_cons2] at this
      simp at this; omega
    have e2 : l.drop (a + r.length + 2) = joinL [13, 10] (r' :: rs) := by
      rw [show a + r.length + 2 = a + (r.length + 2) by omega, ← List.drop_drop, e, joinL_cons2, ← List.drop_drop, List.drop_left']
      · rfl
      · rfl
    have ih := parts_rows (r' :: rs) l (a + r.length + 2) (by simp) (fun x hx => hp x (by simp [hx])) e2 hlen
    have h13 : pos13 a (l.drop a) = (a + r.length) :: pos13 (a + r.length + 2) (l.drop (a + r.length + 2)) := by
      rw [e2, e, joinL_cons2, pos13_plain hr]
      show pos13 (a + r.length) (13 :: 10 :: joinL [13, 10] (r' :: rs)) = _
      rw [pos13, if_pos rfl, pos13, if_neg (by omega)]
    rw [h13]
    show strSub ⟨l.toArray⟩ a (a + r.length) :: partsFrom ⟨l.toArray⟩ 2 (a + r.length + 2) _ = _
    rw [ih, List.map_cons]
    congr 1
    apply Str.ext'
    apply Array.toList_inj.mp
    rw [strSub_toList]
    show (l.drop a).take (a + r.length - a) = _
    rw [e, joinL_cons2, show a + r.length - a = r.length by omega]
    simp
theorem split_rows (rows : List (List Nat)) (hne : rows ≠ []) (hp : ∀ r ∈ rows, Plain r) : Txt.split ⟨(joinL [13, 10] rows).toArray⟩ crlfS = rows.map fun r => (⟨r.toArray⟩ : PySem.Str) := by
  have hk : Builtin.Str.strKind crlfS = 1 := by decide +kernel
  have hk2 : ∀ x : PySem.Str, 1 ≤ Builtin.Str.strKind x := by intro x; unfold Builtin.Str.strKind; split; omega; split <;> omega
  have hparts := parts_rows rows (joinL [13, 10] rows) 0 hne hp (by simp) (by omega)
  have hocc := occ13 (paired_rows rows hp)
  have honly : (occurrences ⟨(joinL [13, 10] rows).toArray⟩ crlfS 0 (⟨(joinL [13, 10] rows).toArray⟩ : PySem.Str).length ((⟨(joinL [13, 10] rows).toArray⟩ : PySem.Str).length + 1)).isEmpty = true → [(⟨(joinL [13, 10] rows).toArray⟩ : PySem.Str)] = rows.map fun r => (⟨r.toArray⟩ : PySem.Str) := by
    intro he
    rw [hocc] at he
    match rows, hne with
    | [r], _ => rfl
    | r :: r' :: rs, _ =>
      rw [joinL_cons2, pos13_plain (hp r (by simp))] at he
      rw [show [13, 10] ++ joinL [13, 10] (r' :: rs) = 13 :: (10 :: joinL [13, 10] (r' :: rs)) from rfl, pos13, if_pos rfl] at he
      simp at he
  unfold Txt.split
  by_cases h1 : (decide ((⟨(joinL [13, 10] rows).toArray⟩ : PySem.Str).length < crlfS.length) || decide (Builtin.Str.strKind ⟨(joinL [13, 10] rows).toArray⟩ < Builtin.Str.strKind crlfS)) = true
  · rw [if_pos h1]
    rcases rows with _ | ⟨r, _ | ⟨r', rs⟩⟩
    · exact absurd rfl hne
    · rfl
    · exfalso
      rw [hk, crlf_len] at h1
      have h2 := hk2 ⟨(joinL [13, 10] (r :: r' :: rs)).toArray⟩
      have h3 : 2 ≤ (⟨(joinL [13, 10] (r :: r' :: rs)).toArray⟩ : PySem.Str).length := by
        show 2 ≤ (joinL [13, 10] (r :: r' :: rs)).toArray.size
        rw [joinL_cons2]; simp; omega
      simp at h1
      omega
  · rw [if_neg h1]
    split
    · rename_i h2; exact honly h2
    · rw [partsBetween_eq, hocc, crlf_len]
      simpa using hparts
end Mine
/- PageM -/
set_option maxRecDepth 100000
set_option maxHeartbeats 4000000
namespace Mine
/-- the number of rows, and the rows -/
def rowN (n len : Nat) : Nat := if 0 < len then (len - 1) / n + 1 else 0
def rowAt (n : Nat) (l : List Nat) (i : Nat) : List Nat := (l.drop (i * n)).take n
def rowsOf (n : Nat) (l : List Nat) : List (List Nat) := (List.range (rowN n l.length)).map (rowAt n l)
theorem rangeSize_rowN {n len : Nat} (hn : 1 ≤ n) : Builtin.Range.rangeSize 0 (len : Int) (n : Int) = ((rowN n len : Nat) : Int) := by
  unfold Builtin.Range.rangeSize rowN
  rw [if_pos (by omega)]
  by_cases h : 0 < len
  · rw [if_pos (by omega), if_pos h]
    have : ((len : Int) - 0 - 1) = ((len - 1 : Nat) : Int) := by omega
    rw [this]
    push_cast
    rfl
  · rw [if_neg (by omega), if_neg h]; rfl
theorem rowN_bounds {n len i : Nat} (hn : 1 ≤ n) (h : i < rowN n len) : i * n < len := by
  unfold rowN at h
  split at h
  · have h1 : i ≤ (len - 1) / n := by omega
    have h2 := Nat.mul_le_mul_right n h1
    have h3 := Nat.div_mul_le_self (len - 1) n
    omega
  · omega
theorem rowN_le {n len : Nat} (hn : 1 ≤ n) : rowN n len ≤ len := by
  unfold rowN
  split
  · have := Nat.div_le_self (len - 1) n; omega
  · omega
theorem rowN_pos {n len : Nat} (h : 0 < len) : 1 ≤ rowN n len := by unfold rowN; rw [if_pos h]; exact Nat.le_add_left 1 _
theorem rowAt_ne {n : Nat} {l : List Nat} {i : Nat} (hn : 1 ≤ n) (h : i < rowN n l.length) : rowAt n l i ≠ [] := by
  intro e
  have := congrArg List.length e
  have hb := rowN_bounds hn h
  unfold rowAt at this
  rw [List.length_take, List.length_drop] at this
  simp at this; omega
theorem rowAt_plain {n : Nat} {l : List Nat} {i : Nat} (h : Plain l) : Plain (rowAt n l i) := fun c hc => h c (List.mem_of_mem_drop (List.mem_of_mem_take hc))
theorem rows_ok {n : Nat} {l : List Nat} (hn : 1 ≤ n) (h : Plain l) : ∀ r ∈ rowsOf n l, Plain r ∧ r ≠ [] := by
  intro r hr
  obtain ⟨i, hi, rfl⟩ := List.mem_map.mp hr
  exact ⟨rowAt_plain h, rowAt_ne hn (List.mem_range.mp hi)⟩
theorem rows_flat {n : Nat} {l : List Nat} (hn : 1 ≤ n) : (rowsOf n l).flatten = l := by
  have key : ∀ k, k ≤ rowN n l.length → ((List.range k).map (rowAt n l)).flatten = l.take (k * n) := by
    intro k
    induction k with
    | zero => intro _; simp
    | succ k ih =>
      intro hk
      rw [List.range_succ, List.map_append, List.flatten_append, ih (by omega)]
      simp only [List.map_cons, List.map_nil, List.flatten_cons, List.flatten_nil, List.append_nil]
      unfold rowAt
      rw [Nat.add_mul, Nat.one_mul, List.take_add]
  unfold rowsOf
  rw [key _ (Nat.le_refl _)]
  apply List.take_of_length_le
  unfold rowN
  split
  · rename_i h
    have := Nat.lt_div_mul_add (a := l.length - 1) (b := n) (by omega)
    rw [Nat.add_mul, Nat.one_mul]
    omega
  · omega
theorem joinL_nil : ∀ rows : List (List Nat), joinL [] rows = rows.flatten
  | [] => rfl
  | [r] => by simp [joinL]
  | r :: r' :: rs => by rw [joinL, joinL_nil (r' :: rs)]; simp
theorem joinL_length (sep : List Nat) : ∀ rows : List (List Nat), (joinL sep rows).length = rows.flatten.length + sep.length * (rows.length - 1)
  | [] => by simp [joinL]
  | [r] => by simp [joinL]
  | r :: r' :: rs => by
    rw [joinL, List.length_append, List.length_append, joinL_length sep (r' :: rs)]
    simp only [List.flatten_cons, List.length_append, List.length_cons, Nat.add_sub_cancel]
    rw [Nat.mul_add, Nat.mul_one]
    omega
def dotted (r : List Nat) : Nat := if r.head? = some 46 then 1 else 0
theorem quo_no {c : Nat} {r : List Nat} (h : c ≠ 46) : quo (c :: r) = c :: r := by
  unfold quo
  split
  · rename_i e; injection e with e1 e2; exact absurd e1 h
  · rfl
theorem quo_length (r : List Nat) : (quo r).length = r.length + dotted r := by
  cases r with
  | nil => rfl
  | cons c r =>
    by_cases h : c = 46
    · subst h; rfl
    · rw [quo_no h]
      unfold dotted
      rw [if_neg (by simpa using h)]; rfl
/-- how many rows begin with a dot -/
def moreOf (n : Nat) (l : List Nat) : Nat := ((rowsOf n l).map dotted).sum
theorem quo_flat_length : ∀ rows : List (List Nat), (rows.map quo).flatten.length = rows.flatten.length + (rows.map dotted).sum
  | [] => rfl
  | r :: rs => by
    simp only [List.map_cons, List.flatten_cons, List.length_append, List.sum_cons]
    rw [quo_flat_length rs, quo_length]; omega
theorem quoted_length {n : Nat} {l : List Nat} (hn : 1 ≤ n) : (joinL [13, 10] ((rowsOf n l).map quo)).length = l.length + moreOf n l + 2 * (rowN n l.length - 1) := by
  rw [joinL_length, quo_flat_length, rows_flat hn]
  simp [rowsOf, moreOf]
theorem dotted_le (r : List Nat) : dotted r ≤ 1 := by unfold dotted; split <;> omega
theorem quo_plain {r : List Nat} (h : Plain r) : Plain (quo r) := by
  unfold quo
  split
  · intro c hc
    rcases List.mem_cons.mp hc with rfl | hc
    · omega
    · exact h c hc
  · exact h
/-- a dot taken off -/
def unquo (r : List Nat) : List Nat := if r.take 1 = [46] then r.drop 1 else r
theorem unquo_quo {r : List Nat} (h : r ≠ []) : unquo (quo r) = r := by
  cases r with
  | nil => exact absurd rfl h
  | cons c r =>
    by_cases hc : c = 46
    · subst hc; rfl
    · have e : quo (c :: r) = c :: r := by
        unfold quo
        split
        · rename_i e; injection e with e1 e2; exact absurd e1 hc
        · rfl
      rw [e]
      unfold unquo
      rw [if_neg (by simpa using hc)]
theorem unquo_rows {n : Nat} {l : List Nat} (hn : 1 ≤ n) (h : Plain l) : (((rowsOf n l).map quo).map unquo).flatten = l := by
  have : ((rowsOf n l).map quo).map unquo = rowsOf n l := by
    rw [List.map_map]
    conv => rhs; rw [← List.map_id (rowsOf n l)]
    apply List.map_congr_left
    intro r hr
    exact unquo_quo (rows_ok hn h r hr).2
  rw [this, rows_flat hn]
end Mine
/- PageW -/
set_option maxRecDepth 100000
set_option maxHeartbeats 8000000
namespace Mine
open LCg
theorem filledW : PySem.Challenge.rw_pa0022_01 = PySem.Challenge.rw_pa0022_01 ∧ hd.heap_39 = hd.heap_39 := by k_fill; exact ⟨rfl, rfl⟩
section
variable {prog : Program} {w : World} {A : Around} {h₀ : Heap} {L : Addr} {m : Str → Option Value} {env : Env} {elt : Expr} {x : Str} {scope : Scope} {cl : List (Str × Addr)} {s : Shared} {S : List (Addr × Obj) → Prop} {P : Nat → Value → Prop} {Fin : List Value → List (Addr × Obj) → Prop} {news : List (Addr × Obj)}
/-- a turn of a comprehension that leaves the ledger as it was -/
def StayEnd (h₀ : Heap) (L : Addr) (m : Str → Option Value) (s₁ : Shared) (led : List (Addr × Obj)) (V : Value → Prop) (y : Value) (s₂ : Shared) : Prop :=
  ∃ h' tk', s₂ = { s₁ with heap := h', toks := tk' } ∧ Fr h₀ L h' m ∧ News h₀ L h' led ∧ V y
theorem StayEnd.intro {s₁ : Shared} {led all : List (Addr × Obj)} {V : Value → Prop} {y : Value} {h' : Heap} {tk' : Nat} (F : Fr h₀ L h' m) (N : News h₀ L h' all) (hs : ∀ p ∈ led, p ∈ all) (hv : V y) : StayEnd h₀ L m s₁ led V y { s₁ with heap := h', toks := tk' } :=
  ⟨h', tk', rfl, F, fun p hp => N p (hs p hp), hv⟩
theorem rest_stay {n : Nat} (V : Nat → Value → Prop) (hS : S news)
    (turn : ∀ i v I oI C oC D m₂ ys h tk (E' : Value → Shared → Prop), i < n → P i v → NsObj oC m₂ → m₂ x = some v → Fr h₀ L h m → News h₀ L h ((I, oI) :: (C, oC) :: (D, lst ys) :: news) → Off3 I C D news → ((@Ne Nat I C) ∧ (@Ne Nat I D) ∧ (@Ne Nat C D)) →
      wpAny (model prog w) A (eval elt (compEnvC scope cl C env)) (StayEnd h₀ L m { s with heap := h, toks := tk } ((I, oI) :: (C, oC) :: (D, lst ys) :: news) (V i)) E' { s with heap := h, toks := tk })
    (fin : ∀ ys : List Value, ys.length = n → (∀ i y, ys[i]? = some y → V i y) → Fin ys news) : CompRest prog w A h₀ L m env elt x scope cl s S P Fin n 0 [] news := by
  have key : ∀ (j i : Nat) (ys : List Value), i + j = n → ys.length = i → (∀ k y, ys[k]? = some y → V k y) → CompRest prog w A h₀ L m env elt x scope cl s S P Fin j i ys news := by
    intro j
    induction j with
    | zero =>
      intro i ys hi hl hy
      exact CompRest.zero (fin ys (by omega) hy)
    | succ j ih =>
      intro i ys hi hl hy
      refine CompRest.succ ?_
      intro v I oI C oC D m₂ h tk E' hv hC hx F N off ne
      refine wpAny_mono (turn i v I oI C oC D m₂ ys h tk E' (by omega) hv hC hx F N off ne) (fun y s₂ hq => ?_) fun _ _ e => e
      obtain ⟨h', tk', e, F', N', hV⟩ := hq
      refine ⟨h', tk', news, e, F', N', off, hS, ih (i + 1) (ys ++ [y]) (by omega) (by simp; omega) ?_⟩
      intro k z hk
      rcases Nat.lt_trichotomy k i with h1 | h1 | h1
      · rw [List.getElem?_append_left (by omega)] at hk; exact hy k z hk
      · subst h1
        rw [← hl, List.getElem?_append_right (Nat.le_refl _), Nat.sub_self] at hk
        cases hk
        exact hV
      · rw [List.getElem?_eq_none (by simp; omega)] at hk; cases hk
  exact key n 0 [] (by omega) rfl (by intro i y h; simp at h)
end
theorem len_txt {prog : Program} {w : World} {A : Around} {E : Value → Shared → Prop} {s : Shared} {l : List Nat} {t : Tok} {Q : Value → Shared → Prop} (hl : l.length ≤ 10000) (h : ∀ t' k, Q (.int l.length t') { s with toks := k }) : wpAny (model prog w) A (call (.builtin "len") [.str (txt l) t]) Q E s :=
  PyProof.Rows.len_str (by show ¬ ((l.toArray.size : Nat) : Int) ≥ 2 ^ 63; rw [List.size_toArray]; omega) (by have := h (s.toks + 1) (s.toks + 1 + 1); show Q (.int ((l.toArray.size : Nat) : Int) _) _; rw [List.size_toArray]; exact this)
theorem small_step {b c : Int} {n : Nat} (hc : 0 < c) (hc' : c ≤ 1000000) (hb : 0 ≤ b) (hb' : b ≤ 1000000) (hs : Builtin.Range.rangeSize 0 b c = ((n : Nat) : Int)) (hn : n ≤ 1000000) : Builtin.Range.small 0 b c = true := by
  unfold Builtin.Range.small
  rw [hs]
  simp only [Builtin.Range.rangeFitsLong, Bool.and_eq_true, Bool.or_eq_true, decide_eq_true_eq, beq_iff_eq, if_pos hc]
  have h1 : (n : Int) * c ≤ 1000000 * 1000000 := Int.mul_le_mul (by omega) hc' (by omega) (by omega)
  have h2 : 0 ≤ (n : Int) * c := Int.mul_nonneg (by omega) (by omega)
  omega
theorem slice_txt {l : List Nat} {i j : Int} {a b : Nat} (hi : i = a) (hj : j = b) (ha : a ≤ b) (hal : a ≤ l.length) : Txt.slice (txt l) (some i) (some j) = txt ((l.drop a).take (b - a)) := by
  subst hi hj
  have e : ∀ k : Nat, max 0 (min (k : Int) (l.length : Int)) = ((min k l.length : Nat) : Int) := by intro k; omega
  have e1 : Txt.slice (txt l) (some (a : Int)) (some (b : Int)) = Txt.slice (txt l) (some (a : Int)) (some ((min b l.length : Nat) : Int)) := by
    unfold Txt.slice Builtin.Str.strSliceIndices
    have hlen : (txt l).length = l.length := by show l.toArray.size = _; simp
    rw [hlen]
    have h1 : max 0 (min (if (b : Int) < 0 then (b : Int) + (l.length : Int) else (b : Int)) (l.length : Int)) = max 0 (min (if ((min b l.length : Nat) : Int) < 0 then ((min b l.length : Nat) : Int) + (l.length : Int) else ((min b l.length : Nat) : Int)) (l.length : Int)) := by
      rw [if_neg (by omega), if_neg (by omega)]; omega
    simp only [show (1 : Int) > 0 by decide, if_true]
    rw [h1]
  rw [e1]
  have h2 := slice_closes (x := txt l) (i := (a : Int)) (j := ((min b l.length : Nat) : Int)) ⟨by omega, by omega, by simp; omega⟩
  rw [eq_of_beq h2]
  congr 2
  show ((l.toArray.toList.drop a).take _) = _
  rw [List.toList_toArray]
  rw [show (((min b l.length : Nat) : Int) - (a : Int)).toNat = min b l.length - a by omega]
  by_cases h : b ≤ l.length
  · rw [Nat.min_eq_left h]
  · rw [Nat.min_eq_right (by omega), List.take_of_length_le (by simp), List.take_of_length_le (by simp; omega)]
theorem pick_sep {prog : Program} {w : World} {A : Around} {E : Value → Shared → Prop} {s : Shared} {value slice : Expr} {al : Addr} {a b c : Str} {ta tb tc u : Tok} {n : Nat} {Q : Value → Shared → Prop}
    (hl : s.heap.IsList al [Value.str a ta, .str b tb, .str c tc].toArray) (h : ∀ x t, (x = a ∨ x = b ∨ x = c) → Q (.str x t) s)
    (hs : subscripted slice false (.ref al) (.int ((n : Int).fmod 3) u) = operate [.ref al, .int ((n : Int).fmod 3) u] (getItem (.ref al) (.int ((n : Int).fmod 3) u)) := by with_unfolding_all rfl) :
    wpAny (model prog w) A (subscriptTail value slice (.ref al) (.int ((n : Int).fmod 3) u)) Q E s := by
  have e : (n : Int).fmod 3 = ((n % 3 : Nat) : Int) := by rw [Int.fmod_eq_emod_of_nonneg _ (by omega)]; omega
  have h3 : n % 3 < 3 := Nat.mod_lt _ (by omega)
  refine tail_any hl.typeIs slot_list_getitem.lookup ?_ hs
  rcases (by omega : n % 3 = 0 ∨ n % 3 = 1 ∨ n % 3 = 2) with e3 | e3 | e3
  · exact wpAny_getItem_list hl (by omega) (by omega) (by rw [e, e3]; rfl) (h a ta (.inl rfl))
  · exact wpAny_getItem_list hl (by omega) (by omega) (by rw [e, e3]; rfl) (h b tb (.inr (.inl rfl)))
  · exact wpAny_getItem_list hl (by omega) (by omega) (by rw [e, e3]; rfl) (h c tc (.inr (.inr rfl)))
theorem glued_joinL (sep : Str) : ∀ rows : List (List Nat), Builtin.Str.glued sep (rows.map txt) = txt (joinL sep.cps.toList rows) := by
  intro rows
  rw [StrLaws.glued_eq_join]
  induction rows with
  | nil => rfl
  | cons r rs ih =>
    cases rs with
    | nil => rfl
    | cons r' rs =>
      have e : Str.join sep ((r :: r' :: rs).map txt) = txt r ++ sep ++ Str.join sep ((r' :: rs).map txt) := rfl
      rw [e, ih, joinL]
      apply Str.ext'
      apply Array.ext'
      simp [Str.cps_append]
theorem strs_of {N : Nat} {g : Nat → Str} : ∀ {ys : List Value}, ys.length = N → (∀ (i : Nat) (y : Value), ys[i]? = some y → ∃ t, y = Value.str (g i) t) → ∃ l : List (Str × Tok), ys = strValues l ∧ l.map (·.1) = (List.range N).map g := by
  induction N with
  | zero => intro ys h _; exact ⟨[], by simpa [strValues] using h, rfl⟩
  | succ N ih =>
    intro ys h hV
    have hne : ys ≠ [] := by intro e; rw [e] at h; simp at h
    obtain ⟨ys', y, rfl⟩ : ∃ ys' y, ys = ys' ++ [y] := ⟨ys.dropLast, ys.getLast hne, (List.dropLast_concat_getLast hne).symm⟩
    have h' : ys'.length = N := by simpa using h
    obtain ⟨l, e1, e2⟩ := ih h' fun i z hz => hV i z (by rw [List.getElem?_append_left (by rcases Nat.lt_or_ge i ys'.length with a | a; exact a; rw [List.getElem?_eq_none a] at hz; cases hz)]; exact hz)
    obtain ⟨t, rfl⟩ := hV N y (by rw [List.getElem?_append_right (by omega), h']; simp)
    refine ⟨l ++ [(g N, t)], by rw [e1]; simp [strValues], by rw [List.map_append, e2, List.range_succ, List.map_append]; rfl⟩
theorem sumLen_txt : ∀ rows : List (List Nat), ((rows.map txt).map (·.length)).sum = rows.flatten.length
  | [] => rfl
  | r :: rs => by
    simp only [List.map_cons, List.sum_cons, List.flatten_cons, List.length_append]
    rw [sumLen_txt rs]
    show r.toArray.size + _ = _
    simp
theorem join_rows {prog : Program} {w : World} {A : Around} {E : Value → Shared → Prop} {s : Shared} {sep : Str} {t : Tok} {a : Addr} {l : List (Str × Tok)} {rows : List (List Nat)} {Q : Value → Shared → Prop} (hl : s.heap.IsList a (strValues l).toArray) (e : l.map (·.1) = rows.map txt) (hsep : sep.length ≤ 10) (hr : rows.length ≤ 1000) (hf : rows.flatten.length ≤ 1000)
    (h : ∀ t' k, Q (.str (txt (joinL sep.cps.toList rows)) t') { s with toks := k }) : wpAny (model prog w) A (call (.builtin "str.join") [.str sep t, .ref a]) Q E s := by
  have hsl : sep.cps.toList.length = sep.length := by show _ = sep.cps.size; simp
  have hlen := joinL_length sep.cps.toList rows
  rw [hsl] at hlen
  have hmul : sep.length * (rows.length - 1) ≤ 10 * 1000 := Nat.mul_le_mul hsep (by omega)
  have hmul2 : rows.length * sep.length ≤ 1000 * 10 := Nat.mul_le_mul hr hsep
  have hbig : Builtin.Str.tooLong ((l.map (·.1)).toArray.foldl (· + ·.length + sep.length) 0) = false := by
    rw [e, StrLaws.joinTotal, sumLen_txt, List.length_map]
    unfold Builtin.Str.tooLong
    rw [sizeLine_eq]
    exact decide_eq_false (by omega)
  refine call_meets F.slot_str_join (typeIs_str _ _ _) F.entry_str_join (F.args_str_join_2 _ _) (meets_str_join_list sep t a l hbig) ⟨hl, ?_⟩
  have hg : Made.post (.str (Builtin.Str.glued sep (l.map (·.1)))) (fun v s' => wants Q E (.ok (.ret v)) s') s := by
    rw [e, glued_joinL]
    refine ⟨?_, h _ _⟩
    show (joinL sep.cps.toList rows).toArray.size ≤ _
    rw [sizeLine_eq, List.size_toArray]; omega
  match l, hg, e with
  | [], hg, _ => exact hg
  | [p], _, e =>
    obtain ⟨r, hr1⟩ : ∃ r, rows = [r] := List.length_eq_one_iff.mp (by have := congrArg List.length e; simpa using this.symm)
    rw [hr1] at e
    have e' : p.1 = txt r := by simpa using e
    have := h p.2 s.toks
    rw [hr1] at this
    simp only [joinL] at this
    rw [← e'] at this
    exact this
  | p :: q :: r, hg, _ => exact hg
/-- a call of the def at f hands back a new object -/
def ConR (lv : Nat) (w : World) (f : Addr) (vs : List Value) (kw : List (Str × Value)) (V : Obj → Prop) : Prop :=
  ∀ (prog p : Program) (loose : List Str) (mean : ExcName → Option Value) (mg mb : Str → Option Value) (dp un : Nat) (gd : Option (List Code)) (cn : Str) (cs : Scope) (a : Addr) (ccd : Value) (cl : List (Str × Addr)) (outer : List Env) (A₀ : Around) (base h₀ : Heap) (L : Addr) (m : Str → Option Value) (news : List (Addr × Obj)) (s : Shared) (Q E : Value → Shared → Prop),
    Below A₀ base outer h₀ → Fr h₀ L s.heap m → (hd.heap_39 w.params).In h₀ → News h₀ L s.heap news → Top p loose mean mg mb h₀ → cs.kind = .function → dp + lv ≤ 350 → un + 8 * lv ≤ 400 →
    (∀ (r : Addr) (o : Obj) (h' : Heap) (tk' : Nat), V o → Fr h₀ L h' m → News h₀ L h' ((r, o) :: news) → (∀ q ∈ news, q.1 < r) → Q (.ref r) { s with heap := h', toks := tk' }) →
      wpAny (model prog w) (ktrTop dp un gd cn cs L a ccd cl outer) (call (.ref f) vs kw) Q E s
abbrev tupOf (vs : List Value) (n : Nat) : Obj := { cls := .type "tuple", data := .seq vs.toArray n }
end Mine
/- P1 -/
set_option maxRecDepth 100000
set_option maxHeartbeats 8000000
namespace Mine
open LCg
theorem filledP : PySem.Challenge.rw_pa0022_01 = PySem.Challenge.rw_pa0022_01 ∧ hd.heap_39 = hd.heap_39 := by k_fill; exact ⟨rfl, rfl⟩
theorem slice_first {l : List Nat} (h : l ≠ []) : Txt.slice (txt l) none (some 1) = txt (l.take 1) := by
  have h1 : 1 ≤ l.length := List.length_pos_iff.mpr h
  have h2 := slice_closes_to (x := txt l) (j := 1) ⟨by omega, by simp; omega⟩
  rw [eq_of_beq h2]
  simp
theorem slice_rest {l : List Nat} (h : l ≠ []) : Txt.slice (txt l) (some 1) none = txt (l.drop 1) := by
  have h1 : 1 ≤ l.length := List.length_pos_iff.mpr h
  have h2 := slice_closes_from (x := txt l) (i := 1) ⟨by omega, by simp; omega⟩
  rw [eq_of_beq h2]
  congr 2
  show (List.take _ (l.toArray.toList.drop 1)) = _
  rw [List.toList_toArray, List.take_of_length_le (by simp)]
theorem txt_dot {l : List Nat} : (txt l == Str.ofString ".") = decide (l = [46]) := by
  have e : Str.ofString "." = txt [46] := by decide
  rw [e]
  by_cases h : l = [46]
  · rw [h]; simp
  · rw [decide_eq_false h]
    apply beq_eq_false_iff_ne.mpr
    intro q
    exact h (by have := congrArg (fun x : Str => x.cps.toList) q; simpa using this)
theorem news_keep1 {h₀ h : Heap} {L r : Addr} {o : Obj} {mid news : List (Addr × Obj)} (N : News h₀ L h ((r, o) :: (mid ++ news))) : News h₀ L h ((r, o) :: news) := fun q hq => N q (by
  rcases List.mem_cons.mp hq with e | e
  · rw [e]; exact List.mem_cons_self
  · exact List.mem_cons_of_mem _ (List.mem_append_right _ e))
theorem quo_ne {r : List Nat} (h : r ≠ []) : quo r ≠ [] := by
  intro e
  have := quo_length r
  rw [e] at this
  exact h (List.length_eq_zero_iff.mp (by simp at this; omega))
local macro_rules | `(tactic| k_room) => `(tactic| ktr_room)
local macro_rules | `(tactic| walk_at "call builtin:len") => `(tactic| ((with_reducible show wpAny _ _ (call (Value.builtin "len") [Value.str (txt _) _]) _ _ _); k_dflt (refine len_txt (by omega) ?_); intro t' k'; (try dsimp only)))
local macro_rules | `(tactic| walk_at "exec Assign cons ListComp") => `(tactic| ((with_reducible show wpAny _ _ (exec (Stmt.Assign _ (Expr.ListComp _ [⟨_, Expr.Call (Expr.Name (PySem.Str.ofString "range") _) _ _ _, _, _⟩] _ _) _) _) _ _ _); k_dflt (refine Assign_step (F₀ := by k_asm) (by rfl) (by with_unfolding_all rfl) (by with_unfolding_all rfl) (by decide) (by rfl) (by decide) (by rfl) (by rfl) (by rfl) ?_)))
local macro_rules | `(tactic| walk_at "exec Assign cons ListComp") => `(tactic| ((with_reducible show wpAny _ _ (exec (Stmt.Assign _ (Expr.ListComp _ [⟨_, Expr.Call (Expr.Attribute _ _ _) _ _ _, _, _⟩] _ _) _) _) _ _ _); k_dflt (refine Assign_ListComp_U (F₀ := by k_asm) (by rfl) (by with_unfolding_all rfl) (by with_unfolding_all rfl) (by decide) (by rfl) (by decide) (by rfl) (by rfl) (by rfl) ?_)))
local macro_rules | `(tactic| walk_at "subscriptTail") => `(tactic| ((with_reducible show wpAny _ _ (subscriptTail _ _ (Value.ref _) (Value.int (Int.fmod _ 3) _)) _ _ _); k_dflt (refine pick_sep (by is_list) ?_); intro sep' t' hsep'; (try dsimp only)))
local macro_rules | `(tactic| walk_at "call builtin:len") => `(tactic| ((with_reducible show wpAny _ _ (call (Value.builtin "len") [Value.ref _]) _ _ _); k_dflt (refine kun_lenL (by is_list) (by assumption) (by omega) ?_); (try dsimp only)))
local macro_rules | `(tactic| walk_at "subscriptTail") => `(tactic| ((with_reducible show wpAny _ _ (subscriptTail _ (Expr.Slice none (some _) none _) (Value.str (txt _) _) (Value.ref _)) _ _ _); k_dflt (refine slice_strN_ns (hsz := ?hsz) (by k_asm) (by k_asm) ?_; (case hsz => assumption); rw [slice_first (by assumption)]; intro t6 h6 k6 F6 N6; (try dsimp only))))
local macro_rules | `(tactic| walk_at "subscriptTail") => `(tactic| ((with_reducible show wpAny _ _ (subscriptTail _ (Expr.Slice (some _) none none _) (Value.str (txt _) _) (Value.ref _)) _ _ _); k_dflt (refine slice_strN_sn (hsz := ?hsz) (by k_asm) (by k_asm) ?_; (case hsz => assumption); rw [slice_rest (by assumption)]; intro t6 h6 k6 F6 N6; (try dsimp only))))
local macro_rules | `(tactic| walk_at "call ref") => `(tactic| (k_dflt ((first | (refine' Con.use (C := quotedata_con _ _ _ ?c1) (ret := ?_); (case c1 => assumption))); intro t9 h9 tk9 F9 N9; (try k_sweep); (try dsimp only))))
theorem page_con (w : World) (l : List Nat) (tb tw : Tok) (n : Nat) (hp : Plain l) (hl0 : 1 ≤ l.length) (hl : l.length ≤ 100) (hn : 1 ≤ n) (hnl : n ≤ 100) :
    ConR 2 w 153 [.str (txt l) tb, .int n tw] [] (fun o => ∃ t u k, o = tupOf [.int (moreOf n l) t, .str (txt l) u] k) := by
  w_on
  unfold ConR
  intro prog p loose mean mg mb dp un gd cn cs a ccd cl outer A₀ base h₀ L m news s Q E B F X N T hk hdp hun hret
  have hN := rowN_le (n := n) (len := l.length) hn
  refine wpAny_call ?_
  k_dflt (refine' code_defC ?k1 ?k2 ?k3 ?k4 ?k5 ?kA ?kF ?kK ?k6 ?k7 ?k8 ?k9 ?kB ?kD ?_ ?c2 ?c3 ?c4; (case kA => exact rfl); (case kF => exact rfl); (case kK => assumption); (case k1 => k_asm); (case k2 => k_asm); (case k3 => k_asm); (case k4 => k_asm); (case k5 => k_asm); (case k6 => k_is); (case k7 => k_is); (case k8 => ktr_room); (case k9 => first | exact BindsTo.of_eq rfl | exact binds_K (by k_in) rfl (by k_is) rfl rfl rfl); (case kB => exact rfl); (case kD => decide +kernel); (case c2 => exact rfl); (case c3 => exact rfl); (case c4 => exact rfl); k_whole; intro g' L' h' tk' cells' FG' F' N' Y' B' X' T' l1; (try k_lt l1); k_cells Y'; (try simp only [List.cons_append, List.nil_append] at N'); (try dsimp only); (try k_lift B'); (try k_fold))
  k_steps
  rename IsRange _ _ _ _ _ _ _ _ => rgX
  refine ⟨_, 0, l.length, n, _, _, _, rowN n l.length, _, rfl, rfl, by k_asm, by k_asm, rgX, small_step (by omega) (by omega) (by omega) (by omega) (rangeSize_rowN hn) (by omega), rangeSize_rowN hn, by rw [sizeLine_eq]; omega, ?_⟩
  rintro s₂ ⟨hh, rfl⟩
  refine rest_stay (fun i y => ∃ t, y = .str (txt (rowAt n l i)) t) trivial ?_ ?_
  · rintro i v I oI C oC D m₂ ys h tk E' hi ⟨t, rfl⟩ hC hx F1 N1 off ne
    have hb := rowN_bounds hn hi
    (try k_unmd); (try k_fold)
    k_steps
    refine StayEnd.intro (by k_asm) (by k_asm) (fun q hq => hq) ?_
    rw [slice_txt (a := i * n) (b := i * n + n) (by push_cast; omega) (by push_cast; omega) (by omega) (by omega), show i * n + n - i * n = n by omega]
    exact ⟨_, rfl⟩
  · intro ys hys hV
    intro D h tk F1 N1 o1
    obtain ⟨rl, rfl, hrl⟩ := strs_of hys hV
    have hys' : (strValues rl).length = rowN n l.length := hys
    (try dsimp only)
    k_steps
    have hrl' : rl.map (·.1) = (rowsOf n l).map txt := by rw [hrl]; unfold rowsOf; rw [List.map_map]; rfl
    have hfl : (rowsOf n l).flatten = l := rows_flat hn
    have hrn : (rowsOf n l).length = rowN n l.length := by simp [rowsOf]
    rename _ ∨ _ ∨ _ => hsep
    have hsepL : ∀ x : Str, (x = Str.ofString "\n" ∨ x = Str.ofString "\r" ∨ x = Str.ofString "\r\n") → x.length ≤ 2 ∧ (x.cps.toList = [10] ∨ x.cps.toList = [13] ∨ x.cps.toList = [13, 10]) := by
      rintro x (rfl | rfl | rfl) <;> decide
    obtain ⟨hs2, hs3⟩ := hsepL _ hsep
    k_dflt (refine join_rows (by is_list) hrl' (by omega) (by omega) (by rw [hfl]; omega) ?_)
    intro tj kj
    generalize hJ : joinL _ (rowsOf n l) = J
    have hJq : dots true (unl false J) = joinL [13, 10] ((rowsOf n l).map quo) := by
      rw [← hJ, unl_rows hs3 _ (rows_ok hn hp), dots_rows _ (rows_ok hn hp)]
    have hJl : J.length ≤ 500 := by
      rw [← hJ, joinL_length, hfl, hrn]
      have : ∀ k : Nat, k ≤ 2 → k * (rowN n l.length - 1) ≤ 2 * 100 := fun k hk => Nat.mul_le_mul hk (by omega)
      rcases hs3 with e | e | e <;> rw [e] <;> (simp only [List.length_cons, List.length_nil]; omega)
    have hql := quoted_length (n := n) (l := l) hn
    have hmo : moreOf n l ≤ 100 := by
      have : ∀ rows : List (List Nat), (rows.map dotted).sum ≤ rows.length := by
        intro rows
        induction rows with
        | nil => simp
        | cons r rs ih => have := dotted_le r; simp only [List.map_cons, List.sum_cons, List.length_cons]; omega
      have := this (rowsOf n l)
      unfold moreOf; omega
    have hrne : rowsOf n l ≠ [] := by intro e; rw [e] at hfl; rw [← hfl] at hl0; simp at hl0
    have hqp : ∀ r ∈ (rowsOf n l).map quo, Plain r := by
      intro r hr
      obtain ⟨r', h', rfl⟩ := List.mem_map.mp hr
      exact quo_plain (rows_ok hn hp r' h').1
    have hsplit := split_rows ((rowsOf n l).map quo) (by simpa using hrne) hqp
    generalize hG : joinL [13, 10] ((rowsOf n l).map quo) = G at hJq hql hsplit
    (try dsimp only)
    k_steps
    rw [hJq] at *
    k_dflt (refine splitN1 (by k_asm) (by k_asm) (by decide) ?_ (by rw [sizeLine_eq]; show G.toArray.size + 2 ≤ _; rw [List.size_toArray]; omega))
    intro pl hp' kp hpl Fp Np
    replace hpl : pl.map (·.1) = ((rowsOf n l).map quo).map txt := hpl.trans hsplit
    (try dsimp only at Np)
    (try dsimp only)
    have hpn : pl.length = rowN n l.length := by have := congrArg List.length hpl; simpa [hrn] using this
    have hsz : (strValues pl).toArray.size = rowN n l.length := by simp [strValues, hpn]
    refine CompSrc.ledger rfl Fp Np (.head _) (by rw [hsz, sizeLine_eq]; omega) ?_
    intro gC
    refine rest_stay (fun i y => ∃ t, y = .str (txt (unquo (quo (rowAt n l i)))) t) (.inr ⟨_, .head _, rfl, _, rfl⟩) ?_ ?_
    · rintro i v I oI C oC D2 m₂ ys h tk E' hi hiv hC hx F1 N1 off ne
      have hi' : i < rowN n l.length := by rw [hsz] at hi; exact hi
      have hrw : rowAt n l i ≠ [] := rowAt_ne hn hi'
      obtain ⟨t, rfl⟩ : ∃ t, v = .str (txt (quo (rowAt n l i))) t := by
        have h1 : (strValues pl)[i]? = some v := by simpa using hiv
        have h2 : (pl.map (·.1))[i]? = some (txt (quo (rowAt n l i))) := by
          rw [hpl]; unfold rowsOf
          rw [List.getElem?_map, List.getElem?_map, List.getElem?_map, List.getElem?_range hi']; rfl
        unfold strValues at h1
        rw [List.getElem?_map] at h1 h2
        cases e : pl[i]? with
        | none => rw [e] at h2; cases h2
        | some p =>
          rw [e] at h1 h2
          simp only [Option.map_some, Option.some.injEq] at h1 h2
          exact ⟨p.2, by rw [← h1, ← h2]⟩
      have hq := quo_ne hrw
      have hqs : (txt (quo (rowAt n l i))).length ≤ sizeLine := by
        show (quo (rowAt n l i)).toArray.size ≤ _
        have h1 := quo_length (rowAt n l i)
        have h2 := dotted_le (rowAt n l i)
        have h3 : (rowAt n l i).length ≤ n := by unfold rowAt; simp; omega
        rw [List.size_toArray, sizeLine_eq]; omega
      generalize quo (rowAt n l i) = r at hq hqs hx
      (try k_unmd); (try k_fold)
      k_steps
      · rename (Txt.slice (txt r) none (some 1) == _) = true => hc
        rw [slice_first hq, txt_dot, decide_eq_true_eq] at hc
        refine StayEnd.intro (by k_asm) (by k_asm) (fun q hq => hq) ?_
        rw [slice_rest hq]; unfold unquo; rw [if_pos hc]
        exact ⟨_, rfl⟩
      · rename (Txt.slice (txt r) none (some 1) == _) = false => hc
        rw [slice_first hq, txt_dot, decide_eq_false_iff_not] at hc
        refine StayEnd.intro (by k_asm) (by k_asm) (fun q hq => hq) ?_
        unfold unquo; rw [if_neg hc]
        exact ⟨_, rfl⟩
    · intro ys hys hV
      intro D2 h tk F1 N1 o1
      obtain ⟨bl, rfl, hbl⟩ := strs_of hys hV
      rw [hsz] at hbl
      have hbl' : bl.map (·.1) = (((rowsOf n l).map quo).map unquo).map txt := by rw [hbl]; unfold rowsOf; rw [List.map_map, List.map_map, List.map_map]; rfl
      have hrk : ((strValues rl).toArray.size : Int) = (rowN n l.length : Int) := by simp [hys']
      (try dsimp only)
      k_steps
      have huf : (((rowsOf n l).map quo).map unquo).flatten = l := unquo_rows hn hp
      k_dflt (refine join_rows (by is_list) hbl' (by decide) (by simp [hrn]; omega) (by rw [huf]; omega) ?_)
      intro tj2 kj2
      rw [show (Str.ofString "").cps.toList = [] from rfl, joinL_nil, huf]
      (try dsimp only)
      k_steps
      rename News h₀ L _ _ => kNx
      rename Fr h₀ L _ m => kFx
      rename _ < _ ∧ _ => lx
      obtain ⟨_, _, _, _, _, _, hal⟩ := lx
      have hrp := rowN_pos (n := n) (len := l.length) (by omega)
      have hnum : (G.length : Int) - l.length - 2 * ((rowN n l.length : Int) - 1) = (moreOf n l : Int) := by rw [hql]; push_cast; omega
      rw [hnum] at kNx
      have hal' := kst_ltOf hal
      exact hret _ _ _ _ ⟨_, _, _, rfl⟩ kFx (news_keep1 (mid := [_, _, _, _, _, _]) kNx) hal'
end Mine
/- Oct -/
set_option maxRecDepth 100000
set_option maxHeartbeats 8000000
namespace Mine
open LCg
theorem filledO : PySem.Challenge.rw_pa0022_01 = PySem.Challenge.rw_pa0022_01 ∧ hd.heap_39 = hd.heap_39 := by k_fill; exact ⟨rfl, rfl⟩
/-- a goal held back from the walk -/
structure Hold (p : Prop) : Prop where
  out : p
/-- a call of the def at f upon a list al that stands in the caller's ledger; a plain value comes back -/
def ConA (lv : Nat) (w : World) (f : Addr) (o : Obj) (R : Tok → Value) : Prop :=
  ∀ (prog p : Program) (loose : List Str) (mean : ExcName → Option Value) (mg mb : Str → Option Value) (dp un : Nat) (gd : Option (List Code)) (cn : Str) (cs : Scope) (a : Addr) (ccd : Value) (cl : List (Str × Addr)) (outer : List Env) (A₀ : Around) (base h₀ : Heap) (L : Addr) (m : Str → Option Value) (news : List (Addr × Obj)) (s : Shared) (Q E : Value → Shared → Prop) (al : Addr),
    Below A₀ base outer h₀ → Fr h₀ L s.heap m → (hd.heap_39 w.params).In h₀ → News h₀ L s.heap ((al, o) :: news) → Top p loose mean mg mb h₀ → cs.kind = .function → dp + lv ≤ 350 → un + 8 * lv ≤ 400 →
    (∀ (t : Tok) (h' : Heap) (tk' : Nat), Fr h₀ L h' m → News h₀ L h' ((al, o) :: news) → Q (R t) { s with heap := h', toks := tk' }) →
      wpAny (model prog w) (ktrTop dp un gd cn cs L a ccd cl outer) (call (.ref f) [.ref al] []) Q E s
section
variable {prog : Program} {w : World} {A : Around} {E : Value → Shared → Prop} {s : Shared} {h₀ : Heap} {L D b : Addr} {m : Str → Option Value} {news news' : List (Addr × Obj)} {its its2 : Array Value} {l : List Value} {n n2 : Nat}
theorem noFi_list : fillsInplaceSlot (.type "list") "add" (Operator.Add == .Add) = pure false := by
  unfold fillsInplaceSlot
  show (typeLookup (.type "list") (dunderI "add") >>= fun fi => pure (fi.isSome && !isSeqSlot fi)) = pure false
  rw [PySem.F.slot_list_iadd.lookup]
  have : isSeqSlot (some (.builtin "list.__iadd__")) = true := by decide +kernel
  simp [this]
theorem seq_list_iadd : seqSlot? (.type "list") (dunderI "add") = pure (some (.builtin "list.__iadd__")) := PySem.seqSlot_of PySem.F.slot_list_iadd.lookup (by decide +kernel)
theorem iadd_lists {Q : Value → Shared → Prop} (F : Fr h₀ L s.heap m) (N : News h₀ L s.heap news) (hb : (b, listOf its2 n2) ∈ news) (hne : its2.toList.length ≠ 0)
    (U : Upd D (listOf its n) (listOf (its.toList ++ its2.toList).toArray (n + 1)) news news') (hz : its.size ≤ 1000) (hz2 : its2.size ≤ 1000)
    (h : ∀ h', Fr h₀ L h' m → News h₀ L h' news' → Q (.ref D) { s with heap := h' }) : wpAny (model prog w) A (inplaceOp .Add (.ref D) (.ref b)) Q E s := by
  have hd : ¬(!its.isEmpty && Builtin.List.listTooLong (its.size + its2.size)) = true := by
    have : Builtin.List.listTooLong (its.size + its2.size) = false := by
      unfold Builtin.List.listTooLong
      rw [sizeLine_eq]
      exact decide_eq_false (by omega)
    rw [this]; simp
  obtain ⟨pre, post, rfl, rfl, a, c⟩ := U.split
  have z := N (D, listOf its n) (List.mem_append.mpr (.inr (.head _)))
  have ta : s.TypeIs (.ref D) "list" := ⟨_, z.1, rfl⟩
  have tb : s.TypeIs (.ref b) "list" := ⟨_, (N _ hb).1, rfl⟩
  unfold inplaceOp
  refine wpAny_holding ?_
  refine wpAny_bind (wpAny_typeOf ta (wpAny_bind (wpAny_of_eq noFi_list ?_)))
  show wpAny _ A (if false = true then _ else _) Q E s
  rw [if_neg Bool.false_ne_true]
  refine wpAny_bind (wpAny_binaryOp1_none (nm := "add") ta tb noFill_list_add ?_)
  refine wpAny_bind (wpAny_of_eq seq_list_iadd ?_)
  refine wpAny_bind (wpAny_rule ?_)
  refine call_meets PySem.F.slot_list_iadd ⟨_, z.1, rfl⟩ PySem.F.entry_list_iadd (PySem.F.args_list_iadd_2 _ _) (PySem.AutoSeq1.list___iadd___list_list_0 D its n b its2 n2 hd (by rw [sizeLine_eq]; omega) (by rw [sizeLine_eq]; omega)) ⟨z.1, (N _ hb).1, ?_⟩
  refine (h _ (F.change (Heap.SameBut.update ..) z.2.1 z.2.2) (kl_turn _ N a c ?_ ?_))
  · apply Array.toList_inj.mp
    simp
  · simp at hne ⊢
    exact hne
end
section
variable {prog : Program} {w : World} {A : Around} {E : Value → Shared → Prop} {s : Shared} {env : Env} {h₀ : Heap} {x : Str} {body : List Stmt} {Q : Flow → Shared → Prop}
/-- a loop over a range by any step, by an invariant over the ledger -/
theorem krs_inv {I L : Addr} {a c : Int} {n : Nat} (stored : List Str) (hL : env.locals = L) (K : Nat → List (Addr × Obj) → Prop) {m₀ : Str → Option Value} {news : List (Addr × Obj)} (h0 : K 0 news)
    (turn : ∀ i t h tk (u : Str → Option Value) news, i < n → K i news → Fr h₀ L h (fun y => if y = x then some (.int (a + (i : Int) * c) t) else if stored.contains y then u y else m₀ y) →
      News h₀ L h ((I, krsIt (a + ((i + 1 : Nat) : Int) * c) ((n : Int) - ((i + 1 : Nat) : Int)) c) :: news) →
      wpAny (model prog w) A (execs body env) (UnrPost h₀ L { s with heap := h, toks := tk } I (krsIt (a + ((i + 1 : Nat) : Int) * c) ((n : Int) - ((i + 1 : Nat) : Int)) c) (fun m' n' => (∀ z, stored.contains z = false → m' z = m₀ z) ∧ K (i + 1) n') Q) E { s with heap := h, toks := tk })
    (fin : ∀ h tk (u : Str → Option Value) news, K n news → Fr h₀ L h (fun y => if stored.contains y then u y else m₀ y) → News h₀ L h news → Q .next { s with heap := h, toks := tk }) :
    KrsRest prog w A E h₀ env x body Q s I a c n n 0 m₀ news := by
  subst hL
  have fe : ∀ m : Str → Option Value, (∀ z, stored.contains z = false → m z = m₀ z) → m = fun z => if stored.contains z then m z else m₀ z := by
    intro m h
    funext z
    cases e : stored.contains z with
    | true => rw [if_pos rfl]
    | false => rw [if_neg (by simp), h z e]
  have key : ∀ (j i : Nat) (m : Str → Option Value) (news : List (Addr × Obj)), i + j = n → (∀ z, stored.contains z = false → m z = m₀ z) → K i news → KrsRest prog w A E h₀ env x body Q s I a c n j i m news := by
    intro j
    induction j with
    | zero =>
      intro i m news hi hm hK
      obtain rfl : i = n := by omega
      refine KrsRest.zero fun h tk F N => ?_
      rw [fe m hm] at F
      exact fin h tk m news hK F N
    | succ j ih =>
      intro i m news hi hm hK
      refine KrsRest.succ rfl fun t h tk F N => ?_
      rw [fe m hm] at F
      refine wpAny_mono (turn i t h tk m news (by omega) hK F N) (fun f s₃ hp => ?_) fun _ _ e => e
      have go : UnrEnd h₀ env.locals { s with heap := h, toks := tk } I (krsIt (a + ((i + 1 : Nat) : Int) * c) ((n : Int) - ((i + 1 : Nat) : Int)) c) (fun m' n' => (∀ z, stored.contains z = false → m' z = m₀ z) ∧ K (i + 1) n') s₃ →
          UnrEnd h₀ env.locals { s with heap := h, toks := tk } I (krsIt (a + ((i + 1 : Nat) : Int) * c) ((n : Int) - ((i + 1 : Nat) : Int)) c) (KrsRest prog w A E h₀ env x body Q s I a c n j (i + 1)) s₃ := by
        rintro ⟨h', tk', m', news', e, F', N', ho, hz, hK'⟩
        exact ⟨h', tk', m', news', e, F', N', ho, ih (i + 1) m' news' (by omega) hz hK'⟩
      cases f with
      | ret v => exact hp
      | brk => exact hp
      | next => exact go hp
      | cont => exact go hp
  exact key n 0 m₀ news (by omega) (fun _ _ => rfl) h0
end
/-- the ledger between two turns of the loop in _law_octets -/
def LedO (D : Addr) (p : Addr × Obj) (r : List (Addr × Obj)) (fs : List Int) (i : Nat) (n : List (Addr × Obj)) : Prop := ∃ (us : List Value) (k : Nat), IntsAre us (dec (fs.take (4 * i))) ∧ n = (D, listOf us.toArray k) :: p :: r
theorem dec_four {fs : List Int} {i : Nat} {x0 x1 x2 x3 : Int} (h : fs.take (4 * i + 4) = fs.take (4 * i) ++ [x0, x1, x2, x3]) (hl : 4 * i ≤ fs.length) : dec (fs.take (4 * (i + 1))) = dec (fs.take (4 * i)) ++ [4 * x0 + x1 / 16, x1 % 16 * 16 + x2 / 4, x2 % 4 * 64 + x3] := by
  rw [show 4 * (i + 1) = 4 * i + 4 by omega, h, dec_append _ _ (by rw [List.length_take]; omega)]
  rfl
theorem ints_app {us vs : List Value} {ns ms : List Int} (h : IntsAre us ns) (h2 : IntsAre vs ms) : IntsAre (us ++ vs) (ns ++ ms) := by
  induction h with
  | nil => exact h2
  | cons n t _ ih => exact .cons n t ih
theorem fd16 (b : Int) : b / 16 = b.fdiv 16 := (Int.fdiv_eq_ediv_of_nonneg b (by decide)).symm
theorem fd4 (b : Int) : b / 4 = b.fdiv 4 := (Int.fdiv_eq_ediv_of_nonneg b (by decide)).symm
theorem fm16 (b : Int) : b % 16 = b.fmod 16 := (Int.fmod_eq_emod_of_nonneg b (by decide)).symm
theorem fm4 (b : Int) : b % 4 = b.fmod 4 := (Int.fmod_eq_emod_of_nonneg b (by decide)).symm
theorem oct_end {h₀ h' : Heap} {L I D : Addr} {it : Obj} {a b p : Addr × Obj} {r : List (Addr × Obj)} {s₁ : Shared} {tk k i : Nat} {ws : List Value} {fs : List Int} {m' m₀ : Str → Option Value} {stored : List Str} (F : Fr h₀ L h' m') (N : News h₀ L h' (a :: b :: (I, it) :: (D, listOf ws.toArray k) :: p :: r))
    (hlt : (@LT.lt Nat _ D I) ∧ (@LT.lt Nat _ p.1 I) ∧ AllLt I r) (hz : ∀ z, stored.contains z = false → m' z = m₀ z) (hI : IntsAre ws (dec (fs.take (4 * (i + 1))))) :
    UnrEnd h₀ L s₁ I it (fun m' n' => (∀ z, stored.contains z = false → m' z = m₀ z) ∧ LedO D p r fs (i + 1) n') { s₁ with heap := h', toks := tk } := by
  refine ⟨h', tk, m', (D, listOf ws.toArray k) :: p :: r, rfl, F, fun q hq => N q (.tail _ (.tail _ hq)), fun q hq => ?_, hz, ws, k, hI, rfl⟩
  rcases List.mem_cons.mp hq with rfl | hq
  · exact Nat.ne_of_lt hlt.1
  rcases List.mem_cons.mp hq with rfl | hq
  · exact Nat.ne_of_lt hlt.2.1
  · exact Nat.ne_of_lt (kst_ltOf hlt.2.2 q hq)
theorem small4 {q : Nat} (h : q ≤ 4) : Builtin.Range.small 0 ((4 * q : Nat) : Int) 4 = true := by
  have : ∀ q : Fin 5, Builtin.Range.small 0 ((4 * q.val : Nat) : Int) 4 = true := by decide
  exact this ⟨q, by omega⟩
theorem size4 {q : Nat} (h : q ≤ 4) : Builtin.Range.rangeSize 0 ((4 * q : Nat) : Int) 4 = ((q : Nat) : Int) := by
  have : ∀ q : Fin 5, Builtin.Range.rangeSize 0 ((4 * q.val : Nat) : Int) 4 = ((q.val : Nat) : Int) := by decide
  exact this ⟨q, by omega⟩
theorem ints_drop : ∀ {vs : List Value} {ns : List Int}, IntsAre vs ns → ∀ k, IntsAre (vs.drop k) (ns.drop k) := by
  intro vs ns h
  induction h with
  | nil => intro k; simp; exact .nil
  | cons n t h ih =>
    intro k
    cases k with
    | zero => exact .cons n t h
    | succ k => exact ih k
theorem four_at {vs : List Value} {fs : List Int} {k : Nat} (hI : IntsAre vs fs) (h : k + 4 ≤ fs.length) : ∃ x0 x1 x2 x3 t0 t1 t2 t3 vr, vs.drop k = Value.int x0 t0 :: .int x1 t1 :: .int x2 t2 :: .int x3 t3 :: vr ∧ fs.take (k + 4) = fs.take k ++ [x0, x1, x2, x3] := by
  have hd := ints_drop hI k
  have hl : 4 ≤ (fs.drop k).length := by rw [List.length_drop]; omega
  have ht : fs.take (k + 4) = fs.take k ++ (fs.drop k).take 4 := List.take_add
  generalize fs.drop k = ds at hd hl ht
  generalize vs.drop k = us at hd
  cases hd with
  | nil => simp at hl
  | cons x0 t0 hd => cases hd with
    | nil => simp at hl
    | cons x1 t1 hd => cases hd with
      | nil => simp at hl
      | cons x2 t2 hd => cases hd with
        | nil => simp at hl
        | cons x3 t3 hd => exact ⟨x0, x1, x2, x3, t0, t1, t2, t3, _, rfl, ht⟩
theorem pick4 {vs vr : List Value} {v0 v1 v2 v3 : Value} {lo hi : Int} {k : Nat} (h : vs.drop k = v0 :: v1 :: v2 :: v3 :: vr) (hlo : lo = (k : Int)) (hhi : hi = (k : Int) + 4) : kms_pick vs.toArray.toList (some lo) (some hi) = [v0, v1, v2, v3] := by
  have hl : vs.length = k + (vr.length + 4) := by
    have := congrArg List.length h
    rw [List.length_drop] at this
    simp only [List.length_cons] at this; omega
  subst hlo hhi
  unfold kms_pick kms_lo kms_hi
  rw [List.toList_toArray]
  dsimp only
  rw [if_neg (by omega), if_neg (by omega), show min ((k : Int)).toNat vs.length = k by omega, show min ((k : Int) + 4).toNat vs.length = k + 4 by omega, h, show k + 4 - k = 4 by omega]
  rfl
local macro_rules | `(tactic| k_room) => `(tactic| ktr_room)
local macro_rules | `(tactic| walk_at "call builtin:len") => `(tactic| ((with_reducible show wpAny _ _ (call (Value.builtin "len") [Value.ref _]) _ _ _); k_dflt (refine kun_lenL (by is_list) (by assumption) (by omega) ?_); (try dsimp only)))
local macro_rules | `(tactic| walk_at "last pyIter ref") => `(tactic| refine Hold.out ?_)
local macro_rules | `(tactic| walk_at "UnrEnd") => `(tactic| refine Hold.out ?_)
local macro_rules | `(tactic| walk_at "subscriptTail Name Slice ref ref") => `(tactic| (k_dflt (refine' kms_slice_lit ?F ?N ?l ?p ?q ?e ?_ ?s ?t ?z; (case F => k_asm); (case N => k_asm); (case l => is_list); (case p => kmk_part); (case q => kmk_part); (case e => exact pick4 (by assumption) (by omega) (by omega)); (case s => with_unfolding_all rfl); (case t => kmk_pure); (case z => assumption)); intro D' h' F' N' l1; (try k_lt l1); (try k_sweep)))
local macro_rules | `(tactic| walk_at "inplaceOp Add ref ref") => `(tactic| (k_dflt (refine' iadd_lists ?F ?N ?b ?ne ?U ?z ?y ?_; (case F => k_asm); (case N => k_asm); (case b => k_mem); (case U => k_upd); (case ne => kl_some); (case z => assumption); (case y => exact Nat.le_of_ble_eq_true rfl); intro h' F' N'; (try dsimp only at N'); (try k_sweep))))
theorem octets_con (w : World) (vs : List Value) (fs : List Int) (kk : Nat) (hi : IntsAre vs fs) (hx : ∀ f ∈ fs, 0 ≤ f ∧ f < 64) (h : fs.length = 4 ∨ fs.length = 8 ∨ fs.length = 12 ∨ fs.length = 16) :
    ConA 1 w 148 (listOf vs.toArray kk) (fun t => .bytes (octB fs).toArray t) := by
  obtain ⟨q, hq, hq4⟩ : ∃ q, fs.length = 4 * q ∧ q ≤ 4 := ⟨fs.length / 4, by omega, by omega⟩
  have hsz : ((vs.toArray.size : Nat) : Int) = ((4 * q : Nat) : Int) := by rw [List.size_toArray, hi.length, hq]
  have hszL : vs.toArray.size ≤ sizeLine := by rw [List.size_toArray, hi.length, hq, sizeLine_eq]; omega
  w_on
  unfold ConA
  intro prog p loose mean mg mb dp un gd cn cs ad ccd cl outer A₀ base h₀ L m news s Q E al B F X N T hk hdp hun hret
  refine wpAny_call ?_
  k_dflt cell_enter
  k_steps
  refine ⟨?_⟩
  rename IsRange _ _ _ _ _ _ _ _ => rg
  rename Fr _ _ _ _ => lF
  rename News _ _ _ _ => lN
  k_dflt (refine krs_iter (n := q) (by rfl) rg (small4 hq4) (size4 hq4) lF lN ?_)
  intro I lI
  k_dflt (refine' krs_inv [PySem.Str.ofString "k", PySem.Str.ofString "a", PySem.Str.ofString "b", PySem.Str.ofString "c", PySem.Str.ofString "d"] (by rfl) (LedO _ _ _ fs) ⟨[], 0, .nil, rfl⟩ ?turn ?fin)
  case turn =>
    rintro i t h tk u n2 hiq ⟨us, kn, hus, rfl⟩ F1 N1
    clear lF lN
    k_lt lI
    obtain ⟨x0, x1, x2, x3, t0, t1, t2, t3, vr, hdr, htk⟩ := four_at (k := 4 * i) hi (by omega)
    have hul : us.toArray.size ≤ 1000 := by
      have h1 := dec_length (fs.take (4 * i))
      rw [List.size_toArray, hus.length]
      rw [List.length_take] at h1; omega
    (try k_unmd); (try k_fold)
    k_steps
    refine ⟨?_⟩
    rename News _ _ _ _ => N3
    rename Fr _ _ _ _ => F3
    k_dflt (refine oct_end F3 N3 lI ?_ ?_)
    · intro z hz
      have hz2 := hz
      simp only [List.contains_cons, List.contains_nil, Bool.or_false, Bool.or_eq_false_iff, beq_eq_false_iff_ne, ne_eq] at hz2
      obtain ⟨z1, z2, z3, z4, z5⟩ := hz2
      by_cases h0 : z = PySem.Str.ofString "octets"
      · simp only [h0, if_true]
      · simp only [z1, z2, z3, z4, z5, h0, hz, if_false, Bool.false_eq_true]
    · rw [dec_four htk (by omega)]
      refine ints_app (by simpa using hus) ?_
      simp only [fd16, fd4, fm16, fm4]
      exact .cons _ _ (.cons _ _ (.cons _ _ .nil))
  case fin =>
    rintro h tk u n2 ⟨us, kn, hus, rfl⟩ F1 N1
    clear lF lN
    rw [← hq, List.take_length] at hus
    (try k_unmd); (try k_fold)
    k_steps
    refine bytes_K (ns := dec fs) (by k_asm) (by k_asm) (by is_list) hus (fun n hn => dec_in _ hx n hn) (by have h1 := dec_length fs; have h2 := hus.length; have h3 := sizeLine_eq; (try simp only [List.size_toArray]); omega) rfl ?_
    intro h' t' k' F' N' hB
    (try dsimp only)
    k_steps
    rename News h₀ L _ _ => kNx
    exact hret _ _ _ (by k_asm) (fun q hq => kNx q (List.mem_cons_of_mem _ hq))
end Mine
/- Fig -/
set_option maxRecDepth 100000
set_option maxHeartbeats 8000000
namespace Mine
open LCg
theorem filledF : PySem.Challenge.rw_pa0022_01 = PySem.Challenge.rw_pa0022_01 ∧ hd.heap_39 = hd.heap_39 := by k_fill; exact ⟨rfl, rfl⟩
/-- a call of the def at f upon a list al that stands in the caller's ledger; a new object comes back -/
def ConAR (lv : Nat) (w : World) (f : Addr) (o : Obj) (V : Obj → Prop) : Prop :=
  ∀ (prog p : Program) (loose : List Str) (mean : ExcName → Option Value) (mg mb : Str → Option Value) (dp un : Nat) (gd : Option (List Code)) (cn : Str) (cs : Scope) (a : Addr) (ccd : Value) (cl : List (Str × Addr)) (outer : List Env) (A₀ : Around) (base h₀ : Heap) (L : Addr) (m : Str → Option Value) (news : List (Addr × Obj)) (s : Shared) (Q E : Value → Shared → Prop) (al : Addr),
    Below A₀ base outer h₀ → Fr h₀ L s.heap m → (hd.heap_39 w.params).In h₀ → News h₀ L s.heap ((al, o) :: news) → Top p loose mean mg mb h₀ → cs.kind = .function → dp + lv ≤ 350 → un + 8 * lv ≤ 400 →
    (∀ (r : Addr) (o' : Obj) (h' : Heap) (tk' : Nat), V o' → Fr h₀ L h' m → News h₀ L h' ((r, o') :: (al, o) :: news) → (∀ q ∈ (al, o) :: news, q.1 < r) → Q (.ref r) { s with heap := h', toks := tk' }) →
      wpAny (model prog w) (ktrTop dp un gd cn cs L a ccd cl outer) (call (.ref f) [.ref al] []) Q E s
theorem ints_of {P : Int → Prop} : ∀ {ys : List Value}, (∀ (i : Nat) (y : Value), ys[i]? = some y → ∃ f t, y = Value.int f t ∧ P f) → ∃ fs : List Int, IntsAre ys fs ∧ (∀ f ∈ fs, P f) ∧ fs.length = ys.length := by
  intro ys
  induction ys with
  | nil => intro _; exact ⟨[], .nil, by simp, rfl⟩
  | cons y ys ih =>
    intro h
    obtain ⟨fs, h1, h2, h3⟩ := ih fun i z hz => h (i + 1) z (by simpa using hz)
    obtain ⟨f, t, rfl, hf⟩ := h 0 y rfl
    exact ⟨f :: fs, .cons f t h1, by intro g hg; rcases List.mem_cons.mp hg with rfl | hg; exact hf; exact h2 g hg, by simp [h3]⟩
theorem ints_at : ∀ {vs : List Value} {ns : List Int}, IntsAre vs ns → ∀ {i : Nat} {v : Value}, vs[i]? = some v → ∃ x t, v = Value.int x t := by
  intro vs ns h
  induction h with
  | nil => intro i v h; simp at h
  | cons n t _ ih =>
    intro i v h
    cases i with
    | zero => exact ⟨n, t, by simpa using h.symm⟩
    | succ i => exact ih (by simpa using h)
theorem rep_flat (k : Nat) : (List.replicate k [(0 : Int)]).flatten = List.replicate k 0 := by
  induction k with
  | zero => rfl
  | succ k ih => rw [List.replicate_succ, List.flatten_cons, ih]; rfl
theorem pick3 {prog : Program} {w : World} {A : Around} {E : Value → Shared → Prop} {s : Shared} {value slice : Expr} {al : Addr} {a b c x : Int} {ta tb tc u : Tok} {Q : Value → Shared → Prop}
    (hl : s.heap.IsList al [Value.int a ta, .int b tb, .int c tc].toArray) (h : ∀ f t, (f = a ∨ f = b ∨ f = c) → Q (.int f t) s)
    (hs : subscripted slice false (.ref al) (.int (x.fmod 3) u) = operate [.ref al, .int (x.fmod 3) u] (getItem (.ref al) (.int (x.fmod 3) u)) := by with_unfolding_all rfl) :
    wpAny (model prog w) A (subscriptTail value slice (.ref al) (.int (x.fmod 3) u)) Q E s := by
  have e : x.fmod 3 = x % 3 := Int.fmod_eq_emod_of_nonneg _ (by omega)
  refine tail_any hl.typeIs slot_list_getitem.lookup ?_ hs
  rcases (by omega : x % 3 = 0 ∨ x % 3 = 1 ∨ x % 3 = 2) with e3 | e3 | e3
  · exact wpAny_getItem_list hl (by omega) (by omega) (by rw [e, e3]; rfl) (h a ta (.inl rfl))
  · exact wpAny_getItem_list hl (by omega) (by omega) (by rw [e, e3]; rfl) (h b tb (.inr (.inl rfl)))
  · exact wpAny_getItem_list hl (by omega) (by omega) (by rw [e, e3]; rfl) (h c tc (.inr (.inr rfl)))
local macro_rules | `(tactic| k_room) => `(tactic| ktr_room)
local macro_rules | `(tactic| walk_at "eval ListComp") => `(tactic| (k_dflt (refine ListComp_U (F₀ := by k_asm) (by with_unfolding_all rfl) (by decide) (by rfl) (by decide) (by rfl) ?_)))
local macro_rules | `(tactic| walk_at "binaryOp Add ref ref") => `(tactic| (k_dflt (refine' kmk_add_ints ?F ?N ?a ?b ?i ?j ?_ ?z; (case F => k_asm); (case N => k_asm); (case a => is_list); (case b => is_list); (case i => first | assumption | l_ints); (case j => first | assumption | l_ints); (case z => (simp only [sizeLine_eq, List.length_cons, List.length_nil, List.length_append]; omega)); intro D' ws' h' F' N' l1 hI'; (try k_lt l1))))
local macro_rules | `(tactic| walk_at "subscriptTail") => `(tactic| ((with_reducible show wpAny _ _ (subscriptTail _ _ (Value.ref _) (Value.int (Int.fmod _ 3) _)) _ _ _); k_dflt (refine pick3 (by is_list) ?_); intro f' t' hf'; (try dsimp only)))
theorem figures_con (w : World) (vs : List Value) (ns : List Int) (kk : Nat) (hi : IntsAre vs ns) (hl : ns.length ≤ 63) :
    ConAR 1 w 141 (listOf vs.toArray kk) (fun o => ∃ us fs k, o = listOf (List.toArray us) k ∧ IntsAre us fs ∧ (∀ f ∈ fs, 0 ≤ f ∧ f < 64) ∧ (fs.length = 4 ∨ fs.length = 8 ∨ fs.length = 12 ∨ fs.length = 16)) := by
  w_on
  unfold ConAR
  intro prog p loose mean mg mb dp un gd cn cs ad ccd cl outer A₀ base h₀ L m news s Q E al B F X N T hk hdp hun hret
  refine wpAny_call ?_
  k_dflt cell_enter
  k_steps
  rename IntsAre _ _ => hI
  rename News _ _ _ _ => eN
  rename Fr _ _ _ _ => eF
  have hws := hI.length
  rename _ ∧ AllLt _ _ => lx
  refine CompSrc.ledger rfl eF eN (.head _) (by rw [List.size_toArray, sizeLine_eq]; omega) ?_
  intro gC
  refine rest_stay (fun i y => ∃ f t, y = .int f t ∧ (0 ≤ f ∧ f < 64)) (.inr ⟨_, .head _, rfl, _, rfl⟩) ?_ ?_
  · rintro i v I oI C oC D2 m₂ ys h tk E' hi2 hiv hC hx F1 N1 off ne
    obtain ⟨x, t, rfl⟩ : ∃ x t, v = .int x t := by
      have h1 : _ := (show (List.toArray _)[i]? = some v from hiv)
      rw [List.getElem?_toArray] at h1
      exact ints_at hI h1
    (try k_unmd); (try k_fold)
    k_steps
    rename _ ∨ _ ∨ _ => hf3
    have hb : ∀ z : Int, 0 ≤ z.fmod 64 ∧ z.fmod 64 < 64 := fun z => by rw [Int.fmod_eq_emod_of_nonneg _ (by omega)]; omega
    refine StayEnd.intro (by k_asm) (by k_asm) (fun q hq => List.mem_cons_of_mem _ hq) ⟨_, _, rfl, ?_⟩
    rcases hf3 with e | e | e
    · omega
    · omega
    · rw [e]; exact hb _
  · intro ys hys hV
    intro D2 h tk F1 N1 o1
    obtain ⟨fs, hfs, hfb, hfl⟩ := ints_of hV
    have hfl' : fs.length ≤ 10 := by rw [hfl, hys, List.size_toArray]; omega
    (try dsimp only)
    k_steps
    rename News h₀ L _ _ => kNx
    rename Fr h₀ L _ m => kFx
    rename IntsAre _ (_ ++ _ ++ _) => hI2
    rename _ < _ ∧ _ => lz
    obtain ⟨_, _, _, _, _, _, hal1, hal⟩ := lz
    rw [rep_flat] at hI2
    refine hret _ _ _ _ ⟨_, _, _, rfl, hI2, ?_, ?_⟩ kFx (news_keep1 (mid := [_, _, _, _, _, _]) kNx) ?_
    · intro f hf
      rcases List.mem_append.mp hf with hf | hf
      · rcases List.mem_append.mp hf with hf | hf
        · exact hfb f hf
        · simp at hf; omega
      · rw [(List.mem_replicate.mp hf).2]; omega
    · rw [List.length_append, List.length_append, List.length_replicate]
      have hm : ∀ z : Int, z.fmod 4 = z % 4 := fun z => Int.fmod_eq_emod_of_nonneg _ (by omega)
      rw [hm]
      simp only [List.length_cons, List.length_nil]
      omega
    · intro q hq
      rcases List.mem_cons.mp hq with rfl | hq
      · exact hal1
      · exact kst_ltOf hal q hq
end Mine
/- SivM -/
namespace Mine
/-- the sum of f over the multiples of p below size -/
def sums (f : Nat → Int) (p size : Nat) : Int := ((List.range (rowN p size)).map fun j => f (j * p)).sum
theorem rowN_two {p size : Nat} (hp : 1 ≤ p) (h : p < size) : 2 ≤ rowN p size := by
  unfold rowN
  rw [if_pos (by omega)]
  have : 1 ≤ (size - 1) / p := (Nat.le_div_iff_mul_le (by omega)).mpr (by omega)
  omega
theorem sums_two {f : Nat → Int} {p size : Nat} (hp : 1 ≤ p) (h : p < size) : sums f p size = f 0 + f p + ((List.range (rowN p size - 2)).map fun i => f ((i + 2) * p)).sum := by
  have h2 := rowN_two hp h
  obtain ⟨r, hr⟩ : ∃ r, rowN p size = r + 2 := ⟨rowN p size - 2, by omega⟩
  unfold sums
  rw [hr, List.range_succ_eq_map, List.range_succ_eq_map, Nat.add_sub_cancel]
  simp only [List.map_cons, List.map_map, List.sum_cons, Nat.zero_mul, Nat.one_mul, Nat.succ_eq_add_one, Nat.zero_add]
  have e : (List.map ((fun j => f (j * p)) ∘ (fun x => x + 1) ∘ fun x => x + 1) (List.range r)) = List.map (fun i => f ((i + 2) * p)) (List.range r) := List.map_congr_left fun i _ => rfl
  first
    | rw [e]; omega
    | (simp only [Function.comp_def, Nat.add_assoc] at e ⊢; omega)
theorem sums_one {f : Nat → Int} {size : Nat} (h : 1 ≤ size) : sums f size size = f 0 := by
  unfold sums rowN
  rw [if_pos (by omega), Nat.div_eq_of_lt (by omega)]
  simp
theorem rangeSize_two {p size : Nat} (hp : 1 ≤ p) (h : p < size) : Builtin.Range.rangeSize (2 * (p : Int)) (size : Int) (p : Int) = ((rowN p size - 2 : Nat) : Int) := by
  have h0 := rowN_two hp h
  unfold Builtin.Range.rangeSize
  have hpp : (0 : Int) < p := by omega
  by_cases h2 : 2 * p < size
  · have e1 : ((size : Int) - 2 * (p : Int) - 1) / (p : Int) = (((size - 1) / p - 2 : Nat) : Int) := by
      have a1 : ((size : Int) - 2 * (p : Int) - 1) = ((size - 1 - 2 * p : Nat) : Int) := by omega
      rw [a1, ← Int.natCast_ediv]
      congr 1
      rw [Nat.mul_comm 2 p, Nat.sub_mul_div]
    have e2 : 2 ≤ (size - 1) / p := (Nat.le_div_iff_mul_le (by omega)).mpr (by omega)
    have e3 : rowN p size = (size - 1) / p + 1 := by unfold rowN; rw [if_pos (by omega)]
    simp only [hpp, if_true, gt_iff_lt]
    rw [if_pos (by omega)]
    rw [e1, e3]; omega
  · have e3 : rowN p size = 2 := by
      unfold rowN; rw [if_pos (by omega)]
      have : (size - 1) / p < 2 := (Nat.div_lt_iff_lt_mul (by omega)).mpr (by omega)
      have : 1 ≤ (size - 1) / p := (Nat.le_div_iff_mul_le (by omega)).mpr (by omega)
      omega
    simp only [hpp, if_true, gt_iff_lt]
    rw [if_neg (by omega), e3]; rfl
/-- the marks after j turns -/
def marksL (f : Nat → Int) (size j : Nat) : List Int := (List.range size).map fun p => if size - j ≤ p then f p else 0
theorem marks_len {f : Nat → Int} {size j : Nat} : (marksL f size j).length = size := by simp [marksL]
theorem marks_zero {f : Nat → Int} {size : Nat} : marksL f size 0 = List.replicate size 0 := by
  apply List.ext_getElem
  · simp [marksL]
  · intro i h1 h2
    simp [marksL] at h1 ⊢
    intro h; omega
theorem marks_get {f : Nat → Int} {size j k : Nat} (h : size - j ≤ k) (hk : k < size) : (marksL f size j)[k]? = some (f k) := by
  unfold marksL
  rw [List.getElem?_map, List.getElem?_range hk, Option.map_some, if_pos h]
theorem marks_set {f : Nat → Int} {size j : Nat} (h : j < size) : (marksL f size j).set (size - 1 - j) (f (size - 1 - j)) = marksL f size (j + 1) := by
  apply List.ext_getElem
  · simp [marksL]
  · intro i h1 h2
    rw [List.getElem_set]
    simp only [marksL, List.getElem_map, List.getElem_range]
    by_cases e : size - 1 - j = i
    · rw [if_pos e, if_pos (by omega), e]
    · rw [if_neg e]
      by_cases e2 : size - j ≤ i
      · rw [if_pos e2, if_pos (by omega)]
      · rw [if_neg e2, if_neg (by omega)]
theorem marks_end {f : Nat → Int} {size : Nat} (h : 1 ≤ size) : f 0 :: (marksL f size (size - 1)).drop 1 = (List.range size).map f := by
  obtain ⟨n, rfl⟩ : ∃ n, size = n + 1 := ⟨size - 1, by omega⟩
  apply List.ext_getElem
  · simp [marksL]
  · intro i h1 h2
    cases i with
    | zero => simp
    | succ i =>
      simp only [List.getElem_cons_succ, List.getElem_drop, marksL, List.getElem_map, List.getElem_range]
      rw [if_pos (by omega), Nat.add_comm 1 i]
end Mine
/- Siv -/
set_option maxRecDepth 100000
set_option maxHeartbeats 8000000
namespace Mine
open LCg
theorem filledS : PySem.Challenge.rw_pa0022_01 = PySem.Challenge.rw_pa0022_01 ∧ hd.heap_39 = hd.heap_39 := by k_fill; exact ⟨rfl, rfl⟩
local macro_rules | `(tactic| k_room) => `(tactic| ktr_room)
local macro_rules | `(tactic| walk_at "call builtin:len") => `(tactic| ((with_reducible show wpAny _ _ (call (Value.builtin "len") [Value.ref _]) _ _ _); k_dflt (refine kun_lenL (by is_list) (by assumption) (by omega) ?_); (try dsimp only)))
theorem ints_get : ∀ {vs : List Value} {ns : List Int}, IntsAre vs ns → ∀ {i : Nat} {x : Int}, ns[i]? = some x → ∃ t, vs[i]? = some (Value.int x t) := by
  intro vs ns h
  induction h with
  | nil => intro i v h; simp at h
  | cons n t _ ih =>
    intro i v h
    cases i with
    | zero => exact ⟨t, by simpa using h⟩
    | succ i => exact ih (by simpa using h)
theorem rep_flatV (k : Nat) (v : Value) : (List.replicate k [v]).flatten = List.replicate k v := by
  induction k with
  | zero => rfl
  | succ k ih => rw [List.replicate_succ, List.flatten_cons, ih]; rfl
theorem ints_repV (k : Nat) (t : Tok) : IntsAre (List.replicate k (Value.int 0 t)) (List.replicate k 0) := by
  induction k with
  | zero => exact .nil
  | succ k ih => exact .cons 0 t ih
theorem rangeSize_down {n : Nat} : Builtin.Range.rangeSize ((n : Int) - 1) 0 (-1) = ((n - 1 : Nat) : Int) := by
  unfold Builtin.Range.rangeSize
  by_cases h : 1 < n
  · simp; omega
  · simp; omega
theorem ints_eq {g : Nat → Int} : ∀ {ys : List Value} {n : Nat}, ys.length = n → (∀ (i : Nat) (y : Value), ys[i]? = some y → ∃ x t, y = Value.int x t ∧ x = g i) → ∃ fs : List Int, IntsAre ys fs ∧ fs = (List.range n).map g := by
  intro ys n h hV
  subst h
  obtain ⟨fs, h1, _, h3⟩ := ints_of (P := fun _ => True) (fun i y hy => by obtain ⟨x, t, e, _⟩ := hV i y hy; exact ⟨x, t, e, trivial⟩)
  refine ⟨fs, h1, ?_⟩
  apply List.ext_getElem
  · simp [h3]
  · intro i hi1 hi2
    obtain ⟨t, ht⟩ := ints_get h1 (List.getElem?_eq_getElem hi1)
    obtain ⟨x, t', e, ex⟩ := hV i _ ht
    cases e
    rw [List.getElem_map, List.getElem_range]
    exact ex
theorem ints_set : ∀ {vs : List Value} {ns : List Int}, IntsAre vs ns → ∀ (i : Nat) (x : Int) (t : Tok), IntsAre (vs.set i (.int x t)) (ns.set i x) := by
  intro vs ns h
  induction h with
  | nil => intro i x t; exact .nil
  | cons n t' h' ih =>
    intro i x t
    cases i with
    | zero => exact .cons x t h'
    | succ i => exact .cons n t' (ih i x t)
theorem set_head {prog : Program} {w : World} {A : Around} {E : Value → Shared → Prop} {s : Shared} {h₀ : Heap} {L D : Addr} {m : Str → Option Value} {rest : List (Addr × Obj)} {vs : List Value} {n j : Nat} {k : Int} {t : Tok} {v : Value} {Q : Unit → Shared → Prop}
    (F : Fr h₀ L s.heap m) (N : News h₀ L s.heap ((D, listOf vs.toArray n) :: rest)) (hk : k = (j : Int)) (hj : j < vs.length) (hl : vs.length ≤ 10000) (off : ∀ q ∈ rest, q.1 ≠ D)
    (h : ∀ h', Fr h₀ L h' m → News h₀ L h' ((D, listOf (vs.set j v).toArray n) :: rest) → Q () { s with heap := h' }) : wpAny (model prog w) A (setItem (.ref D) (.int k t) v) Q E s := by
  have z := N _ List.mem_cons_self
  subst hk
  refine ki_setAt z.1 (by omega) (by omega) (by rw [List.size_toArray]; omega) (h _ (F.change (Heap.SameBut.update ..) z.2.1 z.2.2) (kl_turn0 (pre := []) _ N (by simp) off ?_ ?_))
  · rw [Int.toNat_natCast]; simp
  · simp
theorem small_two {p n : Nat} (hp : 1 ≤ p) (hpn : p < n) (h : n ≤ 16) : Builtin.Range.small (2 * (p : Int)) (n : Int) (p : Int) = true := by
  have : ∀ n p : Fin 17, 1 ≤ p.val → Builtin.Range.small (2 * ((p : Nat) : Int)) ((n : Nat) : Int) ((p : Nat) : Int) = true := by decide +kernel
  exact this ⟨n, by omega⟩ ⟨p, by omega⟩ hp
theorem pick_at {prog : Program} {w : World} {A : Around} {E : Value → Shared → Prop} {s : Shared} {value slice : Expr} {al : Addr} {vs : List Value} {ns : List Int} {i x : Int} {j : Nat} {u : Tok} {Q : Value → Shared → Prop}
    (hl : s.heap.IsList al vs.toArray) (hI : IntsAre vs ns) (he : i = (j : Int)) (hn : ns[j]? = some x) (hj : ns.length ≤ 10000) (h : ∀ t, Q (.int x t) s)
    (hs : subscripted slice false (.ref al) (.int i u) = operate [.ref al, .int i u] (getItem (.ref al) (.int i u)) := by with_unfolding_all rfl) :
    wpAny (model prog w) A (subscriptTail value slice (.ref al) (.int i u)) Q E s := by
  obtain ⟨t, ht⟩ := ints_get hI hn
  have hlt : j < vs.length := (List.getElem?_eq_some_iff.mp ht).1
  have hle := hI.length
  refine tail_any hl.typeIs slot_list_getitem.lookup ?_ hs
  refine wpAny_getItem_list hl (by omega) (by omega) ?_ (h t)
  subst he
  rw [Int.toNat_natCast]
  simpa using ht
theorem small_down {n : Nat} (h : n ≤ 16) : Builtin.Range.small ((n : Int) - 1) 0 (-1) = true := by
  have : ∀ n : Fin 17, Builtin.Range.small (((n : Nat) : Int) - 1) 0 (-1) = true := by decide
  exact this ⟨n, by omega⟩
local macro_rules | `(tactic| walk_at "eval ListComp") => `(tactic| (k_dflt (refine ListComp_step (F₀ := by k_asm) (by with_unfolding_all rfl) (by decide) (by rfl) (by decide) (by rfl) ?_)))
local macro_rules | `(tactic| walk_at "subscriptTail") => `(tactic| ((with_reducible show wpAny _ _ (subscriptTail _ _ (Value.ref _) (Value.int _ _)) _ _ _); k_dflt (refine pick_at (by is_list) (by assumption) (by assumption) (by assumption) (by rw [marks_len]; omega) ?_; intro t6; (try dsimp only))))
local macro_rules | `(tactic| walk_at "binaryOp Add ref ref") => `(tactic| (k_dflt (refine' kmk_add_ints ?F ?N ?a ?b ?i ?j ?_ ?z; (case F => k_asm); (case N => k_asm); (case a => is_list); (case b => is_list); (case i => first | assumption | l_ints); (case j => first | assumption | l_ints); (case z => (simp only [sizeLine_eq, List.length_cons, List.length_nil, List.length_append, List.length_drop, marks_len]; omega)); intro D' ws' h' F' N' l1 hI'; (try k_lt l1))))
theorem sieve_con (w : World) (vs : List Value) (ns : List Int) (kk size : Nat) (f : Nat → Int) (hi : IntsAre vs ns) (hns : ns = (List.range size).map fun i => sums f (i + 1) size) (hs0 : 1 ≤ size) (hs : size ≤ 16) :
    ConAR 1 w 158 (listOf vs.toArray kk) (fun o => ∃ us k, o = listOf (List.toArray us) k ∧ IntsAre us ((List.range size).map f)) := by
  have hl : ns.length = size := by rw [hns]; simp
  w_on
  unfold ConAR
  intro prog p loose mean mg mb dp un gd cn cs ad ccd cl outer A₀ base h₀ L m news s Q E al B F X N T hk hdp hun hret
  have hsz : ((vs.toArray.size : Nat) : Int) = (size : Int) := by rw [List.size_toArray, hi.length, hl]
  refine wpAny_call ?_
  k_dflt (refine' code_defC ?k1 ?k2 ?k3 ?k4 ?k5 ?kA ?kF ?kK ?k6 ?k7 ?k8 ?k9 ?kB ?kD ?_ ?c2 ?c3 ?c4; (case kA => exact rfl); (case kF => exact rfl); (case kK => assumption); (case k1 => k_asm); (case k2 => k_asm); (case k3 => k_asm); (case k4 => k_asm); (case k5 => k_asm); (case k6 => k_is); (case k7 => k_is); (case k8 => ktr_room); (case k9 => first | exact BindsTo.of_eq rfl | exact binds_K (by k_in) rfl (by k_is) rfl rfl rfl); (case kB => exact rfl); (case kD => decide +kernel); (case c2 => exact rfl); (case c3 => exact rfl); (case c4 => exact rfl); k_whole; intro gP LP hP tkP cells' FGP F' N' Y' BP XP TP l1; (try k_lt l1); k_cells Y'; (try simp only [List.cons_append, List.nil_append] at N'); (try dsimp only); (try k_lift BP); (try k_fold))
  rename Fr _ _ _ _ => cF
  rename News _ _ _ _ => cN
  rename al < _ ∧ AllLt _ news => l0
  rename_i oP dP
  k_steps
  rename_i lP hA FA NA la DP hB FB NB i1 n1 s1 e1 e2 e3 lb
  k_dflt (refine stCN (own := [_, _]) (rest := (al, _) :: news) (by k_asm) (by k_asm) rfl (by assumption) ?_ ?_ ?_)
  · intro q hq
    rcases List.mem_cons.mp hq with rfl | hq
    · exact Nat.ne_of_gt lb.2.1
    · rw [List.mem_singleton.mp hq]; exact Nat.ne_of_gt la.1
  · intro q hq
    rcases List.mem_cons.mp hq with rfl | hq
    · exact Nat.ne_of_lt (Nat.lt_succ_of_lt l0.1)
    · exact Nat.ne_of_lt (Nat.lt_succ_of_lt (kst_ltOf l0.2 q hq))
  intro h5 oc F5 N5 d5
  (try dsimp only)
  k_steps
  rename IsRange _ _ _ _ _ _ _ _ => rgX
  rename Fr _ _ _ _ => eF
  rename News _ _ _ _ => eN
  replace eN : News _ _ _ ((DP, _) :: (LP + 1, oc) :: (al, W.listOf vs.toArray kk) :: news) := fun q hq => eN q (by
    rcases List.mem_cons.mp hq with rfl | hq
    · exact List.mem_cons_self
    · exact List.mem_cons_of_mem _ (List.mem_cons_of_mem _ hq))
  have hc0 : ∀ t : Tok, IntsAre ((List.replicate ((size : Int)).toNat [Value.int 0 t]).flatten) (marksL f size ([] : List Int).length) := by
    intro t
    rw [rep_flatV, Int.toNat_natCast]
    show IntsAre _ (marksL f size 0)
    rw [marks_zero]
    exact ints_repV _ _
  with_unfolding_all refine' kst_rangeD (σ := List Value) (fun c => (DP, W.listOf c.toArray 0) :: (LP + 1, oc) :: (al, W.listOf vs.toArray kk) :: news) (fun _ => []) (fun _ => True) [PySem.Str.ofString "beyond"] (fun pre c => IntsAre c (marksL f size pre.length)) _ (by rfl) rgX ?ks (rangeSize_down (n := size)) eF ?kn trivial ?kk (hc0 _) ?_ ?_
  case kn => exact eN
  case ks => exact small_down hs
  case kk => intro q hq; cases hq
  · rintro c pre k t u h tk own hk1 hpl kOff _ kInv kFr kNews
    (try clear eN); (try clear eF); (try clear FA); (try clear NA); (try clear FB); (try clear NB); (try clear F5); (try clear N5); (try clear cF); (try clear cN)
    dsimp only [kstB] at kFr
    dsimp only at kNews kInv kOff
    simp only [List.cons_append, List.map_cons] at kNews kOff
    have kL := kInv.length
    rw [marks_len] at kL
    obtain ⟨pl, hpl'⟩ : ∃ pl : Nat, k = (pl : Int) := ⟨size - 1 - pre.length, by omega⟩
    have hp1 : 1 ≤ pl := by omega
    have hp2 : pl = size - 1 - pre.length := by omega
    subst hpl'
    (try k_unmd); (try k_fold)
    k_steps
    rename IsRange _ _ _ _ _ _ _ _ => rg2
    have hrn := rowN_le (n := pl) (len := size) hp1
    refine ⟨_, 2 * (pl : Int), size, pl, _, _, _, rowN pl size - 2, _, rfl, rfl, by k_asm, by k_asm, rg2, small_two hp1 (by omega) hs, rangeSize_two hp1 (by omega), by rw [sizeLine_eq]; omega, ?_⟩
    rintro s₂ ⟨hh, rfl⟩
    refine rest_stay (fun i y => ∃ g t, y = .int g t ∧ g = f ((i + 2) * pl)) trivial ?_ ?_
    · rintro i v I oI C oC D m₂ ys h tk E' hi2 ⟨t, rfl⟩ hC hx F1 N1 off ne
      have hb := rowN_bounds (n := pl) (len := size) (i := i + 2) hp1 (by omega)
      have hge : pl * 2 ≤ (i + 2) * pl := by rw [Nat.mul_comm]; exact Nat.mul_le_mul_right _ (by omega)
      have hge2 : size - pre.length ≤ (i + 2) * pl := by omega
      have hgt := marks_get (f := f) hge2 hb
      have hidx : 2 * (pl : Int) + (i : Int) * (pl : Int) = (((i + 2) * pl : Nat) : Int) := by rw [show (i + 2) * pl = 2 * pl + i * pl by rw [Nat.add_mul, Nat.add_comm]]; push_cast; rfl
      (try k_unmd); (try k_fold)
      k_steps
      refine StayEnd.intro (by k_asm) (by k_asm) (fun q hq => hq) ⟨_, _, rfl, ?_⟩
      first | rfl | (rw [hidx, Int.toNat_natCast, List.getD_eq_getElem?_getD, hgt]; rfl)
    · intro ys hys hV
      intro D h tk F1 N1 o1
      obtain ⟨fs, hfs, hfe⟩ := ints_eq hys hV
      (try dsimp only)
      k_steps
      have hsum : fs.sum = sums f pl size - f 0 - f pl := by
        rw [hfe, sums_two hp1 (by omega)]; omega
      rename News _ _ _ _ => eN
      rename Fr _ _ _ _ => eF
      have hNe : ∀ q ∈ (LP + 1, oc) :: (al, W.listOf vs.toArray kk) :: (news ++ own), q.1 ≠ DP := by
        intro q hq
        rcases List.mem_cons.mp hq with rfl | hq
        · exact Nat.ne_of_lt lb.2.1
        · rcases List.mem_cons.mp hq with rfl | hq
          · exact Nat.ne_of_lt lb.2.2.1
          · rcases List.mem_append.mp hq with hq | hq
            · exact Nat.ne_of_lt (kst_ltOf lb.2.2.2 q hq)
            · exact kOff q hq DP List.mem_cons_self
      k_dflt (refine set_head eF (fun q hq => eN q (List.mem_cons_of_mem _ hq)) rfl (by omega) (by omega) hNe ?_)
      intro h8 F8 N8
      have hg : ∀ j : Nat, j < size → ns.getD j 0 = sums f (j + 1) size := by
        intro j hj
        rw [hns, List.getD_eq_getElem?_getD, List.getElem?_map, List.getElem?_range hj]; rfl
      have hval : ns.getD ((pl : Int) - 1).toNat 0 - ns.getD ((size : Int) - 1).toNat 0 - fs.sum = f pl := by
        rw [show ((pl : Int) - 1).toNat = pl - 1 by omega, show ((size : Int) - 1).toNat = size - 1 by omega, hg _ (by omega), hg _ (by omega), Nat.sub_add_cancel hp1, Nat.sub_add_cancel hs0, sums_one hs0, hsum]
        omega
      rw [hval] at N8
      (try dsimp only)
      refine wpAny_execs_nil ?_
      k_unfold
      replace N8 : ∃ t8, News gP LP h8 ((DP, W.listOf (c.set pl (Value.int (f pl) t8)).toArray 0) :: (LP + 1, oc) :: (al, W.listOf vs.toArray kk) :: (news ++ own)) := ⟨_, N8⟩
      obtain ⟨t8, N8⟩ := N8
      with_unfolding_all refine' kst_end (c.set pl (Value.int (f pl) t8)) F8 N8 ?hn ?ho ?ha trivial ?hk ?hr ?hp
      case hn => 
        intro q hq
        rcases List.mem_cons.mp hq with rfl | hq
        · exact List.mem_cons_self
        rcases List.mem_cons.mp hq with rfl | hq
        · exact List.mem_cons_of_mem _ List.mem_cons_self
        rcases List.mem_cons.mp hq with rfl | hq
        · exact List.mem_cons_of_mem _ (List.mem_cons_of_mem _ List.mem_cons_self)
        · exact List.mem_cons_of_mem _ (List.mem_cons_of_mem _ (List.mem_cons_of_mem _ (List.mem_append_left _ hq)))
      case ho => exact fun q hq => List.mem_cons_of_mem _ (List.mem_cons_of_mem _ (List.mem_cons_of_mem _ (List.mem_append_right _ hq)))
      case ha => rfl
      case hk => intro q hq; cases hq
      case hr => kst_same
      case hp =>
        (try dsimp only)
        rw [List.length_append, List.length_singleton, ← marks_set (by omega), ← hp2]
        exact ints_set kInv _ _ _
  · intro c u h tk _ kInv kFr kNews
    (try clear eN); (try clear eF); (try clear FA); (try clear NA); (try clear FB); (try clear NB); (try clear F5); (try clear N5); (try clear cF); (try clear cN)
    dsimp only [kstB] at kFr
    (try dsimp only at kNews kInv)
    have hdl : (downKs ((size : Int) - 1) (size - 1)).length = size - 1 := by simp [downKs]
    rw [hdl] at kInv
    have kL := kInv.length
    rw [marks_len] at kL
    (try k_unmd); (try k_fold)
    k_steps
    rename News h₀ L _ _ => kNx
    rename Fr h₀ L _ m => kFx
    rename IntsAre _ (_ ++ _) => hI2
    rename _ < _ ∧ _ ∧ _ ∧ _ ∧ _ ∧ _ => lz
    have hfin : [ns.getD ((size : Int) - 1).toNat 0] ++ List.drop 1 (marksL f size (size - 1)) = (List.range size).map f := by
      rw [← marks_end hs0, show ((size : Int) - 1).toNat = size - 1 by omega, hns, List.getD_eq_getElem?_getD, List.getElem?_map, List.getElem?_range (by omega)]
      show [sums f (size - 1 + 1) size] ++ _ = _
      rw [Nat.sub_add_cancel hs0, sums_one hs0]; rfl
    rw [hfin] at hI2
    obtain ⟨_, _, _, _, hal1, hal⟩ := lz
    refine hret _ _ _ _ ⟨_, _, rfl, hI2⟩ kFx (news_keep1 (mid := [_, _, _, _]) kNx) ?_
    intro q hq
    rcases List.mem_cons.mp hq with rfl | hq
    · exact hal1
    · exact kst_ltOf hal q hq
end Mine
/- LawM -/
namespace Mine
/-- whether a dot stands at i -/
def dotF (l : List Nat) (i : Nat) : Int := if l[i]? = some 46 then 1 else 0
theorem cast_sum {α : Type} (g : α → Nat) : ∀ L : List α, (((L.map g).sum : Nat) : Int) = (L.map fun x => (g x : Int)).sum
  | [] => rfl
  | x :: L => by
    simp only [List.map_cons, List.sum_cons]
    rw [← cast_sum g L]; push_cast; rfl
theorem dotted_at {n : Nat} {l : List Nat} {i : Nat} (hn : 1 ≤ n) : ((dotted (rowAt n l i) : Nat) : Int) = dotF l (i * n) := by
  have e : (rowAt n l i).head? = l[i * n]? := by
    unfold rowAt
    rw [List.head?_take, if_neg (by omega), List.head?_drop]
  unfold dotted dotF
  rw [e]
  split <;> rfl
theorem more_sums {n : Nat} {l : List Nat} (hn : 1 ≤ n) : ((moreOf n l : Nat) : Int) = sums (dotF l) n l.length := by
  unfold moreOf rowsOf sums
  rw [List.map_map, cast_sum]
  congr 1
  apply List.map_congr_left
  intro i _
  exact dotted_at hn
def idx (d : Bool) : Int := if d then 0 else 1
theorem sgn_dot {d : Bool} {f : Int} (h0 : 0 ≤ f) (h1 : f < 64) : (sgn d f = 46) ↔ f = 62 + idx d := by
  have : ∀ (d : Bool) (k : Fin 64), (sgn d (k.val : Int) = 46) ↔ (k.val : Int) = 62 + idx d := by decide +kernel
  have h := this d ⟨f.toNat, by omega⟩
  simp only at h
  rwa [Int.toNat_of_nonneg h0] at h
theorem dots_fs {d : Bool} {fs : List Int} (hf : ∀ f ∈ fs, 0 ≤ f ∧ f < 64) : (List.range fs.length).map (dotF (fs.map (sgn d))) = fs.map fun f => if f = 62 + idx d then 1 else 0 := by
  apply List.ext_getElem
  · simp
  · intro i h1 h2
    have hi : i < fs.length := by simpa using h1
    have hb := hf fs[i] (List.getElem_mem _)
    have hs := sgn_dot (d := d) hb.1 hb.2
    rw [List.getElem_map, List.getElem_map, List.getElem_range]
    unfold dotF
    rw [List.getElem?_map, List.getElem?_eq_getElem hi, Option.map_some]
    by_cases h : fs[i] = 62 + idx d
    · rw [if_pos h, if_pos (by rw [hs.mpr h])]
    · rw [if_neg h, if_neg (by intro q; exact h (hs.mp (Option.some.inj q)))]
theorem plain_fs {d : Bool} {fs : List Int} : Plain (fs.map (sgn d)) := by
  intro c hc
  obtain ⟨f, _, rfl⟩ := List.mem_map.mp hc
  exact ⟨sgn_in.2.1, sgn_in.2.2⟩
end Mine
/- LawW -/
set_option maxRecDepth 100000
set_option maxHeartbeats 8000000
namespace Mine
open LCg LCp
theorem ConAR.use {lv : Nat} {w : World} {f : Addr} {o : Obj} {V : Obj → Prop}
    {prog p : Program} {loose : List Str} {mean : ExcName → Option Value} {mg mb : Str → Option Value} {dp un : Nat} {gd : Option (List Code)} {cn : Str} {cs : Scope} {a : Addr} {ccd : Value} {cl : List (Str × Addr)} {outer : List Env} {A₀ : Around} {base h₀ : Heap} {L : Addr} {m : Str → Option Value} {news : List (Addr × Obj)} {s : Shared} {Q E : Value → Shared → Prop} {al : Addr}
    (B : Below A₀ base outer h₀ := by k_asm) (F : Fr h₀ L s.heap m := by k_asm) (X : (hd.heap_39 w.params).In h₀ := by k_asm) (N : News h₀ L s.heap news := by k_asm) (hm : (al, o) ∈ news := by k_mem) (T : Top p loose mean mg mb h₀ := by k_asm) (hk : cs.kind = .function := by first | exact rfl | assumption) (hd : dp + lv ≤ 350 := by first | ktr_room | omega) (hu : un + 8 * lv ≤ 400 := by first | ktr_units | omega)
    (C : ConAR lv w f o V)
    (ret : ∀ (r : Addr) (o' : Obj) (h' : Heap) (tk' : Nat), V o' → Fr h₀ L h' m → News h₀ L h' ((r, o') :: news) → (∀ q ∈ news, q.1 < r) → Q (.ref r) { s with heap := h', toks := tk' }) :
    wpAny (model prog w) (ktrTop dp un gd cn cs L a ccd cl outer) (call (.ref f) [.ref al] []) Q E s :=
  C prog p loose mean mg mb dp un gd cn cs a ccd cl outer A₀ base h₀ L m news s Q E al B F X (fun q hq => by rcases List.mem_cons.mp hq with rfl | hq; exact N _ hm; exact N _ hq) T hk hd hu
    fun r o' h' tk' hV F' N' hl => ret r o' h' tk' hV F' (fun q hq => N' q (by rcases List.mem_cons.mp hq with rfl | hq; exact List.mem_cons_self; exact List.mem_cons_of_mem _ (List.mem_cons_of_mem _ hq))) (fun q hq => hl q (List.mem_cons_of_mem _ hq))
theorem ConA.use {lv : Nat} {w : World} {f : Addr} {o : Obj} {R : Tok → Value}
    {prog p : Program} {loose : List Str} {mean : ExcName → Option Value} {mg mb : Str → Option Value} {dp un : Nat} {gd : Option (List Code)} {cn : Str} {cs : Scope} {a : Addr} {ccd : Value} {cl : List (Str × Addr)} {outer : List Env} {A₀ : Around} {base h₀ : Heap} {L : Addr} {m : Str → Option Value} {news : List (Addr × Obj)} {s : Shared} {Q E : Value → Shared → Prop} {al : Addr}
    (B : Below A₀ base outer h₀ := by k_asm) (F : Fr h₀ L s.heap m := by k_asm) (X : (hd.heap_39 w.params).In h₀ := by k_asm) (N : News h₀ L s.heap news := by k_asm) (hm : (al, o) ∈ news := by k_mem) (T : Top p loose mean mg mb h₀ := by k_asm) (hk : cs.kind = .function := by first | exact rfl | assumption) (hd : dp + lv ≤ 350 := by first | ktr_room | omega) (hu : un + 8 * lv ≤ 400 := by first | ktr_units | omega)
    (C : ConA lv w f o R)
    (ret : ∀ (t : Tok) (h' : Heap) (tk' : Nat), Fr h₀ L h' m → News h₀ L h' news → Q (R t) { s with heap := h', toks := tk' }) :
    wpAny (model prog w) (ktrTop dp un gd cn cs L a ccd cl outer) (call (.ref f) [.ref al] []) Q E s :=
  C prog p loose mean mg mb dp un gd cn cs a ccd cl outer A₀ base h₀ L m news s Q E al B F X (fun q hq => by rcases List.mem_cons.mp hq with rfl | hq; exact N _ hm; exact N _ hq) T hk hd hu
    fun t h' tk' F' N' => ret t h' tk' F' (fun q hq => N' q (List.mem_cons_of_mem _ hq))
theorem ConR.use {lv : Nat} {w : World} {f : Addr} {vs : List Value} {kw : List (Str × Value)} {V : Obj → Prop}
    {prog p : Program} {loose : List Str} {mean : ExcName → Option Value} {mg mb : Str → Option Value} {dp un : Nat} {gd : Option (List Code)} {cn : Str} {cs : Scope} {a : Addr} {ccd : Value} {cl : List (Str × Addr)} {outer : List Env} {A₀ : Around} {base h₀ : Heap} {L : Addr} {m : Str → Option Value} {news : List (Addr × Obj)} {s : Shared} {Q E : Value → Shared → Prop}
    (B : Below A₀ base outer h₀ := by k_asm) (F : Fr h₀ L s.heap m := by k_asm) (X : (hd.heap_39 w.params).In h₀ := by k_asm) (N : News h₀ L s.heap news := by k_asm) (T : Top p loose mean mg mb h₀ := by k_asm) (hk : cs.kind = .function := by first | exact rfl | assumption) (hd : dp + lv ≤ 350 := by first | ktr_room | omega) (hu : un + 8 * lv ≤ 400 := by first | ktr_units | omega)
    (C : ConR lv w f vs kw V)
    (ret : ∀ (r : Addr) (o : Obj) (h' : Heap) (tk' : Nat), V o → Fr h₀ L h' m → News h₀ L h' ((r, o) :: news) → (∀ q ∈ news, q.1 < r) → Q (.ref r) { s with heap := h', toks := tk' }) :
    wpAny (model prog w) (ktrTop dp un gd cn cs L a ccd cl outer) (call (.ref f) vs kw) Q E s :=
  C prog p loose mean mg mb dp un gd cn cs a ccd cl outer A₀ base h₀ L m news s Q E B F X N T hk hd hu ret
section
variable {prog : Program} {w : World} {A : Around} {h₀ : Heap} {L : Addr} {m : Str → Option Value} {env : Env} {elt : Expr} {x x₂ : Str} {scope : Scope} {cl : List (Str × Addr)} {s : Shared} {S : List (Addr × Obj) → Prop} {P : Nat → Value → Prop} {Fin : List Value → List (Addr × Obj) → Prop} {news base : List (Addr × Obj)}
/-- a comprehension over pairs whose turns leave the ledger as it was -/
theorem restP_stay {n : Nat} (V : Nat → Value → Prop) (hS : S news)
    (turn : ∀ i v, i < n → P i v → ∃ (t : Addr) (ot : Obj) (v₁ v₂ : Value) (nt : Nat), v = .ref t ∧ (t, ot) ∈ news ∧ ot.cls = .type "tuple" ∧ ot.data = .seq #[v₁, v₂] nt ∧
      ∀ I oI C oC D m₂ ys h tk (E' : Value → Shared → Prop), NsObj oC m₂ → m₂ x = some v₁ → m₂ x₂ = some v₂ → Fr h₀ L h m → News h₀ L h ((I, oI) :: (C, oC) :: (D, lst ys) :: news) → Off3 I C D news → ((@Ne Nat I C) ∧ (@Ne Nat I D) ∧ (@Ne Nat C D)) →
      wpAny (model prog w) A (eval elt (compEnvC scope cl C env)) (StayEnd h₀ L m { s with heap := h, toks := tk } ((I, oI) :: (C, oC) :: (D, lst ys) :: news) (V i)) E' { s with heap := h, toks := tk })
    (fin : ∀ ys : List Value, ys.length = n → (∀ i y, ys[i]? = some y → V i y) → Fin ys news) : CompRestP prog w A h₀ L m env elt x x₂ scope cl s S P Fin n 0 [] news := by
  have key : ∀ (j i : Nat) (ys : List Value), i + j = n → ys.length = i → (∀ k y, ys[k]? = some y → V k y) → CompRestP prog w A h₀ L m env elt x x₂ scope cl s S P Fin j i ys news := by
    intro j
    induction j with
    | zero =>
      intro i ys hi hl hy
      exact CompRestP.zero (fin ys (by omega) hy)
    | succ j ih =>
      intro i ys hi hl hy
      refine CompRestP.succ ?_
      intro v hv
      obtain ⟨t, ot, v₁, v₂, nt, e, hm, hc, hd, T⟩ := turn i v (by omega) hv
      refine ⟨t, ot, v₁, v₂, nt, e, hm, hc, hd, ?_⟩
      intro I oI C oC D m₂ h tk E' hC hx hx₂ F N off ne
      refine wpAny_mono (T I oI C oC D m₂ ys h tk E' hC hx hx₂ F N off ne) (fun y s₂ hq => ?_) fun _ _ e => e
      obtain ⟨h', tk', e, F', N', hV⟩ := hq
      refine ⟨h', tk', news, e, F', N', off, hS, ih (i + 1) (ys ++ [y]) (by omega) (by simp; omega) ?_⟩
      intro k z hk
      rcases Nat.lt_trichotomy k i with h1 | h1 | h1
      · rw [List.getElem?_append_left (by omega)] at hk; exact hy k z hk
      · subst h1
        rw [← hl, List.getElem?_append_right (Nat.le_refl _), Nat.sub_self] at hk
        cases hk
        exact hV
      · rw [List.getElem?_eq_none (by simp; omega)] at hk; cases hk
  exact key n 0 [] (by omega) rfl (by intro i y h; simp at h)
/-- a turn of a comprehension that makes one object and hands it on -/
def GrowEnd (h₀ : Heap) (L : Addr) (m : Str → Option Value) (s₁ : Shared) (led : List (Addr × Obj)) (V : Obj → Prop) (y : Value) (s₂ : Shared) : Prop :=
  ∃ r o h' tk', y = .ref r ∧ s₂ = { s₁ with heap := h', toks := tk' } ∧ Fr h₀ L h' m ∧ News h₀ L h' ((r, o) :: led) ∧ (∀ q ∈ led, q.1 < r) ∧ V o
theorem rest_grow {n : Nat} (V : Nat → Obj → Prop) (hS : ∀ as, S (base ++ as))
    (turn : ∀ i v I oI C oC D m₂ ys h tk as (E' : Value → Shared → Prop), i < n → P i v → NsObj oC m₂ → m₂ x = some v → Fr h₀ L h m → News h₀ L h ((I, oI) :: (C, oC) :: (D, lst ys) :: (base ++ as)) → Off3 I C D (base ++ as) → ((@Ne Nat I C) ∧ (@Ne Nat I D) ∧ (@Ne Nat C D)) →
      wpAny (model prog w) A (eval elt (compEnvC scope cl C env)) (GrowEnd h₀ L m { s with heap := h, toks := tk } ((I, oI) :: (C, oC) :: (D, lst ys) :: (base ++ as)) (V i)) E' { s with heap := h, toks := tk })
    (fin : ∀ (as : List (Addr × Obj)), as.length = n → (∀ i p, as[i]? = some p → V i p.2) → Fin (as.map fun p => Value.ref p.1) (base ++ as)) : CompRest prog w A h₀ L m env elt x scope cl s S P Fin n 0 [] base := by
  have key : ∀ (j i : Nat) (as : List (Addr × Obj)), i + j = n → as.length = i → (∀ k p, as[k]? = some p → V k p.2) → CompRest prog w A h₀ L m env elt x scope cl s S P Fin j i (as.map fun p => Value.ref p.1) (base ++ as) := by
    intro j
    induction j with
    | zero =>
      intro i as hi hl hy
      exact CompRest.zero (fin as (by omega) hy)
    | succ j ih =>
      intro i as hi hl hy
      refine CompRest.succ ?_
      intro v I oI C oC D m₂ h tk E' hv hC hx F N off ne
      refine wpAny_mono (turn i v I oI C oC D m₂ _ h tk as E' (by omega) hv hC hx F N off ne) (fun y s₂ hq => ?_) fun _ _ e => e
      obtain ⟨r, o, h', tk', rfl, e, F', N', hr, hV⟩ := hq
      have hrI := hr (I, oI) List.mem_cons_self
      have hrC := hr (C, oC) (List.mem_cons_of_mem _ List.mem_cons_self)
      have hrD := hr (D, lst (as.map fun p => Value.ref p.1)) (List.mem_cons_of_mem _ (List.mem_cons_of_mem _ List.mem_cons_self))
      refine ⟨h', tk', base ++ (as ++ [(r, o)]), e, F', ?_, ?_, hS _, ?_⟩
      · intro q hq
        refine N' q ?_
        rcases List.mem_cons.mp hq with rfl | hq
        · exact List.mem_cons_of_mem _ List.mem_cons_self
        rcases List.mem_cons.mp hq with rfl | hq
        · exact List.mem_cons_of_mem _ (List.mem_cons_of_mem _ List.mem_cons_self)
        rcases List.mem_cons.mp hq with rfl | hq
        · exact List.mem_cons_of_mem _ (List.mem_cons_of_mem _ (List.mem_cons_of_mem _ List.mem_cons_self))
        rw [← List.append_assoc] at hq
        rcases List.mem_append.mp hq with hq | hq
        · exact List.mem_cons_of_mem _ (List.mem_cons_of_mem _ (List.mem_cons_of_mem _ (List.mem_cons_of_mem _ hq)))
        · rw [List.mem_singleton.mp hq]; exact List.mem_cons_self
      · refine Off3.of ?_
        intro q hq
        rw [← List.append_assoc] at hq
        rcases List.mem_append.mp hq with hq | hq
        · exact off.mem q hq
        · rw [List.mem_singleton.mp hq]
          exact ⟨Nat.ne_of_gt hrI, Nat.ne_of_gt hrC, Nat.ne_of_gt hrD⟩
      · have e2 : (as.map fun p => Value.ref p.1) ++ [Value.ref r] = (as ++ [(r, o)]).map fun p => Value.ref p.1 := by simp
        (try dsimp only)
        rw [e2]
        refine ih (i + 1) (as ++ [(r, o)]) (by omega) (by simp; omega) ?_
        intro k z hk
        rcases Nat.lt_trichotomy k i with h1 | h1 | h1
        · rw [List.getElem?_append_left (by omega)] at hk; exact hy k z hk
        · subst h1
          rw [← hl, List.getElem?_append_right (Nat.le_refl _), Nat.sub_self] at hk
          cases hk
          exact hV
        · rw [List.getElem?_eq_none (by simp; omega)] at hk; cases hk
  have := key n 0 [] (by omega) rfl (by intro i y h; simp at h)
  simpa using this
end
section
variable {prog : Program} {w : World} {A : Around} {E : Value → Shared → Prop} {s : Shared} {env : Env} {h₀ : Heap} {target : Expr} {body : List Stmt} {Q : Flow → Shared → Prop}
/-- a loop over a list's items, by an invariant over the frame and the ledger -/
theorem items_inv {I : Addr} {keep : List (Addr × Obj)} (K : (Str → Option Value) → List (Addr × Obj) → Prop) {vs : List Value} {m : Str → Option Value} {news : List (Addr × Obj)} (h0 : K m news)
    (turn : ∀ v h tk m news oI, v ∈ vs → oI.cls = .type "list_iterator" → K m news → Fr h₀ env.locals h m → News h₀ env.locals h ((I, oI) :: news) →
      wpAny (model prog w) A (assign target env v) (fun _ s₂ => wpAny (model prog w) A (execs body env) (UnrPostW h₀ env.locals { s with heap := h, toks := tk } [(I, oI)] (fun m' n' => SubL keep n' ∧ K m' n') Q) E s₂) E { s with heap := h, toks := tk })
    (fin : ∀ h tk m news, K m news → Fr h₀ env.locals h m → News h₀ env.locals h news → Q .next { s with heap := h, toks := tk }) :
    ItemsRest prog w A E h₀ env target body Q s [(I, "list_iterator")] keep (vs.map .val) m news := by
  induction vs generalizing m news with
  | nil => exact ItemsRest.zero fun h tk F N => fin h tk m news h0 F N
  | cons v r ih =>
    refine ItemsRest.val fun h tk F => AllObj.cons fun oI hc => AllObj.nil fun N => ?_
    refine wpAny_mono (turn v h tk m news oI List.mem_cons_self hc h0 F N) (fun _ s₂ hq => wpAny_mono hq (fun f s₃ hp => ?_) fun _ _ e => e) fun _ _ e => e
    have go : UnrEndW h₀ env.locals { s with heap := h, toks := tk } [(I, oI)] (fun m' n' => SubL keep n' ∧ K m' n') s₃ → UnrEndW h₀ env.locals { s with heap := h, toks := tk } [(I, oI)] (fun m' n' => SubL keep n' ∧ ItemsRest prog w A E h₀ env target body Q s [(I, "list_iterator")] keep (r.map .val) m' n') s₃ := by
      rintro ⟨h', tk', m', news', e, F', N', ho, hk, hK⟩
      exact ⟨h', tk', m', news', e, F', N', ho, hk, ih hK fun v' h tk m news oI hv => turn v' h tk m news oI (List.mem_cons_of_mem _ hv)⟩
    cases f with
    | ret v => exact hp
    | brk => exact hp
    | next => exact go hp
    | cont => exact go hp
theorem items_invS {I : Addr} {keep : List (Addr × Obj)} (stored : List Str) (K : List (Addr × Obj) → Prop) {vs : List Value} {m₀ : Str → Option Value} {news : List (Addr × Obj)} (h0 : K news)
    (turn : ∀ v h tk (u : Str → Option Value) news oI, v ∈ vs → oI.cls = .type "list_iterator" → K news → Fr h₀ env.locals h (fun z => if stored.contains z then u z else m₀ z) → News h₀ env.locals h ((I, oI) :: news) →
      wpAny (model prog w) A (assign target env v) (fun _ s₂ => wpAny (model prog w) A (execs body env) (UnrPostW h₀ env.locals { s with heap := h, toks := tk } [(I, oI)] (fun m' n' => SubL keep n' ∧ (∀ z, stored.contains z = false → m' z = m₀ z) ∧ K n') Q) E s₂) E { s with heap := h, toks := tk })
    (fin : ∀ h tk (u : Str → Option Value) news, K news → Fr h₀ env.locals h (fun z => if stored.contains z then u z else m₀ z) → News h₀ env.locals h news → Q .next { s with heap := h, toks := tk }) :
    ItemsRest prog w A E h₀ env target body Q s [(I, "list_iterator")] keep (vs.map .val) m₀ news := by
  have fe : ∀ m : Str → Option Value, (∀ z, stored.contains z = false → m z = m₀ z) → m = fun z => if stored.contains z then m z else m₀ z := by
    intro m h
    funext z
    cases e : stored.contains z with
    | true => rw [if_pos rfl]
    | false => rw [if_neg (by simp), h z e]
  refine items_inv (fun m n => (∀ z, stored.contains z = false → m z = m₀ z) ∧ K n) ⟨fun _ _ => rfl, h0⟩ ?_ ?_
  · rintro v h tk m news oI hv hc ⟨hm, hK⟩ F N
    rw [fe m hm] at F
    exact turn v h tk m news oI hv hc hK F N
  · rintro h tk m news ⟨hm, hK⟩ F N
    rw [fe m hm] at F
    exact fin h tk m news hK F N
/-- the law's ledger between two turns: the menu, the figures, the two cells -/
def LedK (p q : Addr × Obj) (cW cT : Addr) (n : List (Addr × Obj)) : Prop := ∃ (oW oT : Obj) (vW vT : Option Value), oW.data = .cell vW ∧ oT.data = .cell vT ∧ n = [p, q, (cW, oW), (cT, oT)]
theorem news_drop34 {h : Heap} {L : Addr} {a b c d : Addr × Obj} {r : List (Addr × Obj)} (N : News h₀ L h (a :: b :: c :: d :: r)) : News h₀ L h (a :: b :: r) := fun q hq => N q (by
  rcases List.mem_cons.mp hq with e | e
  · rw [e]; exact List.mem_cons_self
  · rcases List.mem_cons.mp e with e | e
    · rw [e]; exact List.mem_cons_of_mem _ List.mem_cons_self
    · exact List.mem_cons_of_mem _ (List.mem_cons_of_mem _ (List.mem_cons_of_mem _ (List.mem_cons_of_mem _ e))))
theorem loop_two {ax cW cT L : Addr} {lo : Obj} {vs : List Value} {n : Nat} {m₀ : Str → Option Value} {q : Addr × Obj} {oW oT : Obj} {vW vT : Option Value} (stored : List Str) (hL : env.locals = L)
    (hh : A.handled = none) (F : Fr h₀ L s.heap m₀) (N : News h₀ L s.heap [(ax, lo), q, (cW, oW), (cT, oT)]) (hc : lo.cls = .type "list") (hd : lo.data = .seq vs.toArray n) (dW : oW.data = .cell vW) (dT : oT.data = .cell vT)
    (turn : ∀ (I : Addr) (oI : Obj) v h tk (u : Str → Option Value) (oW oT : Obj) (vW vT : Option Value), v ∈ vs → oI.cls = .type "list_iterator" → oW.data = .cell vW → oT.data = .cell vT → ((@LT.lt Nat _ ax I) ∧ (@LT.lt Nat _ q.1 I) ∧ (@LT.lt Nat _ cW I) ∧ (@LT.lt Nat _ cT I)) →
      Fr h₀ L h (fun z => if stored.contains z then u z else m₀ z) → News h₀ L h [(I, oI), (ax, lo), q, (cW, oW), (cT, oT)] →
      wpAny (model prog w) A (assign target env v) (fun _ s₂ => wpAny (model prog w) A (execs body env) (UnrPostW h₀ L { s with heap := h, toks := tk } [(I, oI)] (fun m' n' => SubL [(ax, lo)] n' ∧ (∀ z, stored.contains z = false → m' z = m₀ z) ∧ LedK (ax, lo) q cW cT n') Q) E s₂) E { s with heap := h, toks := tk })
    (fin : ∀ h tk (u : Str → Option Value) (oW oT : Obj) (vW vT : Option Value), oW.data = .cell vW → oT.data = .cell vT → Fr h₀ L h (fun z => if stored.contains z then u z else m₀ z) → News h₀ L h [(ax, lo), q, (cW, oW), (cT, oT)] → Q .next { s with heap := h, toks := tk }) :
    wpAny (model prog w) A (pyIter (.ref ax)) (fun it s₂ => TurnsAt prog w A h₀ env target body Q E it s₂) E s := by
  subst hL
  refine iter_listTurns hh F N List.mem_cons_self hc hd fun I lI => ?_
  have l1 := lI _ List.mem_cons_self
  have l2 := lI _ (List.mem_cons_of_mem _ List.mem_cons_self)
  have l3 := lI _ (List.mem_cons_of_mem _ (List.mem_cons_of_mem _ List.mem_cons_self))
  have l4 := lI _ (List.mem_cons_of_mem _ (List.mem_cons_of_mem _ (List.mem_cons_of_mem _ List.mem_cons_self)))
  refine items_invS stored (LedK (ax, lo) q cW cT) ⟨oW, oT, vW, vT, dW, dT, rfl⟩ ?_ ?_
  · rintro v h tk u news oI hv hcl ⟨oW, oT, vW, vT, dW, dT, rfl⟩ F N
    exact turn I oI v h tk u oW oT vW vT hv hcl dW dT ⟨l1, l2, l3, l4⟩ F N
  · rintro h tk u news ⟨oW, oT, vW, vT, dW, dT, rfl⟩ F N
    exact fin h tk u oW oT vW vT dW dT F N
theorem own4 {a b c d : Addr × Obj} {z : Addr} (h1 : a.1 ≠ z) (h2 : b.1 ≠ z) (h3 : c.1 ≠ z) (h4 : d.1 ≠ z) : ∀ q ∈ [a, b, c, d], q.1 ≠ z := by
  intro q hq
  rcases List.mem_cons.mp hq with rfl | hq
  · exact h1
  rcases List.mem_cons.mp hq with rfl | hq
  · exact h2
  rcases List.mem_cons.mp hq with rfl | hq
  · exact h3
  rw [List.mem_singleton.mp hq]; exact h4
theorem own3 {a b c : Addr × Obj} {z : Addr} (h1 : a.1 ≠ z) (h2 : b.1 ≠ z) (h3 : c.1 ≠ z) : ∀ q ∈ [a, b, c], q.1 ≠ z := by
  intro q hq
  rcases List.mem_cons.mp hq with rfl | hq
  · exact h1
  rcases List.mem_cons.mp hq with rfl | hq
  · exact h2
  rw [List.mem_singleton.mp hq]; exact h3
theorem own1 {a : Addr × Obj} {z : Addr} (h1 : a.1 ≠ z) : ∀ q ∈ [a], q.1 ≠ z := by
  intro q hq
  rw [List.mem_singleton.mp hq]; exact h1
theorem own0 {z : Addr} : ∀ q ∈ ([] : List (Addr × Obj)), q.1 ≠ z := fun q hq => nomatch hq
theorem small_up {n : Nat} (h : n ≤ 16) : Builtin.Range.small 1 ((n : Int) + 1) 1 = true := by
  have : ∀ n : Fin 17, Builtin.Range.small 1 (((n : Nat) : Int) + 1) 1 = true := by decide
  exact this ⟨n, by omega⟩
theorem rangeSize_up {n : Nat} : Builtin.Range.rangeSize 1 ((n : Int) + 1) 1 = ((n : Nat) : Int) := by
  unfold Builtin.Range.rangeSize
  by_cases h : 0 < n
  · simp; omega
  · simp; omega
/-- two names take a pair's places -/
theorem assign_pairN {a b : Str} {pa pb tp : Pos} {kk : Nat} {T : Addr} {x y : Value} {nt : Nat} {L : Addr} {m : Str → Option Value} {news : List (Addr × Obj)} {Q : Unit → Shared → Prop} (hL : env.locals = L) (hh : A.handled = none) (F : Fr h₀ L s.heap m) (N : News h₀ L s.heap news) (hT : (T, tupOf [x, y] nt) ∈ news)
    (ha : env.kindOf a = some .local) (hb : env.kindOf b = some .local) (hp : (env.scope.kind == .class || (env.scope.kind == .module && env.locals != env.globals)) = false)
    (h : ∀ (h' : Heap) (tk : Nat), Fr h₀ L h' (fun z => if z = b then some y else if z = a then some x else m z) → News h₀ L h' news → Q () { s with heap := h', toks := tk }) :
    wpAny (model prog w) A (assign (.Tuple [.Name a pa, .Name b pb] kk tp) env (.ref T)) Q E s := by
  subst hL
  have hL₀ : h₀.get? env.locals = none := Heap.get?_none_of_le F.above
  refine kcp_assign hh ⟨_, (N _ hT).1, rfl, nt, rfl⟩ ha hb hp F.ns fun h' tk hn hs => ?_
  refine h h' tk ⟨hn, fun b o e => hs b o (fun q => by rw [q, hL₀] at e; cases e) (F.keep b o e), F.above⟩ fun q hq => ?_
  have z := N q hq
  exact ⟨hs _ _ z.2.1 z.1, z.2⟩
theorem loop_stay {ax L : Addr} {lo : Obj} {vs : List Value} {n : Nat} {m₀ : Str → Option Value} {news : List (Addr × Obj)} (stored : List Str) (hL : env.locals = L)
    (hh : A.handled = none) (F : Fr h₀ L s.heap m₀) (N : News h₀ L s.heap news) (hm : (ax, lo) ∈ news) (hc : lo.cls = .type "list") (hd : lo.data = .seq vs.toArray n)
    (turn : ∀ (I : Addr) (oI : Obj) v h tk (u : Str → Option Value), v ∈ vs → oI.cls = .type "list_iterator" → (∀ p ∈ news, p.1 ≠ I) →
      Fr h₀ L h (fun z => if stored.contains z then u z else m₀ z) → News h₀ L h ((I, oI) :: news) →
      wpAny (model prog w) A (assign target env v) (fun _ s₂ => wpAny (model prog w) A (execs body env) (UnrPostW h₀ L { s with heap := h, toks := tk } [(I, oI)] (fun m' n' => (∀ z, stored.contains z = false → m' z = m₀ z) ∧ n' = news) Q) E s₂) E { s with heap := h, toks := tk })
    (fin : ∀ h tk (u : Str → Option Value), Fr h₀ L h (fun z => if stored.contains z then u z else m₀ z) → News h₀ L h news → Q .next { s with heap := h, toks := tk }) :
    wpAny (model prog w) A (pyIter (.ref ax)) (fun it s₂ => TurnsAt prog w A h₀ env target body Q E it s₂) E s := by
  subst hL
  refine iter_listTurns hh F N hm hc hd fun I lI => ?_
  refine items_invS stored (fun n => n = news) rfl ?_ ?_
  · rintro v h tk u news' oI hv hcl rfl F N
    refine wpAny_mono (turn I oI v h tk u hv hcl (fun p hp => Nat.ne_of_lt (lI p hp)) F N) (fun _ s₂ hq => wpAny_mono hq (fun f s₃ hp => ?_) fun _ _ e => e) fun _ _ e => e
    have go : UnrEndW h₀ env.locals { s with heap := h, toks := tk } [(I, oI)] (fun m' n' => (∀ z, stored.contains z = false → m' z = m₀ z) ∧ n' = news') s₃ → UnrEndW h₀ env.locals { s with heap := h, toks := tk } [(I, oI)] (fun m' n' => SubL [(ax, lo)] n' ∧ (∀ z, stored.contains z = false → m' z = m₀ z) ∧ n' = news') s₃ := by
      rintro ⟨h', tk', m', news2, e, F', N', ho, hz, rfl⟩
      exact ⟨h', tk', m', _, e, F', N', ho, ⟨hm, trivial⟩, hz, rfl⟩
    cases f with
    | ret v => exact hp
    | brk => exact hp
    | next => exact go hp
    | cont => exact go hp
  · rintro h tk u news' rfl F N
    exact fin h tk u F N
theorem stay_end {L I : Addr} {oI : Obj} {s₁ : Shared} {h' : Heap} {tk : Nat} {m' m₀ : Str → Option Value} {news : List (Addr × Obj)} {stored : List Str} (F : Fr h₀ L h' m') (N : News h₀ L h' ((I, oI) :: news)) (ho : ∀ p ∈ news, p.1 ≠ I) (hz : ∀ z, stored.contains z = false → m' z = m₀ z) :
    UnrEndW h₀ L s₁ [(I, oI)] (fun m' n' => (∀ z, stored.contains z = false → m' z = m₀ z) ∧ n' = news) { s₁ with heap := h', toks := tk } :=
  ⟨h', tk, m', news, rfl, F, N, fun p hp q hq => by rw [List.mem_singleton.mp hq]; exact ho p hp, hz, rfl⟩
theorem two_end {L I ax cW cT : Addr} {oI lo : Obj} {s₁ : Shared} {h' : Heap} {tk : Nat} {m' m₀ : Str → Option Value} {a b c d q : Addr × Obj} {oW oT : Obj} {vW vT : Option Value} {as : List (Addr × Obj)} {stored : List Str} (F : Fr h₀ L h' m') (N : News h₀ L h' (a :: b :: c :: d :: (I, oI) :: (ax, lo) :: q :: (cW, oW) :: (cT, oT) :: as))
    (h1 : @Ne Nat ax I) (h2 : @Ne Nat q.1 I) (h3 : @Ne Nat cW I) (h4 : @Ne Nat cT I) (dW : oW.data = .cell vW) (dT : oT.data = .cell vT) (hz : ∀ z, stored.contains z = false → m' z = m₀ z) :
    UnrEndW h₀ L s₁ [(I, oI)] (fun m' n' => SubL [(ax, lo)] n' ∧ (∀ z, stored.contains z = false → m' z = m₀ z) ∧ LedK (ax, lo) q cW cT n') { s₁ with heap := h', toks := tk } := by
  refine ⟨h', tk, m', [(ax, lo), q, (cW, oW), (cT, oT)], rfl, F, fun p hp => ?_, fun p hp r hr => ?_, ⟨List.mem_cons_self, trivial⟩, hz, oW, oT, vW, vT, dW, dT, rfl⟩
  · refine N p (List.mem_cons_of_mem _ (List.mem_cons_of_mem _ (List.mem_cons_of_mem _ (List.mem_cons_of_mem _ ?_))))
    exact List.mem_append_left as (as := [(I, oI), (ax, lo), q, (cW, oW), (cT, oT)]) hp
  · rw [List.mem_singleton.mp hr]
    exact own4 (a := (ax, lo)) (b := q) (c := (cW, oW)) (d := (cT, oT)) h1 h2 h3 h4 p hp
end
section
variable {prog : Program} {w : World} {A : Around} {E : Value → Shared → Prop} {s : Shared}
theorem str_encodeL {l : List Nat} {b : List UInt8} {t u : Tok} {Q : Value → Shared → Prop} (e : l.map (·.toUInt8) = b) (h : ∀ c ∈ l, c < 128) (hs : l.length ≤ 1000) (k : ∀ t' k, Q (.bytes b.toArray t') { s with toks := k }) :
    wpAny (model prog w) A (call (.builtin "str.encode") [.str (txt l) t, .str (Str.ofString "ascii") u]) Q E s :=
  str_encode (by intro c hc; exact h c (by simpa using hc)) (by rw [sizeLine_eq]; show l.toArray.size ≤ _; simp; omega) (by rw [map_toArray, e]; exact k)
theorem decode_fs {d : Bool} {fs : List Int} {t u : Tok} {Q : Value → Shared → Prop} (hne : fs ≠ []) (hl : fs.length ≤ 1000) (k : ∀ t' k, Q (.str (txt (fs.map (sgn d))) t') { s with toks := k }) :
    wpAny (model prog w) A (call (.builtin "bytes.decode") [.bytes (fs.map fun f => (sgn d f).toUInt8).toArray t, .str (Str.ofString "ascii") u]) Q E s := by
  have hb : ∀ f : Int, ((sgn d f).toUInt8).toNat = sgn d f := fun f => by
    have := (sgn_in (d := d) (f := f)).1
    simp; omega
  refine bytes_decode (by simpa using hne) ?_ (by rw [sizeLine_eq, List.length_map]; omega) ?_
  · intro c hc
    obtain ⟨f, _, rfl⟩ := List.mem_map.mp hc
    rw [hb]; exact sgn_in.1
  · have e : ((fs.map fun f => (sgn d f).toUInt8).map (·.toNat)) = fs.map (sgn d) := by
      rw [List.map_map]
      exact List.map_congr_left fun f _ => hb f
    rw [e]
    exact k
theorem index_dot {d : Bool} {t u : Tok} {Q : Value → Shared → Prop} (hA : A.handled = none) (k : ∀ t' k, Q (.int (idx d) t') { s with toks := k }) :
    wpAny (model prog w) A (call (.builtin "str.index") [.str (txt ((twoL d).map (·.toNat))) t, .str (Str.ofString ".") u]) Q E s := by
  have e : Txt.find (txt ((twoL d).map (·.toNat))) (Str.ofString ".") = idx d := by cases d <;> decide +kernel
  have e2 : (Builtin.Str.occurrences (txt ((twoL d).map (·.toNat))) (Str.ofString ".") 0 (txt ((twoL d).map (·.toNat))).length 1).isEmpty = false := by cases d <;> decide +kernel
  refine index_or hA (fun h => ?_) (fun _ _ => ?_)
  · rw [e] at h; cases d <;> simp [idx] at h
  · rw [e]; exact k _ _
theorem two_txt {d : Bool} : (if d then Str.ofString ".-" else Str.ofString "-.") = txt ((twoL d).map (·.toNat)) := by cases d <;> decide
end
end Mine
/- Law -/
set_option maxRecDepth 100000
set_option maxHeartbeats 8000000
namespace Mine
open LCg LCp
theorem filledL : PySem.Challenge.rw_pa0022_01 = PySem.Challenge.rw_pa0022_01 ∧ hd.heap_39 = hd.heap_39 := by k_fill; exact ⟨rfl, rfl⟩
local macro_rules | `(tactic| k_room) => `(tactic| ktr_room)
local macro_rules | `(tactic| walk_at "call ref") => `(tactic| (k_dflt ((refine' ConAR.use (C := figures_con _ _ _ _ ?c1 ?c2) (ret := ?_)); (case c1 => first | assumption | l_ints); (case c2 => (simp only [List.length_map, List.length_take]; omega)); rintro r9 o9 h9 tk9 ⟨us9, fs9, k9, e9, iFig, bFig, lFig⟩ F9 N9 l9; subst e9; (try k_lt l9); (try k_sweep); (try dsimp only))))
local macro_rules | `(tactic| walk_at "call ref") => `(tactic| (k_dflt ((refine' ConA.use (C := octets_con _ _ _ _ ?c1 ?c2 ?c3) (ret := ?_)); (case c1 => first | assumption | l_ints); (case c2 => assumption); (case c3 => assumption); intro t9 h9 tk9 F9 N9; (try k_sweep); (try dsimp only))))
local macro_rules | `(tactic| walk_at "exec For Name List cons nil") => `(tactic| refine Hold.out ?_)
local macro_rules | `(tactic| walk_at "exec For Tuple Name cons nil") => `(tactic| refine Hold.out ?_)
local macro_rules | `(tactic| walk_at "pyIter ref") => `(tactic| ((with_reducible show wpAny _ _ (pyIter (Value.ref _)) (fun it s₂ => TurnsAt _ _ _ _ _ _ _ _ _ it s₂) _ _); refine Hold.out ?_))
local macro_rules | `(tactic| walk_at "getMethod str") => `(tactic| (with_reducible refine method_encode ?_))
local macro_rules | `(tactic| walk_at "call builtin:str.encode") => `(tactic| (k_dflt (refine str_encodeL (by assumption) (by assumption) (by assumption) ?_); intro t' k'; (try dsimp only)))
local macro_rules | `(tactic| walk_at "call builtin:bytes.decode") => `(tactic| (k_dflt (refine decode_fs (by assumption) (by assumption) ?_); intro t' k'; (try dsimp only)))
local macro_rules | `(tactic| walk_at "call builtin:str.index") => `(tactic| (k_dflt (refine index_dot (by rfl) ?_); intro t' k'; (try dsimp only)))
local macro_rules | `(tactic| walk_at "call builtin:len") => `(tactic| ((with_reducible show wpAny _ _ (call (Value.builtin "len") [Value.str (txt _) _]) _ _ _); k_dflt (refine len_txt (by omega) ?_); intro t' k'; (try dsimp only)))
local macro_rules | `(tactic| walk_at "call builtin:len") => `(tactic| ((with_reducible show wpAny _ _ (call (Value.builtin "len") [Value.ref _]) _ _ _); k_dflt (refine kun_lenL (by is_list) (by assumption) (by omega) ?_); (try dsimp only)))
local macro_rules | `(tactic| walk_at "call type:type") => `(tactic| ((with_reducible show wpAny _ _ (call _ [Value.bytes _ _]) _ _ _); refine call_type_of (Tx := "bytes") rfl (by decide +kernel) ?_))
local macro_rules | `(tactic| walk_at "call ref") => `(tactic| (k_dflt ((first | (refine' Con.use (C := b64encode_con _ _ _ _ _ ?c1 ?c2 ?c3) (ret := ?_); (case c1 => assumption); (case c2 => assumption); (case c3 => assumption)) | (refine' Con.use (C := b64decode_con _ _ _ _ _ _ ?c1 ?c2 ?c3) (ret := ?_); (case c1 => assumption); (case c2 => assumption); (case c3 => assumption)) | (refine' Con.use (C := b64decode_con2 _ _ _ _ _ ?c1 ?c2 ?c3) (ret := ?_); (case c1 => assumption); (case c2 => assumption); (case c3 => assumption))); intro t9 h9 tk9 F9 N9; (try k_sweep); (try dsimp only))))
local macro_rules | `(tactic| walk_at "exec Assign cons ListComp") => `(tactic| ((with_reducible show wpAny _ _ (exec (Stmt.Assign _ (Expr.ListComp _ [⟨_, Expr.Call (Expr.Name (PySem.Str.ofString "range") _) _ _ _, _, _⟩] _ _) _) _) _ _ _); k_dflt (refine Assign_step (F₀ := by k_asm) (by rfl) (by with_unfolding_all rfl) (by with_unfolding_all rfl) (by decide) (by rfl) (by decide) (by rfl) (by rfl) (by rfl) ?_)))
local macro_rules | `(tactic| walk_at "ite") => `(tactic| (k_openite; first | (refine ite_isFalse (decide_eq_false (by omega)) ?_; walk_say "CUT") | (refine ite_isTrue (decide_eq_true (by omega)) ?_; walk_say "CUT")))
local macro_rules | `(tactic| walk_at "storeName") => `(tactic| ((with_reducible show wpAny _ _ (storeName _ (PySem.Str.ofString "written") _) _ _ _); refine Hold.out ?_))
local macro_rules | `(tactic| walk_at "call ref") => `(tactic| (k_dflt ((refine' ConR.use (C := page_con _ _ _ _ _ ?c1 ?c2 ?c3 ?c4 ?c5) (ret := ?_)); (case c1 => assumption); (case c2 => omega); (case c3 => omega); (case c4 => omega); (case c5 => omega); intro r9 o9 h9 tk9 V9 F9 N9 l9; (try dsimp only))))
local macro_rules | `(tactic| walk_at "eval ListComp") => `(tactic| ((with_reducible show wpAny _ _ (eval (Expr.ListComp _ [⟨Expr.Tuple _ _ _, _, _, _⟩] _ _) _) _ _ _); k_dflt (refine ListComp_P (F₀ := by k_asm) (by with_unfolding_all rfl) (by decide) (by rfl) (by decide) (by rfl) (by rfl) (by decide) ?_)))
local macro_rules | `(tactic| walk_at "SrcLP") => `(tactic| refine Hold.out ?_)
local macro_rules | `(tactic| walk_at "call ref") => `(tactic| (k_dflt ((refine' ConAR.use (C := sieve_con _ _ _ _ _ _ ?c1 ?c2 ?c3 ?c4) (ret := ?_)); (case c1 => assumption); (case c2 => assumption); (case c3 => omega); (case c4 => omega); rintro r9 o9 h9 tk9 ⟨us8, k8, e9, iSv⟩ F9 N9 l9; subst e9; rw [dots_fs (by assumption)] at iSv; (try dsimp only))))
local macro_rules | `(tactic| walk_at "UnrEndW") => `(tactic| refine Hold.out ?_)
theorem lw : PySem.Challenge.rw_pa0022_01.Holds := by
  refine hd ?_
  k_go0
  (all_goals try k_fold)
  iterate 34 (first | (k_unfold; (try dsimp only)) | (k_end; wrow_close) | walk1 | (dsimp only; walk1))
  k_steps
  refine ⟨?_⟩
  rename Fr _ _ _ _ => lF
  with_unfolding_all refine' For_turns lF ?_
  k_whole
  k_steps
  rename News _ _ _ _ => lN
  rename Fr _ _ _ _ => lF
  rename _ < _ ∧ _ < _ ∧ _ => lz
  rename Addr => lA
  refine ⟨?_⟩
  rename IntsAre _ _ => iFig
  rename ∀ (f : Int), f ∈ _ → 0 ≤ f ∧ f < 64 => bFig
  rename _ ∨ _ ∨ _ ∨ _ => lFig
  rename List Value => us9
  rename List Int => fs9
  k_dflt (refine' loop_two [PySem.Str.ofString "pages", PySem.Str.ofString "dots", PySem.Str.ofString "more", PySem.Str.ofString "bare", PySem.Str.ofString "told"] (by rfl) (by rfl) lF (news_drop34 lN) rfl rfl (by assumption) (by assumption) ?turn ?fin)
  case turn =>
    rintro I oI v h tk u oW oT vW vT hv hc dW dT lI F N
    try dsimp only at lI
    clear lF lN
    obtain ⟨d, t, rfl⟩ : ∃ (d : Bool) (t : Tok), v = .str (txt ((twoL d).map (·.toNat))) t := by
      rcases List.mem_cons.mp hv with e | hv
      · exact ⟨true, _, e.trans (by rw [← two_txt]; rfl)⟩
      · exact ⟨false, _, (List.mem_singleton.mp hv).trans (by rw [← two_txt]; rfl)⟩
    clear hv
    refine wpAny_assign_Name ?_
    k_dflt (refine stCN (own := [_, _, _, _]) (rest := []) F N rfl dT (own4 (by k_ne) (by k_ne) (by k_ne) (by k_ne)) own0 ?_)
    clear dT F N
    intro h5 oT' F5 N5 dT
    simp only [List.cons_append, List.nil_append] at N5
    (try dsimp only)
    have hsz9 : ((List.toArray us9).size : Int) = (fs9.length : Int) := by rw [List.size_toArray, iFig.length]
    have hlm : (fs9.map (sgn d)).length = fs9.length := List.length_map _
    have hl16 : fs9.length ≤ 1000 := by omega
    have hl4 : fs9.length % 4 = 0 := by omega
    have hne9 : fs9 ≠ [] := by intro e; rw [e] at lFig; simp at lFig
    have hE1 : ((twoL d).map (·.toNat)).map (·.toUInt8) = twoL d := by cases d <;> rfl
    have hE2 : ∀ c ∈ (twoL d).map (·.toNat), c < 128 := by cases d <;> decide
    have hE3 : ((twoL d).map (·.toNat)).length ≤ 1000 := by cases d <;> decide
    (try k_unmd); (try k_fold)
    k_steps
    refine ⟨?_⟩
    rename Fr _ _ _ _ => F6
    rename News _ _ _ _ => N6
    k_dflt (refine stCN (own := [_, _, _]) (rest := [_]) F6 N6 rfl dW (own3 (by k_ne) (by k_ne) (by k_ne)) (own1 (by k_ne)) ?_)
    clear dW F6 N6
    intro h7 oW' F7 N7 dW
    (try dsimp only)
    simp only [List.cons_append, List.nil_append] at N7
    k_steps
    rename IsRange _ _ _ _ _ _ _ _ => rgX
    have hplain : Plain (fs9.map (sgn d)) := plain_fs
    refine ⟨_, 1, (fs9.length : Int) + 1, 1, _, _, _, fs9.length, _, rfl, rfl, by k_asm, by k_asm, rgX, small_up (by omega), rangeSize_up, by rw [sizeLine_eq]; omega, ?_⟩
    rintro s₂ ⟨hh, rfl⟩
    refine rest_grow (fun i o => ∃ t u k, o = tupOf [.int (moreOf (i + 1) (fs9.map (sgn d))) t, .str (txt (fs9.map (sgn d))) u] k) (fun _ => trivial) ?_ ?_
    · rintro i v I2 oI2 C oC D2 m₂ ys h tk as E' hi ⟨t, rfl⟩ hC hx F1 N1 off ne
      rw [show (1 : Int) + (i : Int) * 1 = ((i + 1 : Nat) : Int) by omega] at hx
      simp only [List.cons_append, List.nil_append] at N1
      (try k_unmd); (try k_fold)
      k_steps
      exact ⟨_, _, _, _, rfl, rfl, by k_asm, by k_asm, by assumption, by assumption⟩
    · intro as has hV
      simp only [List.cons_append, List.nil_append]
      intro D2 h tk F1 N1 o1
      (try dsimp only)
      k_steps
      refine ⟨?_⟩
      rename News _ _ _ _ => N8
      rename Fr _ _ _ _ => F8
      refine SrcLP.ledger (by rfl) F8 N8 (by k_mem) (by rw [sizeLine_eq]; simp only [List.size_toArray, List.length_map]; omega) ?_
      intro g2
      have hsz2 : (List.toArray (as.map fun p => Value.ref p.1)).size = fs9.length := by simp only [List.size_toArray, List.length_map]; omega
      refine restP_stay (fun i y => ∃ x t, y = .int x t ∧ x = (moreOf (i + 1) (fs9.map (sgn d)) : Int)) (.inr ⟨_, by k_mem, rfl, _, rfl⟩) ?_ ?_
      · intro i v hi hv
        have hi' : i < as.length := by rw [hsz2] at hi; omega
        obtain ⟨t2, u2, k2, e2⟩ := hV i as[i] (List.getElem?_eq_getElem hi')
        have hv' : v = .ref (as[i]).1 := by
          have h1 : (as.map fun p => Value.ref p.1)[i]? = some v := by simpa using hv
          rw [List.getElem?_map, List.getElem?_eq_getElem hi'] at h1
          exact (Option.some.inj h1).symm
        have hpm : ((as[i]).1, (as[i]).2) ∈ as := List.getElem_mem hi'
        refine ⟨(as[i]).1, (as[i]).2, _, _, k2, hv', by (repeat (first | exact hpm | refine List.mem_cons_of_mem _ ?_)), by rw [e2], by rw [e2], ?_⟩
        intro I3 oI3 C oC D3 m₂ ys h tk E' hC hx hx₂ F3 N3 off ne
        (try k_unmd); (try k_fold)
        k_steps
        refine StayEnd.intro (by k_asm) (by k_asm) (fun q hq => hq) ⟨_, _, rfl, rfl⟩
      · intro ys hys hV3
        obtain ⟨ns, hnsI, hns⟩ := ints_eq hys hV3
        replace hns : ns = (List.range fs9.length).map fun i => sums (dotF (fs9.map (sgn d))) (i + 1) fs9.length := by
          rw [hns, hsz2]
          apply List.map_congr_left
          intro i _
          rw [more_sums (by omega), hlm]
        intro D3 h tk F1 N1 o1
        (try dsimp only)
        k_steps
        refine ⟨?_⟩
        rename Fr _ _ _ _ => F10
        with_unfolding_all refine' For_turns F10 ?_
        k_whole
        k_steps
        refine ⟨?_⟩
        rename Fr _ _ _ _ => F10
        rename News _ _ _ _ => N10
        k_dflt (refine' loop_stay [PySem.Str.ofString "more", PySem.Str.ofString "bare", PySem.Str.ofString "told"] (by rfl) (by rfl) F10 N10 (by k_mem) rfl rfl ?turn2 ?fin2)
        case turn2 =>
          intro I4 oI4 v h tk u4 hv hcl ho F11 N11
          clear F10
          obtain ⟨p, hp, rfl⟩ := List.mem_map.mp hv
          obtain ⟨i, hi⟩ := List.getElem?_of_mem hp
          obtain ⟨t2, u2, k2, e2⟩ := hV i p hi
          have hpm : (p.1, tupOf [.int (moreOf (i + 1) (fs9.map (sgn d))) t2, .str (txt (fs9.map (sgn d))) u2] k2) ∈ as := by rw [← e2]; exact hp
          k_dflt (refine assign_pairN (by rfl) (by rfl) F11 N11 (by (repeat (first | exact hpm | refine List.mem_cons_of_mem _ ?_))) (by rfl) (by rfl) (by rfl) ?_)
          clear F11 N11
          intro h12 tk12 F12 N12
          (try dsimp only)
          (try k_unmd); (try k_fold)
          k_steps
          refine ⟨?_⟩
          rename Fr _ _ _ _ => F13
          rename News _ _ _ _ => N13
          refine stay_end F13 N13 ho ?_
          intro z hz
          have hz2 := hz
          simp only [List.contains_cons, List.contains_nil, Bool.or_false, Bool.or_eq_false_iff, beq_eq_false_iff_ne, ne_eq] at hz2
          obtain ⟨z1, z2, z3⟩ := hz2
          simp only [z1, z2, z3, hz, if_false, Bool.false_eq_true]
        case fin2 =>
          intro h tk u4 F11 N11
          clear F10
          (try dsimp only)
          (try k_unmd); (try k_fold)
          k_steps
          refine ⟨?_⟩
          refine two_end F11 N11 (by k_ne) (by k_ne) (by k_ne) (by k_ne) dW dT ?_
          intro z hz
          have hz2 := hz
          simp only [List.contains_cons, List.contains_nil, Bool.or_false, Bool.or_eq_false_iff, beq_eq_false_iff_ne, ne_eq] at hz2
          obtain ⟨z1, z2, z3, z4, z5⟩ := hz2
          have hz3 : [PySem.Str.ofString "more", PySem.Str.ofString "bare", PySem.Str.ofString "told"].contains z = false := by
            simp only [List.contains_cons, List.contains_nil, Bool.or_false, Bool.or_eq_false_iff, beq_eq_false_iff_ne, ne_eq]
            exact ⟨z3, z4, z5⟩
          simp only [z1, z2, hz, hz3, if_false, Bool.false_eq_true]
  case fin =>
    intro h tk u oW oT vW vT dW dT F N
    clear lF lN
    (try dsimp only)
    (try k_unmd); (try k_fold)
    k_steps
end Mine
theorem PySem.Challenge.cw_pa0022_01_holds : PySem.Challenge.rw_pa0022_01.Holds :=
  Mine.lw
